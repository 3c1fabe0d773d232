import PyProof.Rows.All
import Wide.All
import OpenK.AllK
import Wide.FinOn
import Lean
import PySem.Challenge.RW_om0195_01
open List renaming getElem?_eq_some_iff -> aab, getElem?_eq_getElem -> aad, length_append -> aag, length_map -> aaR, getElem?_append_left -> aaY, all_eq_true -> aaZ, getElem?_map -> aa0, mem_cons -> abi, mem_append -> abn, getElem?_append_right -> abF, getD_eq_getElem?_getD -> abG, mem_singleton -> abH, mem_of_getElem? -> abW, append_nil -> ab5, mem_map -> ab6, mem_iff_getElem? -> acb, range -> acj, length_cons -> acn, map_append -> acq, getElem?_set_ne -> acr, drop_eq_getElem_cons -> acs, map_cons -> acu, append_assoc -> acx, getElem?_range -> acz, mem_range -> acB, nodup_cons -> acD, set_append_right -> acG, map_congr_left -> acH, getElem?_set -> acK, replicate -> acM, length_set -> acN, length_take -> acO, all_cons -> acP, length_nil -> acQ, mem_filter -> acR, not_mem_nil -> acS, eq_nil_of_length_eq_zero -> acT, getD -> acU, length_range -> acV, getElem?_eq_none -> acW, pairwise_append -> acZ, drop_eq_nil_of_le -> ac2, filter_append -> ac3, count_pos_iff -> ac4, count_cons -> ac7, getElem?_take -> ac9, length_filter_le -> ada, length -> ade, all_append -> adf, ext_getElem? -> adi, length_pos_iff -> adj, take_length -> adk, range_succ -> adq, nodup_append -> ads, count_append -> adt, mem_of_mem_take -> adu, mem_append_left -> adv, lookup_cons -> adw, getElem_mem -> ady, perm_iff_count -> adz, getElem?_set_self -> adC, take_of_length_le -> adD, flatten_cons -> adE, take_succ -> adG, set_append_left -> adK, of_mem_zip -> adO, find?_cons -> adP, zip_cons_cons -> adR, pairwise_cons -> adT, mem_filterMap -> adU, count_nil -> adW, pairwise_singleton -> adY, pairwise_map -> ad0, filter_eq_nil_iff -> ad7, drop_length -> aec, lookup_cons_self -> aed, count_cons_of_ne -> aee, all_map -> aeh, count_cons_self -> aei, nodup_nil -> aek, count_eq_zero -> aem, length_drop -> aet, map_map -> aeu, cons_append -> aev, map -> aew, nil_append -> aey, map_id -> aeA, drop_zero -> aeB, map_nil -> aeK, all_nil -> aeL
open Option renaming some -> aah, map_eq_some_iff -> abh, bind_eq_some_iff -> acJ, isSome_iff_exists -> acX, map_some -> acY
open Bool renaming and_eq_true -> abD, false_ne_true -> ack, and_eq_true_iff -> acA, or_eq_false_iff -> ac5, not_eq_true' -> ac6, true_and -> adN, false_eq_true -> adS, and_true -> aea, or_eq_true -> aeg, or_false -> aeE
open Nat renaming le_antisymm -> aac, le_refl -> abE, le_add_right -> ab2, le_trans -> ab3, le_of_succ_le_succ -> ab8, lt_of_le_of_ne -> aca, zero_le -> aci, le_of_lt -> aco, not_lt_of_ge -> acv, succ_pos -> acy, le_of_add_right_le -> acE, lt_irrefl -> acI, beq -> ac1, le_of_ble_eq_true -> adb, ne_of_lt -> adg, le_succ_of_le -> adh, le_add_right_of_le -> adl, pos_of_ne_zero -> adm, le_add_left -> ado, ble -> adp, lt_of_lt_of_le -> adB, sub_le -> adI, succ_le_succ -> adJ, lt_succ_of_lt -> adZ, le_of_not_lt -> aeb, not_succ_le_zero -> aef, lt_of_le_of_lt -> ael, le_of_lt_succ -> aeo, lt_of_succ_le -> aep, le_of_eq -> aes, mod_lt -> aeC, lt_trans -> aeF, zero_add -> aeH, lt_or_ge -> aeM
open Int renaming natCast_nonneg -> aa1, toNat_of_nonneg -> abC, le_refl -> acd, le_antisymm -> ace, toNat_natCast -> acw, le_trans -> acC, ofNat_le -> acF, ofNat_lt -> acL, le_of_lt -> ac0, fmod_eq_emod_of_nonneg -> ac8, not_lt_of_ge -> adx, toNat -> adH, zero_add -> adQ, not_lt -> adV, add_left_cancel -> aej, add_assoc -> aen, zero_mul -> aeq, add_zero -> aer, natCast_add -> aex, mul_add -> aez
open PySem PySem.W PyProof.Rows PySem.Calls
set_option Elab.async false
set_option maxRecDepth 100000
set_option maxHeartbeats 8000000
set_option linter.all false
set_option bootstrap.genMatcherCode false
set_option genSizeOf false
set_option backward.match.sparseCases false
namespace Mine
noncomputable section
theorem cps{G:Prop}(h:∀C:Prop,(G->C)->C):G:=h G id
theorem aI{A B:Prop}{G:Prop}(h:A/\B)(k:A->B->G):G:=k h.1 h.2
theorem bL{A B C:Prop}{G:Prop}(h:A/\B/\C)(k:A->B->C->G):G:=k h.1 h.2.1 h.2.2
theorem vU{A B C D:Prop}{G:Prop}(h:A/\B/\C/\D)(k:A->B->C->D->G):G:=k h.1 h.2.1 h.2.2.1 h.2.2.2
theorem vV{A B C D E:Prop}{G:Prop}(h:A/\B/\C/\D/\E)(k:A->B->C->D->E->G):G:=k h.1 h.2.1 h.2.2.1 h.2.2.2.1 h.2.2.2.2
theorem F9{A B C D E F:Prop}{G:Prop}(h:A/\B/\C/\D/\E/\F)(k:A->B->C->D->E->F->G):G:=k h.1 h.2.1 h.2.2.1 h.2.2.2.1 h.2.2.2.2.1 h.2.2.2.2.2
theorem KL{A B C D E F J:Prop}{G:Prop}(h:A/\B/\C/\D/\E/\F/\J)(k:A->B->C->D->E->F->J->G):G:=k h.1 h.2.1 h.2.2.1 h.2.2.2.1 h.2.2.2.2.1 h.2.2.2.2.2.1 h.2.2.2.2.2.2
theorem Va{A B C D E F J K:Prop}{G:Prop}(h:A/\B/\C/\D/\E/\F/\J/\K)(k:A->B->C->D->E->F->J->K->G):G:=k h.1 h.2.1 h.2.2.1 h.2.2.2.1 h.2.2.2.2.1 h.2.2.2.2.2.1 h.2.2.2.2.2.2.1 h.2.2.2.2.2.2.2
theorem KN{A B C D E F J K L:Prop}{G:Prop}(h:A/\B/\C/\D/\E/\F/\J/\K/\L)(k:A->B->C->D->E->F->J->K->L->G):G:=k h.1 h.2.1 h.2.2.1 h.2.2.2.1 h.2.2.2.2.1 h.2.2.2.2.2.1 h.2.2.2.2.2.2.1 h.2.2.2.2.2.2.2.1 h.2.2.2.2.2.2.2.2
theorem aA{α:Sort _}{A:α->Prop}{G:Prop}(h:∃a,A a)(k:∀a,A a->G):G:=h.elim fun a h=>k a h
theorem ah{α:Sort _}{A B:α->Prop}{G:Prop}(h:∃a,A a/\B a)(k:∀a,A a->B a->G):G:=h.elim fun a h=>k a h.1 h.2
theorem bD{α:Sort _}{A B C:α->Prop}{G:Prop}(h:∃a,A a/\B a/\C a)(k:∀a,A a->B a->C a->G):G:=h.elim fun a h=>k a h.1 h.2.1 h.2.2
theorem nf{α:Sort _}{A B C D:α->Prop}{G:Prop}(h:∃a,A a/\B a/\C a/\D a)(k:∀a,A a->B a->C a->D a->G):G:=h.elim fun a h=>k a h.1 h.2.1 h.2.2.1 h.2.2.2
theorem Vb{α:Sort _}{A B C D E:α->Prop}{G:Prop}(h:∃a,A a/\B a/\C a/\D a/\E a)(k:∀a,A a->B a->C a->D a->E a->G):G:=h.elim fun a h=>k a h.1 h.2.1 h.2.2.1 h.2.2.2.1 h.2.2.2.2
theorem KO{α:Sort _}{A B C D E F:α->Prop}{G:Prop}(h:∃a,A a/\B a/\C a/\D a/\E a/\F a)(k:∀a,A a->B a->C a->D a->E a->F a->G):G:=h.elim fun a h=>k a h.1 h.2.1 h.2.2.1 h.2.2.2.1 h.2.2.2.2.1 h.2.2.2.2.2
theorem Vc{α:Sort _}{A B C D E F J K L:α->Prop}{G:Prop}(h:∃a,A a/\B a/\C a/\D a/\E a/\F a/\J a/\K a/\L a)(k:∀a,A a->B a->C a->D a->E a->F a->J a->K a->L a->G):G:=h.elim fun a h=>k a h.1 h.2.1 h.2.2.1 h.2.2.2.1 h.2.2.2.2.1 h.2.2.2.2.2.1 h.2.2.2.2.2.2.1 h.2.2.2.2.2.2.2.1 h.2.2.2.2.2.2.2.2
theorem eP{α:Sort _}{β:Sort _}{A:α->β->Prop}{G:Prop}(h:∃a b,A a b)(k:∀a b,A a b->G):G:=h.elim fun a h=>h.elim fun b h=>k a b h
theorem dy{α:Sort _}{β:Sort _}{A B:α->β->Prop}{G:Prop}(h:∃a b,A a b/\B a b)(k:∀a b,A a b->B a b->G):G:=h.elim fun a h=>h.elim fun b h=>k a b h.1 h.2
theorem bG{α:Sort _}{β:Sort _}{A B C:α->β->Prop}{G:Prop}(h:∃a b,A a b/\B a b/\C a b)(k:∀a b,A a b->B a b->C a b->G):G:=h.elim fun a h=>h.elim fun b h=>k a b h.1 h.2.1 h.2.2
theorem ng{α:Sort _}{β:Sort _}{A B C D:α->β->Prop}{G:Prop}(h:∃a b,A a b/\B a b/\C a b/\D a b)(k:∀a b,A a b->B a b->C a b->D a b->G):G:=h.elim fun a h=>h.elim fun b h=>k a b h.1 h.2.1 h.2.2.1 h.2.2.2
theorem cI{α:Sort _}{β:Sort _}{A B C D E:α->β->Prop}{G:Prop}(h:∃a b,A a b/\B a b/\C a b/\D a b/\E a b)(k:∀a b,A a b->B a b->C a b->D a b->E a b->G):G:=h.elim fun a h=>h.elim fun b h=>k a b h.1 h.2.1 h.2.2.1 h.2.2.2.1 h.2.2.2.2
theorem KP{α:Sort _}{β:Sort _}{A B C D E F:α->β->Prop}{G:Prop}(h:∃a b,A a b/\B a b/\C a b/\D a b/\E a b/\F a b)(k:∀a b,A a b->B a b->C a b->D a b->E a b->F a b->G):G:=h.elim fun a h=>h.elim fun b h=>k a b h.1 h.2.1 h.2.2.1 h.2.2.2.1 h.2.2.2.2.1 h.2.2.2.2.2
theorem KQ{α:Sort _}{β:Sort _}{A B C D E F J:α->β->Prop}{G:Prop}(h:∃a b,A a b/\B a b/\C a b/\D a b/\E a b/\F a b/\J a b)(k:∀a b,A a b->B a b->C a b->D a b->E a b->F a b->J a b->G):G:=h.elim fun a h=>h.elim fun b h=>k a b h.1 h.2.1 h.2.2.1 h.2.2.2.1 h.2.2.2.2.1 h.2.2.2.2.2.1 h.2.2.2.2.2.2
theorem hY{α:Sort _}{β:Sort _}{γ:Sort _}{A:α->β->γ->Prop}{G:Prop}(h:∃a b c,A a b c)(k:∀a b c,A a b c->G):G:=h.elim fun a h=>h.elim fun b h=>h.elim fun c h=>k a b c h
theorem KR{α:Sort _}{β:Sort _}{γ:Sort _}{A B:α->β->γ->Prop}{G:Prop}(h:∃a b c,A a b c/\B a b c)(k:∀a b c,A a b c->B a b c->G):G:=h.elim fun a h=>h.elim fun b h=>h.elim fun c h=>k a b c h.1 h.2
theorem Ga{α:Sort _}{β:Sort _}{γ:Sort _}{A B C:α->β->γ->Prop}{G:Prop}(h:∃a b c,A a b c/\B a b c/\C a b c)(k:∀a b c,A a b c->B a b c->C a b c->G):G:=h.elim fun a h=>h.elim fun b h=>h.elim fun c h=>k a b c h.1 h.2.1 h.2.2
theorem cY{α:Sort _}{β:Sort _}{γ:Sort _}{A B C D:α->β->γ->Prop}{G:Prop}(h:∃a b c,A a b c/\B a b c/\C a b c/\D a b c)(k:∀a b c,A a b c->B a b c->C a b c->D a b c->G):G:=h.elim fun a h=>h.elim fun b h=>h.elim fun c h=>k a b c h.1 h.2.1 h.2.2.1 h.2.2.2
theorem nh{α:Sort _}{β:Sort _}{γ:Sort _}{A B C D E:α->β->γ->Prop}{G:Prop}(h:∃a b c,A a b c/\B a b c/\C a b c/\D a b c/\E a b c)(k:∀a b c,A a b c->B a b c->C a b c->D a b c->E a b c->G):G:=h.elim fun a h=>h.elim fun b h=>h.elim fun c h=>k a b c h.1 h.2.1 h.2.2.1 h.2.2.2.1 h.2.2.2.2
theorem B3{α:Sort _}{β:Sort _}{γ:Sort _}{A B C D E F:α->β->γ->Prop}{G:Prop}(h:∃a b c,A a b c/\B a b c/\C a b c/\D a b c/\E a b c/\F a b c)(k:∀a b c,A a b c->B a b c->C a b c->D a b c->E a b c->F a b c->G):G:=h.elim fun a h=>h.elim fun b h=>h.elim fun c h=>k a b c h.1 h.2.1 h.2.2.1 h.2.2.2.1 h.2.2.2.2.1 h.2.2.2.2.2
theorem Gb{α:Sort _}{β:Sort _}{γ:Sort _}{δ:Sort _}{A B:α->β->γ->δ->Prop}{G:Prop}(h:∃a b c d,A a b c d/\B a b c d)(k:∀a b c d,A a b c d->B a b c d->G):G:=h.elim fun a h=>h.elim fun b h=>h.elim fun c h=>h.elim fun d h=>k a b c d h.1 h.2
theorem yr{α:Sort _}{β:Sort _}{γ:Sort _}{δ:Sort _}{A B C D E F J K:α->β->γ->δ->Prop}{G:Prop}(h:∃a b c d,A a b c d/\B a b c d/\C a b c d/\D a b c d/\E a b c d/\F a b c d/\J a b c d/\K a b c d)(k:∀a b c d,A a b c d->B a b c d->C a b c d->D a b c d->E a b c d->F a b c d->J a b c d->K a b c d->G):G:=h.elim fun a h=>h.elim fun b h=>h.elim fun c h=>h.elim fun d h=>k a b c d h.1 h.2.1 h.2.2.1 h.2.2.2.1 h.2.2.2.2.1 h.2.2.2.2.2.1 h.2.2.2.2.2.2.1 h.2.2.2.2.2.2.2
theorem KS{α:Sort _}{β:Sort _}{γ:Sort _}{δ:Sort _}{ε:Sort _}{A B C:α->β->γ->δ->ε->Prop}{G:Prop}(h:∃a b c d e,A a b c d e/\B a b c d e/\C a b c d e)(k:∀a b c d e,A a b c d e->B a b c d e->C a b c d e->G):G:=h.elim fun a h=>h.elim fun b h=>h.elim fun c h=>h.elim fun d h=>h.elim fun e h=>k a b c d e h.1 h.2.1 h.2.2
theorem KU{α:Sort _}{β:Sort _}{γ:Sort _}{δ:Sort _}{ε:Sort _}{ζ:Sort _}{A B:α->β->γ->δ->ε->ζ->Prop}{G:Prop}(h:∃a b c d e f,A a b c d e f/\B a b c d e f)(k:∀a b c d e f,A a b c d e f->B a b c d e f->G):G:=h.elim fun a h=>h.elim fun b h=>h.elim fun c h=>h.elim fun d h=>h.elim fun e h=>h.elim fun f h=>k a b c d e f h.1 h.2
theorem sW{α:Sort _}{β:Sort _}{γ:Sort _}{δ:Sort _}{ε:Sort _}{ζ:Sort _}{A B C:α->β->γ->δ->ε->ζ->Prop}{G:Prop}(h:∃a b c d e f,A a b c d e f/\B a b c d e f/\C a b c d e f)(k:∀a b c d e f,A a b c d e f->B a b c d e f->C a b c d e f->G):G:=h.elim fun a h=>h.elim fun b h=>h.elim fun c h=>h.elim fun d h=>h.elim fun e h=>h.elim fun f h=>k a b c d e f h.1 h.2.1 h.2.2
theorem Gd{α:Sort _}{β:Sort _}{γ:Sort _}{δ:Sort _}{ε:Sort _}{ζ:Sort _}{A B C D:α->β->γ->δ->ε->ζ->Prop}{G:Prop}(h:∃a b c d e f,A a b c d e f/\B a b c d e f/\C a b c d e f/\D a b c d e f)(k:∀a b c d e f,A a b c d e f->B a b c d e f->C a b c d e f->D a b c d e f->G):G:=h.elim fun a h=>h.elim fun b h=>h.elim fun c h=>h.elim fun d h=>h.elim fun e h=>h.elim fun f h=>k a b c d e f h.1 h.2.1 h.2.2.1 h.2.2.2
theorem Vd{α:Sort _}{β:Sort _}{γ:Sort _}{δ:Sort _}{ε:Sort _}{ζ:Sort _}{A B C D E:α->β->γ->δ->ε->ζ->Prop}{G:Prop}(h:∃a b c d e f,A a b c d e f/\B a b c d e f/\C a b c d e f/\D a b c d e f/\E a b c d e f)(k:∀a b c d e f,A a b c d e f->B a b c d e f->C a b c d e f->D a b c d e f->E a b c d e f->G):G:=h.elim fun a h=>h.elim fun b h=>h.elim fun c h=>h.elim fun d h=>h.elim fun e h=>h.elim fun f h=>k a b c d e f h.1 h.2.1 h.2.2.1 h.2.2.2.1 h.2.2.2.2
theorem k5{α:Sort _}{β:Sort _}{P:α->β->Prop}(a:α)(b:β)(h:P a b):∃a b,P a b:=⟨a,b,h⟩
theorem sG{α:Sort _}{β:Sort _}{γ:Sort _}{P:α->β->γ->Prop}(a:α)(b:β)(c:γ)(h:P a b c):∃a b c,P a b c:=⟨a,b,c,h⟩
theorem in4{α:Sort _}{β:Sort _}{γ:Sort _}{δ:Sort _}{P:α->β->γ->δ->Prop}(a:α)(b:β)(c:γ)(d:δ)(h:P a b c d):∃a b c d,P a b c d:=⟨a,b,c,d,h⟩
theorem Ua{α:Sort _}{β:Sort _}{γ:Sort _}{δ:Sort _}{ε:Sort _}{P:α->β->γ->δ->ε->Prop}(a:α)(b:β)(c:γ)(d:δ)(e:ε)(h:P a b c d e):∃a b c d e,P a b c d e:=⟨a,b,c,d,e,h⟩
theorem Ge{α:Sort _}{β:Sort _}{γ:Sort _}{δ:Sort _}{ε:Sort _}{ζ:Sort _}{P:α->β->γ->δ->ε->ζ->Prop}(a:α)(b:β)(c:γ)(d:δ)(e:ε)(f:ζ)(h:P a b c d e f):∃a b c d e f,P a b c d e f:=⟨a,b,c,d,e,f,h⟩
theorem JQ{α:Sort _}{β:Sort _}{γ:Sort _}{δ:Sort _}{ε:Sort _}{ζ:Sort _}{η:Sort _}{θ:Sort _}{P:α->β->γ->δ->ε->ζ->η->θ->Prop}(a:α)(b:β)(c:γ)(d:δ)(e:ε)(f:ζ)(g:η)(i:θ)(h:P a b c d e f g i):∃a b c d e f g i,P a b c d e f g i:=⟨a,b,c,d,e,f,g,i,h⟩
theorem Gf{α:Sort _}{β:Sort _}{γ:Sort _}{δ:Sort _}{ε:Sort _}{ζ:Sort _}{η:Sort _}{θ:Sort _}{P:α->β->γ->δ->ε->ζ->η->θ->Prop}{G:Prop}(h:∃a b c d e f g i,P a b c d e f g i)(k:∀a b c d e f g i,P a b c d e f g i->G):G:=h.elim fun a h=>h.elim fun b h=>h.elim fun c h=>h.elim fun d h=>h.elim fun e h=>h.elim fun f h=>h.elim fun g h=>h.elim fun i h=>k a b c d e f g i h
theorem Ve{A B C D E F H I J K G:Prop}(h:A/\B/\C/\D/\E/\F/\H/\I/\J/\K)(k:A->B->C->D->E->F->H->I->J->K->G):G:=k h.1 h.2.1 h.2.2.1 h.2.2.2.1 h.2.2.2.2.1 h.2.2.2.2.2.1 h.2.2.2.2.2.2.1 h.2.2.2.2.2.2.2.1 h.2.2.2.2.2.2.2.2.1 h.2.2.2.2.2.2.2.2.2
theorem Vf{A B C D E F H I J K L M G:Prop}(h:A/\B/\C/\D/\E/\F/\H/\I/\J/\K/\L/\M)(k:A->B->C->D->E->F->H->I->J->K->L->M->G):G:=k h.1 h.2.1 h.2.2.1 h.2.2.2.1 h.2.2.2.2.1 h.2.2.2.2.2.1 h.2.2.2.2.2.2.1 h.2.2.2.2.2.2.2.1 h.2.2.2.2.2.2.2.2.1 h.2.2.2.2.2.2.2.2.2.1 h.2.2.2.2.2.2.2.2.2.2.1 h.2.2.2.2.2.2.2.2.2.2.2
theorem gm{n:Nat}{P:Prop}(h:n+3<3):P:=(Nat.not_lt_of_le (ado 3 n) h).elim
theorem aZ{α:Type}{x:α}{P:Prop}(h:none=some x):P:=nomatch h
theorem KV{α:Type}{x:α}{P:Prop}(h:some x=none):P:=nomatch h
theorem gu{P:Prop}(h:false=true):P:=nomatch h
theorem lI{P:Prop}(h:true=false):P:=nomatch h
theorem bg{α:Type}{x:α}{P:Prop}(h:x∈ []):P:=nomatch h
theorem Gg{α:Type}{x:α}{l:List α}{P:Prop}(h: []=x::l):P:=nomatch h
theorem yu{α:Type}{x:α}{l:List α}{P:Prop}(h:x::l= []):P:=nomatch h
theorem KY{n:Nat}{P:Prop}(h:0=n+1):P:=nomatch h
theorem Gh{n:Nat}{P:Prop}(h:n+1=0):P:=nomatch h
inductive vW where
 | v (i:Nat)
 | k (n:Nat)
 | a (x y:vW)
 | mu (n:Nat)(x:vW)
 | mr (n:Nat)(x:vW)
inductive fx where
 | v (i:Nat)
 | k (n:Nat)
 | a (x y:fx)
 | s (x y:fx)
 | c (t:vW)
 | mu (n:Nat)(x:fx)
 | mr (n:Nat)(x:fx)
noncomputable def jt(l:List Int):List Int->List Int:=List.rec (fun m=>m) (fun x Z ih m=>(x+m.headD 0)::ih m.tail) l
noncomputable def hZ(n:Int)(l:List Int):List Int:=List.rec [] (fun x Z ih=>n*x::ih) l
noncomputable def B4(i:Nat):List Int:=Nat.rec [1] (fun Z r=>0::r) i
noncomputable def bP(l:List Int):(Nat->Int)->Int:=List.rec (fun Z=>0) (fun x Z ih g=>x*g 0+ih fun i=>g (i+1)) l
theorem Gi(l:List Int)(g:Nat->Int):bP l g=l.headD 0*g 0+bP l.tail fun i=>g (i+1):=by
 cases l with
 | nil=>exact(aeq (g 0)).symm ▸ rfl
 | cons x r=>rfl
theorem dg(l:List Int):∀(m:List Int) (g:Nat->Int),bP (jt l m) g=bP l g+bP m g:=by
 induction l with
 | nil=>exact fun m g=>(adQ _).symm
 | cons x r ih=>intro m g;show(x+m.headD 0)*g 0+bP (jt r m.tail) _=x*g 0+bP r _+bP m g;rw[ih,Gi m g,Int.add_mul,aen,aen,Int.add_left_comm (m.headD 0*g 0)]
theorem cc(n:Int)(l:List Int):∀g:Nat->Int,bP (hZ n l) g=n*bP l g:=by
 induction l with
 | nil=>exact fun g=>(Int.mul_zero n).symm
 | cons x r ih=>intro g;show n*x*g 0+bP (hZ n r) _=n*(x*g 0+bP r _);rw[ih,aez,Int.mul_assoc]
theorem qw(i:Nat):∀g:Nat->Int,bP (0::B4 i) g=g (i+1):=by
 have h:∀g:Nat->Int,bP (B4 i) g=g i:=by
  induction i with
  | zero=>exact fun g=>(aer _).trans (Int.one_mul _)
  | succ i ih=>exact fun g=>(congrArg (· +_) (aeq _)).trans ((adQ _).trans (ih _))
 exact fun g=>(congrArg (· +_) (aeq _)).trans ((adQ _).trans (h _))
noncomputable def vX(b:List Int)(i:Nat):Int:=Nat.rec 1 (fun i Z=>b.getD i 0) i
noncomputable def qx(c:List Nat)(i:Nat):Int:=Nat.rec 1 (fun i Z=>(c.getD i 0:Nat)) i
noncomputable def vW.d (c:List Nat)(e:vW):Nat:=vW.rec (fun i=>c.getD i 0) (fun n=>n) (fun Z Z x y=>x+y) (fun n Z x=>n*x) (fun n Z x=>x*n) e
noncomputable def vW.f (e:vW):List Int:=vW.rec (fun i=>0::B4 i) (fun n=> [(n:Int)]) (fun Z Z x y=>jt x y) (fun n Z x=>hZ (n:Int) x) (fun n Z x=>hZ (n:Int) x) e
theorem l_k(n:Int)(g:Nat->Int)(h:g 0=1):n=bP [n] g:=by show n=n*g 0+0;rw[h,Int.mul_one,aer]
theorem l_4(a b c d:Int):(a+b)+(c+d)=(a+c)+(b+d):=by rw[aen,aen,Int.add_left_comm b]
theorem Vg(c:List Nat)(e:vW):((e.d c:Nat):Int)=bP e.f (qx c):=by
 induction e with
 | v i=>exact(qw i (qx c)).symm
 | k n=>exact l_k n _ rfl
 | a x y hx hy=>exact((aex (x.d c) (y.d c)).trans (hx ▸ hy ▸ rfl)).trans (dg x.f y.f _).symm
 | mu n x h=>exact((Int.natCast_mul n (x.d c)).trans (congrArg _ h)).trans (cc n x.f _).symm
 | mr n x h=>exact((Int.natCast_mul (x.d c) n).trans ((Int.mul_comm _ _).trans (congrArg _ h))).trans (cc n x.f _).symm
noncomputable def fx.d (c:List Nat)(b:List Int)(e:fx):Int:=
 fx.rec (fun i=>b.getD i 0) (fun n=>(n:Int)) (fun Z Z x y=>x+y) (fun Z Z x y=>x-y) (fun t=>((t.d c:Nat):Int)) (fun n Z x=>n*x) (fun n Z x=>x*n) e
noncomputable def fx.f (z:Bool)(e:fx):List Int:=
 fx.rec (fun i=>cond z (0::B4 i) []) (fun n=>cond z [(n:Int)] []) (fun Z Z x y=>jt x y) (fun Z Z x y=>jt x (hZ (-1) y)) (fun t=>cond z [] t.f) (fun n Z x=>hZ (n:Int) x) (fun n Z x=>hZ (n:Int) x) e
noncomputable def fx.g (e:fx)(c:List Nat)(b:List Int):Int:=bP (e.f true) (vX b)+bP (e.f false) (qx c)
theorem KZ(c:List Nat)(b:List Int)(e:fx):e.d c b=e.g c b:=by
 induction e with
 | v i=>exact((aer _).trans (qw i (vX b))).symm
 | k n=>exact(l_k n _ rfl).trans (aer _).symm
 | a x y hx hy=>show x.d c b+y.d c b=bP (jt (x.f true) (y.f true)) _+bP (jt (x.f false) (y.f false)) _;rw[hx,hy,dg,dg];exact l_4 _ _ _ _
 | s x y hx hy=>show x.d c b-y.d c b=bP (jt (x.f true) (hZ (-1) (y.f true))) _+bP (jt (x.f false) (hZ (-1) (y.f false))) _;rw[hx,hy,dg,dg,cc,cc];unfold fx.g;lia
 | c t=>exact(Vg c t).trans (adQ _).symm
 | mu n x h=>show(n:Int)*x.d c b=bP (hZ n (x.f true)) _+bP (hZ n (x.f false)) _;rw[h,cc,cc,<-aez];rfl
 | mr n x h=>show x.d c b*(n:Int)=bP (hZ n (x.f true)) _+bP (hZ n (x.f false)) _;rw[h,cc,cc,<-aez,Int.mul_comm];rfl
noncomputable def fx.e (e:fx):vW:=fx.rec (fun Z=>.k 0) (fun Z=>.k 0) (fun Z Z Z Z=>.k 0) (fun Z Z Z Z=>.k 0) (fun t=>t) (fun Z Z Z=>.k 0) (fun Z Z Z=>.k 0) e
noncomputable def fx.m (z:Bool)(x:fx):fx:=cond z (.c x.e) x
noncomputable def uC(c:List Nat)(b:List Int)(z:Bool)(x y:fx):Prop:=cond z (x.e.d c<=y.e.d c) (x.d c b<=y.d c b)
theorem qy(c:List Nat)(b:List Int)(z:Bool)(x y:fx):uC c b z x y↔(x.m z).d c b<=(y.m z).d c b:=by
 cases z
 ·exact Iff.rfl
 ·exact acF.symm
noncomputable def yv(c:List Nat)(b:List Int)(l:List (Nat×fx×fx))(P:Prop):Prop:=List.rec P (fun h Z ih=>uC c b (adp 8 h.1) h.2.1 h.2.2->ih) l
noncomputable def vY(z q:Bool)(n:Nat)(x y:fx):List Int:=hZ (n:Int) (jt ((y.m q).f z) (hZ (-1) ((x.m q).f z)))
noncomputable def qA(z:Bool)(l:List (Nat×fx×fx)):List Int:=List.rec [] (fun h Z ih=>jt (vY z (adp 8 h.1) (h.1 % 8) h.2.1 h.2.2) ih) l
theorem uD(c:List Nat)(b:List Int)(q:Bool)(n:Nat)(x y:fx):bP (vY true q n x y) (vX b)+bP (vY false q n x y) (qx c)=n*((y.m q).d c b-(x.m q).d c b):=by rw[KZ,KZ];show bP (hZ _ _) _+bP (hZ _ _) _=_;rw[cc,cc,dg,dg,cc,cc,<-aez];refine congrArg _ ?_;unfold fx.g;lia
theorem yw(c:List Nat)(b:List Int)(P:Prop)(l:List (Nat×fx×fx)):(0<=bP (qA true l) (vX b)+bP (qA false l) (qx c)->P)->yv c b l P:=by
 induction l with
 | nil=>exact fun h=>h (acd _)
 | cons f r ih=>refine fun h hf=>ih fun hr=>h ?_;show 0<=bP (jt (vY true (adp 8 f.1) (f.1 % 8) f.2.1 f.2.2) (qA true r)) _+bP (jt (vY false (adp 8 f.1) (f.1 % 8) f.2.1 f.2.2) (qA false r)) _;rw[dg,dg,l_4,uD];exact Int.add_nonneg (Int.mul_nonneg (aa1 _) (Int.sub_nonneg_of_le ((qy ..).mp hf))) hr
noncomputable def K0(l:List Int):Bool:=List.rec true (fun x Z ih=>decide (x=0)&&ih) l
noncomputable def K1(l:List Int):Bool:=List.rec true (fun x Z ih=>decide (0<=x)&&ih) l
theorem B5(l:List Int):∀g:Nat->Int,K0 l=true->bP l g=0:=by
 induction l with
 | nil=>exact fun Z Z=>rfl
 | cons x r ih=>intro g h;have h:=acA.mp h;show x*g 0+bP r _=0;rw[of_decide_eq_true h.1,ih _ h.2,aeq];rfl
theorem B6(l:List Int):∀g:Nat->Int,(∀i,0<=g i)->K1 l=true->0<=bP l g:=by
 induction l with
 | nil=>exact fun Z Z Z=>acd _
 | cons x r ih=>intro g hg h;have h:=acA.mp h;exact Int.add_nonneg (Int.mul_nonneg (of_decide_eq_true h.1) (hg 0)) (ih _ (fun i=>hg _) h.2)
noncomputable def JR(u:Nat)(q:Bool)(l:List (Nat×fx×fx))(x y:fx)(z:Bool):List Int:=jt (vY z q (u+1) x y) (hZ (-1) (qA z l))
noncomputable def B7(u:Nat)(q:Bool)(l:List (Nat×fx×fx))(x y:fx):Bool:=
 K0 (JR u q l x y true).tail&&(K1 (JR u q l x y false).tail&&decide (-(u:Int)<=(JR u q l x y true).headD 0+(JR u q l x y false).headD 0))
theorem B8{u:Nat}{q:Bool}{l:List (Nat×fx×fx)}{x y:fx}(h:B7 u q l x y=true)(c:List Nat)(b:List Int):yv c b l (uC c b q x y):=by refine yw c b _ l fun hl=>(qy ..).mpr ?_;have h1:=acA.mp h;have h2:=acA.mp h1.2;have ea:=(Gi (JR u q l x y true) (vX b)).trans (congrArg (_+ ·) (B5 _ _ h1.1));have eb:=Gi (JR u q l x y false) (qx c);have e2:=B6 _ (fun i=>qx c (i+1)) (fun i=>aa1 _) h2.1;have e3:=of_decide_eq_true h2.2;have e4:=uD c b q (u+1) x y;have e5:=(dg _ _ _).symm.trans ea;have e6:=(dg _ _ _).symm.trans eb;rw[cc,show vX b 0=1 from rfl,Int.mul_one]at e5;rw[cc,show qx c 0=1 from rfl,Int.mul_one]at e6;refine Int.le_of_not_gt fun hg=> ?_;have h3:(y.m q).d c b-(x.m q).d c b<= -1:=Int.le_sub_one_of_lt (Int.sub_neg_of_lt hg);have h4:=Int.mul_le_mul_of_nonneg_left h3 (aa1 (u+1));rw[<-e4]at h4;lia
noncomputable def sX(t:Nat):Nat->vW×Nat:=
 Nat.rec (fun n=>(.k 0,n)) (fun Z rd n=>
  cond (adp (n % 16) 8) (.v (n % 16),n / 16)
  (cond (ac1 (n % 16) 9) (.a (rd (n / 16)).1 (rd (rd (n / 16)).2).1,(rd (rd (n / 16)).2).2)
  (cond (ac1 (n % 16) 15) (cond (ac1 (n / 16 % 16) 15) (.mu (n / 256 % 256) (rd (n / 65536)).1,(rd (n / 65536)).2) (cond (ac1 (n / 16 % 16) 13) (.mr (n / 256 % 256) (rd (n / 65536)).1,(rd (n / 65536)).2) (cond (ac1 (n / 16 % 16) 14) (.k (n / 256 % 16 ^ 16),n / 256 / 16 ^ 16) (.k (n / 256 % 16 ^ (n / 16 % 16)),n / 256 / 16 ^ (n / 16 % 16))))) (.k (n % 16-10),n / 16)))) t
noncomputable def yx(t:Nat):Nat->fx×Nat:=
 Nat.rec (fun n=>(.k 0,n)) (fun Z rd n=>
  cond (adp (n % 16) 7) (.v (n % 16),n / 16)
  (cond (ac1 (n % 16) 8) (.c (sX 20 (n / 16)).1,(sX 20 (n / 16)).2)
  (cond (ac1 (n % 16) 9) (.a (rd (n / 16)).1 (rd (rd (n / 16)).2).1,(rd (rd (n / 16)).2).2)
  (cond (ac1 (n % 16) 14) (.s (rd (n / 16)).1 (rd (rd (n / 16)).2).1,(rd (rd (n / 16)).2).2)
  (cond (ac1 (n % 16) 15) (cond (ac1 (n / 16 % 16) 15) (.mu (n / 256 % 256) (rd (n / 65536)).1,(rd (n / 65536)).2) (cond (ac1 (n / 16 % 16) 13) (.mr (n / 256 % 256) (rd (n / 65536)).1,(rd (n / 65536)).2) (cond (ac1 (n / 16 % 16) 14) (.k (n / 256 % 16 ^ 16),n / 256 / 16 ^ 16) (.k (n / 256 % 16 ^ (n / 16 % 16)),n / 256 / 16 ^ (n / 16 % 16))))) (.k (n % 16-10),n / 16)))))) t
noncomputable def B9(q:Bool)(n:Nat):(fx×fx)×Nat:=
 cond q ((.c (sX 20 n).1,.c (sX 20 (sX 20 n).2).1),(sX 20 (sX 20 n).2).2)
  (((yx 20 n).1,(yx 20 (yx 20 n).2).1),(yx 20 (yx 20 n).2).2)
noncomputable def Ca(t:Nat):Nat->List (Nat×fx×fx)×Nat:=
 Nat.rec (fun n=>([],n)) (fun Z rl n=>((n % 16,(B9 (adp 8 (n % 16)) (n / 16)).1)::(rl (B9 (adp 8 (n % 16)) (n / 16)).2).1,(rl (B9 (adp 8 (n % 16)) (n / 16)).2).2)) t
noncomputable def vZ(n:Nat):fx×fx:=(B9 (adp 8 (n % 16)) (Ca (n / 16 % 16) (n / 256)).2).1
noncomputable def BH(c:List Nat)(b:List Int)(n:Nat):Prop:=
 cond (B7 (n % 8) (adp 8 (n % 16)) (Ca (n / 16 % 16) (n / 256)).1 (vZ n).1 (vZ n).2)
  (yv c b (Ca (n / 16 % 16) (n / 256)).1 (uC c b (adp 8 (n % 16)) (vZ n).1 (vZ n).2)) True
theorem lx(c:List Nat)(b:List Int)(n:Nat):BH c b n:=by
 show cond (B7 _ _ _ _ _) _ _;cases h:B7 (n % 8) (adp 8 (n % 16)) (Ca (n / 16 % 16) (n / 256)).1 (vZ n).1 (vZ n).2 with
 | true=>exact B8 h c b
 | false=>trivial
theorem bh{a b:Nat}(h:a=b):a<=b:=h ▸ abE a
theorem bl{a b:Nat}(h:a=b):b<=a:=h ▸ abE a
theorem JS{a b:Nat}(h:¬a<=b):b<a:=Nat.lt_of_not_le h
theorem ic{a b:Nat}(h:¬a<b):b<=a:=aeb h
theorem cB{P:Prop}(h:1<=0):P:=(aef 0 h).elim
theorem ij{a b:Int}(h:a=b):a<=b:=h ▸ acd a
theorem jv{a b:Int}(h:a=b):b<=a:=h ▸ acd a
theorem liD{a b:Int}(h:¬a<b):b<=a:=adV.mp h
theorem eH{a b:Nat}:a<=a-b+b:=Nat.sub_le_iff_le_add.mp (abE _)
theorem cA{a b:Nat}(h:b<=a):a-b+b<=a:=aes (Nat.sub_add_cancel h)
theorem qh{a:Nat}:a / 2+a / 2<=a:=by lia
theorem Vh{a:Nat}:a<=a / 2+a / 2+1:=by lia
theorem bY{a:Nat}(n:Nat):BH [a] [] n:=lx _ _ n
theorem ba{a b:Nat}(n:Nat):BH [a,b] [] n:=lx _ _ n
theorem bj{a b c:Nat}(n:Nat):BH [a,b,c] [] n:=lx _ _ n
theorem dZ{a b c d:Nat}(n:Nat):BH [a,b,c,d] [] n:=lx _ _ n
theorem nj{a b c d e:Nat}(n:Nat):BH [a,b,c,d,e] [] n:=lx _ _ n
theorem K2{a b c d e f:Nat}(n:Nat):BH [a,b,c,d,e,f] [] n:=lx _ _ n
theorem JT{a:Int}(n:Nat):BH [] [a] n:=lx _ _ n
theorem Cb{a b:Int}(n:Nat):BH [] [a,b] n:=lx _ _ n
theorem li3{a b c:Int}(n:Nat):BH [] [a,b,c] n:=lx _ _ n
theorem Cc{p:Nat}(h:p<3):p=0\/p=1\/p=2:=
 (Nat.lt_or_eq_of_le (aeo h)).elim (fun h=>(Nat.lt_or_eq_of_le (aeo h)).elim (fun h=>.inl (Nat.lt_one_iff.mp h)) fun h=>.inr (.inl h)) fun h=>.inr (.inr h)
theorem Vi(a:Nat){j:Nat}(h1:¬j<a)(h2:j<a+3):j=a\/j=a+1\/j=a+2:=by have e:j=a+(j-a):=(Nat.add_sub_cancel' (aeb h1)).symm;have h:=Cc (Nat.lt_of_add_lt_add_left (e ▸ h2:a+(j-a)<a+3));exact h.imp (fun q=>e.trans (congrArg (a+ ·) q)) (.imp (fun q=>e.trans (congrArg (a+ ·) q)) fun q=>e.trans (congrArg (a+ ·) q))
theorem lfQ{i p:Nat}(h0:0<i)(h:(i-1) / 2=p):i=2*p+1\/i=2*p+2:=by
 cases i with
 | zero=>exact absurd h0 (acI 0)
 | succ n=>have e:=Nat.div_add_mod n 2;rw[show n / 2=p from h]at e;exact(Nat.mod_two_eq_zero_or_one n).imp (fun q=>congrArg (· +1) ((q ▸ e).symm:n=2*p+0)) fun q=>congrArg (· +1) ((q ▸ e).symm:n=2*p+1)
theorem EV{α:Type}{l:List α}{s k:Nat}:((l.drop s).take k).length<=l.length:=ab3 (List.length_take_le' _ _) (aet ▸ adI _ _)
theorem lfM(n m:Nat):max (0:Int) (min (n:Int) (m:Int))=((min n m:Nat):Int):=
 (Nat.le_total n m).elim (fun h=>by rw[Nat.min_eq_left h,Int.min_eq_left (acF.mpr h)];exact Int.max_eq_right (aa1 _)) fun h=>by rw[Nat.min_eq_right h,Int.min_eq_right (acF.mpr h)];exact Int.max_eq_right (aa1 _)
theorem Vj{a:Int}{n:Nat}(h0:0<=a)(h:a<n):a.toNat<n:=(Int.toNat_lt h0).mpr h
noncomputable abbrev pw:Program:=PySem.Challenge.pw_om0195_01
noncomputable abbrev s(x:String):Str:=Str.ofString x
noncomputable def alt:Bool->List Obj->List Obj
 | _,[]=> []
 | b,x::r=>cond b (x::alt false r) (alt true r)
noncomputable def bt:Nat->List Obj->BT
 | 0,_=>.nil
 | n+1,l=>l.casesOn .nil fun x r=>.node x (bt n (alt true r)) (bt n (alt false r))
theorem uE(l:List Obj):∀i:Nat,(alt true l)[i]? =l[2*i]? /\(alt false l)[i]? =l[2*i+1]? :=by
 induction l with
 | nil=>exact fun i=>⟨rfl,rfl⟩
 | cons x r ih=>exact fun i=>⟨by cases i with
  | zero=>rfl
  | succ i=>exact(ih i).2,(ih i).1⟩
theorem Cd(l:List Obj):∀b,(alt b l).length<=l.length:=by
 induction l with
 | nil=>exact fun Z=>abE _
 | cons x r ih=>
  intro b;cases b with
  | true=>exact adJ (ih false)
  | false=>exact adh (ih true)
theorem Gj(n:Nat):∀(l:List Obj) (i:Nat),l.length<=n->(bt n l).get i=l[i]? :=by
 induction n with
 | zero=>exact fun l i h=>acT (Nat.le_zero.mp h) ▸ rfl
 | succ n ih=>
  intro l i h;cases l with
  | nil=>rfl
  | cons x r=>
   have ih:=fun b i=>ih (alt b r) i (ab3 (Cd r b) (ab8 h));show(BT.node x (bt n (alt true r)) (bt n (alt false r))).get i=_;rw[BT.get_node,ih,ih,(uE r _).1,(uE r _).2];cases i with
   | zero=>rfl
   | succ j=>
    rw[if_neg (Nat.succ_ne_zero j)];have e:=Nat.div_add_mod (j+1) 2;show _=r[j]?;rcases Nat.mod_two_eq_zero_or_one (j+1)with p | p <;> rw[p]at e ⊢
    ·refine(if_neg Nat.zero_ne_one).trans ?_;revert e;cases(j+1) / 2 with
     | zero=>exact fun e=>(Nat.succ_ne_zero j e.symm).elim
     | succ q=>exact fun e=>congrArg (r[·]?) (Nat.succ.inj (show(2*q+1)+1=j+1 from e))
    ·exact(if_pos rfl).trans (congrArg (r[·]?) (Nat.succ.inj e))
noncomputable def toT(x:Shared):SharedT:=⟨bt x.heap.objs.size x.heap.objs.toList,x.heap.objs.size,x.heap.life,x.gens,x.drawn,x.toks,x.os⟩
theorem Ce(x:Shared):(toT x).abs=x:=by
 obtain⟨⟨objs,life⟩,gens,drawn,toks,os⟩:=x;unfold toT SharedT.abs absHeap;simp only[Shared.mk.injEq,Heap.mk.injEq,and_true];apply Array.ext';rw[BT.list];apply adi;intro i;simp only[aa0];by_cases h:i<objs.size
 ·rw[acz h];simp only[acY];rw[Gj _ _ _ (by simp)];simp[h]
 ·rw[acW (by simp;lia)];simp;lia
noncomputable abbrev vs(x:String)(t:Tok):Value:=.str (Str.ofString x) t
noncomputable abbrev de(P:Params)(x:String)(t:Tok)(v:Value):DictEntry:=⟨PyData.keyHash P (Str.ofString x),.str (Str.ofString x) t,v⟩
noncomputable def Cf:Stmt:=.Pass ⟨0,0,0,0⟩
noncomputable def st(i:Nat):Stmt:=(pw.main.body[i]?).getD Cf
noncomputable def cst(i j:Nat):Stmt:=match st i with
 | .ClassDef _ _ _ b _ _ _ _ _ _ _=>(b[j]?).getD Cf
 | _=>Cf
noncomputable def fd(x:Stmt)(qual:String)(dV kV doc pm:Value)(an:Option Addr)(dS ct:Value):FuncData:=match x with
 | .FunctionDef name args body _ _ _ scope _ _ _=>fnOf name (Str.ofString qual) args body scope dV kV doc pm an dS ct
 | _=>default
noncomputable def KK:Params->Frag:=fun P=> [
 (1,⟨(.type "dict"),none,(.dict #[(de P "builtins" 162 (.ref 4)),(de P "__main__" 163 (.ref 5)),(de P "_collections" 246 (.ref 13))] 3),#[]⟩),
 (2,⟨.none,none,(.dict #[(de P "\x69mport.loaded._collections" 185 (.bool true)),(de P "class._frozen_importlib.BuiltinImporter" 187 (.ref 15)),(de P "watched.\x69mport" 208 (.ref 19)),(de P "class._frozen_importlib.ModuleSpec" 218 (.ref 23)),(de P "sys.modules.booked-epoch" 247 (.int 3 0)),(de P "sys.modules.landed._collections" 248 (.bool true)),(de P "\x69mport.later-laid._collections" 263 (.bool true)),(de P "watched.library" 265 (.ref 28)),(de P "watched.library-objects" 0 (.str ⟨#[13]⟩ 0)),(de P "watched.library-deep._collections" 266 (.str ⟨#[4,0,0,12,4,0,0,12,4,0,0,3,4,0,0,12,8,4,100,105,99,116,2]⟩ 0)),(de P "type.__subclasses__.OSError.0" 608 (.int 253 0)),(de P "type.__subclasses__.OSError.n" 609 (.int 1 0))] 12),#[]⟩),
 (3,⟨(.type "dict"),none,(.dict #[(de P "__name__" 165 (vs "law_om0195_01" 1428)),(de P "__doc__" 166 .none),(de P "__package__" 167 .none),(de P "__loader__" 168 (.builtin "__main__.__loader__#opaque")),(de P "__spec__" 169 .none),(de P "__annotations__" 170 (.ref 6)),(de P "__builtins__" 171 (.ref 4)),(de P "__file__" 173 (vs "/claim/cut.py" 172)),(de P "__cached__" 174 .none),(de P "deque" 272 (.type "collections.deque")),(de P "_wall" 285 (.ref 39)),(de P "_netrclex" 345 (.ref 77)),(de P "_NODE_OUT" 350 (.int (-1) 349)),(de P "_NODE_DONE" 353 (.int (-2) 352)),(de P "_NodeInfo" 390 (.ref 100)),(de P "CycleError" 408 (.ref 115)),(de P "TopologicalSorter" 527 (.ref 197)),(de P "heappush" 537 (.ref 208)),(de P "heappop" 546 (.ref 215)),(de P "_siftdown" 558 (.ref 222)),(de P "_siftup" 571 (.ref 229)),(de P "_whence" 581 (.ref 236)),(de P "_index" 589 (.ref 243)),(de P "UnsupportedOperation" 611 (.ref 253)),(de P "IOBase" 643 (.ref 273)),(de P "BufferedIOBase" 661 (.ref 288)),(de P "TextIOBase" 679 (.ref 300)),(de P "BytesIO" 941 (.ref 530)),(de P "StringIO" 1228 (.ref 777)),(de P "_kind" 1239 (.ref 786)),(de P "_fspath" 1248 (.ref 793)),(de P "_check_arg_types" 1258 (.ref 800)),(de P "isabs" 1265 (.ref 807)),(de P "join" 1276 (.ref 814)),(de P "dirname" 1286 (.ref 821)),(de P "shlex" 1427 (.ref 912)),(de P "_law_word" 1437 (.ref 923)),(de P "_law_written" 1443 (.ref 928)),(de P "_law_send" 1454 (.ref 935)),(de P "_law_take" 1464 (.ref 942)),(de P "_law_put_out" 1470 (.ref 947)),(de P "_law_empty_lines" 1479 (.ref 954)),(de P "law" 1485 (.ref 959))] 43),#[]⟩),
 (52,⟨(.type "code"),none,(.fields #[(vs "__init__" 300),(vs "_netrclex.__init__" 301),(vs "/claim/cut.py" 302),(.int 8 0),(.int 2 0),(.int 0 0),(.int 0 0),(.int 3 0),(.ref 47),(.bool true),(.int 273 0),(.ref 48),.none,(.ref 49),(.ref 50),(.ref 51),(.int 305 0),(.int 8 0),(vs "/claim/cut.py" 306)]),#[]⟩),
 (53,⟨(.type "function"),none,(.func (fd (cst 3 0) "_netrclex.__init__" .none .none .none (vs "cpy313.netrc" 286) none (.ref 52) .none)),#[]⟩),
 (59,⟨(.type "code"),none,(.fields #[(vs "_read_char" 308),(vs "_netrclex._read_char" 309),(vs "/claim/cut.py" 310),(.int 14 0),(.int 1 0),(.int 0 0),(.int 0 0),(.int 3 0),(.ref 54),(.bool true),(.int 273 0),(.ref 55),.none,(.ref 56),(.ref 57),(.ref 58),(.int 313 0),(.int 14 0),(vs "/claim/cut.py" 314)]),#[]⟩),
 (60,⟨(.type "function"),none,(.func (fd (cst 3 1) "_netrclex._read_char" .none .none .none (vs "cpy313.netrc" 286) none (.ref 59) .none)),#[]⟩),
 (66,⟨(.type "code"),none,(.fields #[(vs "get_token" 316),(vs "_netrclex.get_token" 317),(vs "/claim/cut.py" 318),(.int 20 0),(.int 1 0),(.int 0 0),(.int 0 0),(.int 3 0),(.ref 61),(.bool true),(.int 273 0),(.ref 62),.none,(.ref 63),(.ref 64),(.ref 65),(.int 323 0),(.int 20 0),(vs "/claim/cut.py" 324)]),#[]⟩),
 (67,⟨(.type "function"),none,(.func (fd (cst 3 2) "_netrclex.get_token" .none .none .none (vs "cpy313.netrc" 286) none (.ref 66) .none)),#[]⟩),
 (73,⟨(.type "code"),none,(.fields #[(vs "push_token" 326),(vs "_netrclex.push_token" 327),(vs "/claim/cut.py" 328),(.int 47 0),(.int 2 0),(.int 0 0),(.int 0 0),(.int 3 0),(.ref 68),(.bool true),(.int 273 0),(.ref 69),.none,(.ref 70),(.ref 71),(.ref 72),(.int 331 0),(.int 47 0),(vs "/claim/cut.py" 332)]),#[]⟩),
 (74,⟨(.type "function"),none,(.func (fd (cst 3 3) "_netrclex.push_token" .none .none .none (vs "cpy313.netrc" 286) none (.ref 73) .none)),#[]⟩),
 (76,⟨(.type "dict"),none,(.dict #[(de P "__module__" 295 (vs "cpy313.netrc" 286)),(de P "__firstlineno__" 299 (.int 6 298)),(de P "__init__" 307 (.ref 53)),(de P "_read_char" 315 (.ref 60)),(de P "get_token" 325 (.ref 67)),(de P "push_token" 333 (.ref 74)),(de P "__static_attributes__" 338 (.ref 75)),(de P "__dict__" 340 (.ref 78)),(de P "__weakref__" 342 (.ref 79)),(de P "__doc__" 343 .none)] 4),#[]⟩),
 (77,⟨(.type "type"),none,(.cls ⟨s "_netrclex",[(.type "object")],[(.ref 77),(.type "object")],76,s "_netrclex",true,[],[],false,none,false⟩),#[none,none,(some (vs "_netrclex" 288)),(some (vs "_netrclex" 296)),(some (.builtin "object.__new__")),(some (.bool true))]⟩),
 (95,⟨(.type "code"),none,(.fields #[(vs "__init__" 370),(vs "_NodeInfo.__init__" 371),(vs "/claim/cut.py" 372),(.int 55 0),(.int 2 0),(.int 0 0),(.int 0 0),(.int 3 0),(.ref 90),(.bool true),(.int 273 0),(.ref 91),.none,(.ref 92),(.ref 93),(.ref 94),(.int 375 0),(.int 55 0),(vs "/claim/cut.py" 376)]),#[]⟩),
 (96,⟨(.type "function"),none,(.func (fd (cst 7 1) "_NodeInfo.__init__" .none .none .none (vs "cpy313.graphlib" 346) none (.ref 95) .none)),#[]⟩),
 (99,⟨(.type "dict"),none,(.dict #[(de P "__module__" 361 (vs "cpy313.graphlib" 346)),(de P "__firstlineno__" 365 (.int 52 364)),(de P "__slots__" 369 (.ref 89)),(de P "__init__" 377 (.ref 96)),(de P "__static_attributes__" 381 (.ref 97)),(de P "node" 383 (.ref 101)),(de P "npredecessors" 385 (.ref 102)),(de P "successors" 387 (.ref 103)),(de P "__doc__" 388 .none)] 5),#[]⟩),
 (100,⟨(.type "type"),none,(.cls ⟨s "_NodeInfo",[(.type "object")],[(.ref 100),(.type "object")],99,s "_NodeInfo",false,[s "node",s "npredecessors",s "successors"],[],false,none,false⟩),#[none,none,(some (vs "_NodeInfo" 354)),(some (vs "_NodeInfo" 362)),(some (.builtin "object.__new__")),(some (.bool false))]⟩),
 (101,⟨(.type "member_descriptor"),none,(.fields #[(vs "node" 382),(.ref 100),(.builtin "proto.slot"),(.builtin "proto.slot#set"),(.int 2 0)]),#[]⟩),
 (102,⟨(.type "member_descriptor"),none,(.fields #[(vs "npredecessors" 384),(.ref 100),(.builtin "proto.slot"),(.builtin "proto.slot#set"),(.int 1 0)]),#[]⟩),
 (103,⟨(.type "member_descriptor"),none,(.fields #[(vs "successors" 386),(.ref 100),(.builtin "proto.slot"),(.builtin "proto.slot#set"),(.int 0 0)]),#[]⟩),
 (126,⟨(.type "tuple"),none,(.seq #[.none] 0),#[]⟩),
 (132,⟨(.type "code"),none,(.fields #[(vs "__init__" 421),(vs "TopologicalSorter.__init__" 422),(vs "/claim/cut.py" 423),(.int 63 0),(.int 2 0),(.int 0 0),(.int 0 0),(.int 3 0),(.ref 127),(.bool true),(.int 273 0),(.ref 128),.none,(.ref 129),(.ref 130),(.ref 131),(.int 428 0),(.int 63 0),(vs "/claim/cut.py" 429)]),#[]⟩),
 (133,⟨(.type "function"),none,(.func (fd (cst 9 0) "TopologicalSorter.__init__" (.ref 126) .none .none (vs "cpy313.graphlib" 346) none (.ref 132) .none)),#[]⟩),
 (139,⟨(.type "code"),none,(.fields #[(vs "_get_nodeinfo" 431),(vs "TopologicalSorter._get_nodeinfo" 432),(vs "/claim/cut.py" 433),(.int 72 0),(.int 2 0),(.int 0 0),(.int 0 0),(.int 3 0),(.ref 134),(.bool true),(.int 273 0),(.ref 135),.none,(.ref 136),(.ref 137),(.ref 138),(.int 437 0),(.int 72 0),(vs "/claim/cut.py" 438)]),#[]⟩),
 (140,⟨(.type "function"),none,(.func (fd (cst 9 1) "TopologicalSorter._get_nodeinfo" .none .none .none (vs "cpy313.graphlib" 346) none (.ref 139) .none)),#[]⟩),
 (146,⟨(.type "code"),none,(.fields #[(vs "add" 440),(vs "TopologicalSorter.add" 441),(vs "/claim/cut.py" 442),(.int 77 0),(.int 2 0),(.int 0 0),(.int 0 0),(.int 7 0),(.ref 141),(.bool true),(.int 273 0),(.ref 142),.none,(.ref 143),(.ref 144),(.ref 145),(.int 449 0),(.int 77 0),(vs "/claim/cut.py" 450)]),#[]⟩),
 (147,⟨(.type "function"),none,(.func (fd (cst 9 2) "TopologicalSorter.add" .none .none .none (vs "cpy313.graphlib" 346) none (.ref 146) .none)),#[]⟩),
 (151,⟨(.type "code"),none,(.fields #[(vs "prepare" 452),(vs "TopologicalSorter.prepare" 453),(vs "/claim/cut.py" 454),(.int 86 0),(.int 1 0),(.int 0 0),(.int 0 0),(.int 3 0),(.ref 148),(.bool true),(.int 273 0),(.ref 149),.none,.none,.none,(.ref 150),(.int 455 0),(.int 86 0),(vs "/claim/cut.py" 456)]),#[]⟩),
 (152,⟨(.type "function"),none,(.func (fd (cst 9 3) "TopologicalSorter.prepare" .none .none .none (vs "cpy313.graphlib" 346) none (.ref 151) .none)),#[]⟩),
 (158,⟨(.type "code"),none,(.fields #[(vs "get_ready" 458),(vs "TopologicalSorter.get_ready" 459),(vs "/claim/cut.py" 460),(.int 94 0),(.int 1 0),(.int 0 0),(.int 0 0),(.int 3 0),(.ref 153),(.bool true),(.int 273 0),(.ref 154),.none,(.ref 155),(.ref 156),(.ref 157),(.int 465 0),(.int 94 0),(vs "/claim/cut.py" 466)]),#[]⟩),
 (159,⟨(.type "function"),none,(.func (fd (cst 9 4) "TopologicalSorter.get_ready" .none .none .none (vs "cpy313.graphlib" 346) none (.ref 158) .none)),#[]⟩),
 (165,⟨(.type "code"),none,(.fields #[(vs "is_active" 468),(vs "TopologicalSorter.is_active" 469),(vs "/claim/cut.py" 470),(.int 105 0),(.int 1 0),(.int 0 0),(.int 0 0),(.int 3 0),(.ref 160),(.bool true),(.int 273 0),(.ref 161),.none,(.ref 162),(.ref 163),(.ref 164),(.int 472 0),(.int 105 0),(vs "/claim/cut.py" 473)]),#[]⟩),
 (166,⟨(.type "function"),none,(.func (fd (cst 9 5) "TopologicalSorter.is_active" .none .none .none (vs "cpy313.graphlib" 346) none (.ref 165) .none)),#[]⟩),
 (179,⟨(.type "code"),none,(.fields #[(vs "done" 482),(vs "TopologicalSorter.done" 483),(vs "/claim/cut.py" 484),(.int 113 0),(.int 1 0),(.int 0 0),(.int 0 0),(.int 7 0),(.ref 174),(.bool true),(.int 273 0),(.ref 175),.none,(.ref 176),(.ref 177),(.ref 178),(.int 493 0),(.int 113 0),(vs "/claim/cut.py" 494)]),#[]⟩),
 (180,⟨(.type "function"),none,(.func (fd (cst 9 7) "TopologicalSorter.done" .none .none .none (vs "cpy313.graphlib" 346) none (.ref 179) .none)),#[]⟩),
 (186,⟨(.type "code"),none,(.fields #[(vs "_find_cycle" 496),(vs "TopologicalSorter._find_cycle" 497),(vs "/claim/cut.py" 498),(.int 136 0),(.int 1 0),(.int 0 0),(.int 0 0),(.int 3 0),(.ref 181),(.bool true),(.int 273 0),(.ref 182),.none,(.ref 183),(.ref 184),(.ref 185),(.int 506 0),(.int 136 0),(vs "/claim/cut.py" 507)]),#[]⟩),
 (187,⟨(.type "function"),none,(.func (fd (cst 9 8) "TopologicalSorter._find_cycle" .none .none .none (vs "cpy313.graphlib" 346) none (.ref 186) .none)),#[]⟩),
 (196,⟨(.type "dict"),none,(.dict #[(de P "__module__" 416 (vs "cpy313.graphlib" 346)),(de P "__firstlineno__" 420 (.int 61 419)),(de P "__init__" 430 (.ref 133)),(de P "_get_nodeinfo" 439 (.ref 140)),(de P "add" 451 (.ref 147)),(de P "prepare" 457 (.ref 152)),(de P "get_ready" 467 (.ref 159)),(de P "is_active" 474 (.ref 166)),(de P "__bool__" 481 (.ref 173)),(de P "done" 495 (.ref 180)),(de P "_find_cycle" 508 (.ref 187)),(de P "static_order" 515 (.ref 194)),(de P "__static_attributes__" 520 (.ref 195)),(de P "__dict__" 522 (.ref 198)),(de P "__weakref__" 524 (.ref 199)),(de P "__doc__" 525 .none)] 4),#[]⟩),
 (197,⟨(.type "type"),none,(.cls ⟨s "TopologicalSorter",[(.type "object")],[(.ref 197),(.type "object")],196,s "TopologicalSorter",true,[],[],false,none,false⟩),#[none,none,(some (vs "TopologicalSorter" 409)),(some (vs "TopologicalSorter" 417)),(some (.builtin "object.__new__")),(some (.bool true))]⟩),
 (207,⟨(.type "code"),none,(.fields #[(vs "heappush" 530),(vs "heappush" 531),(vs "/claim/cut.py" 532),(.int 168 0),(.int 2 0),(.int 0 0),(.int 0 0),(.int 3 0),(.ref 202),(.bool true),(.int 273 0),(.ref 203),.none,(.ref 204),(.ref 205),(.ref 206),(.int 535 0),(.int 168 0),(vs "/claim/cut.py" 536)]),#[]⟩),
 (208,⟨(.type "function"),none,(.func (fd (st 11) "heappush" .none .none .none (vs "cpy313.heapq" 528) none (.ref 207) .none)),#[]⟩),
 (214,⟨(.type "code"),none,(.fields #[(vs "heappop" 538),(vs "heappop" 539),(vs "/claim/cut.py" 540),(.int 171 0),(.int 1 0),(.int 0 0),(.int 0 0),(.int 3 0),(.ref 209),(.bool true),(.int 273 0),(.ref 210),.none,(.ref 211),(.ref 212),(.ref 213),(.int 544 0),(.int 171 0),(vs "/claim/cut.py" 545)]),#[]⟩),
 (215,⟨(.type "function"),none,(.func (fd (st 12) "heappop" .none .none .none (vs "cpy313.heapq" 528) none (.ref 214) .none)),#[]⟩),
 (221,⟨(.type "code"),none,(.fields #[(vs "_siftdown" 547),(vs "_siftdown" 548),(vs "/claim/cut.py" 549),(.int 179 0),(.int 3 0),(.int 0 0),(.int 0 0),(.int 3 0),(.ref 216),(.bool true),(.int 273 0),(.ref 217),.none,(.ref 218),(.ref 219),(.ref 220),(.int 556 0),(.int 179 0),(vs "/claim/cut.py" 557)]),#[]⟩),
 (222,⟨(.type "function"),none,(.func (fd (st 13) "_siftdown" .none .none .none (vs "cpy313.heapq" 528) none (.ref 221) .none)),#[]⟩),
 (228,⟨(.type "code"),none,(.fields #[(vs "_siftup" 559),(vs "_siftup" 560),(vs "/claim/cut.py" 561),(.int 190 0),(.int 2 0),(.int 0 0),(.int 0 0),(.int 3 0),(.ref 223),(.bool true),(.int 273 0),(.ref 224),.none,(.ref 225),(.ref 226),(.ref 227),(.int 569 0),(.int 190 0),(vs "/claim/cut.py" 570)]),#[]⟩),
 (229,⟨(.type "function"),none,(.func (fd (st 14) "_siftup" .none .none .none (vs "cpy313.heapq" 528) none (.ref 228) .none)),#[]⟩),
 (242,⟨(.type "code"),none,(.fields #[(vs "_index" 582),(vs "_index" 583),(vs "/claim/cut.py" 584),(.int 210 0),(.int 2 0),(.int 0 0),(.int 0 0),(.int 3 0),(.ref 237),(.bool true),(.int 273 0),(.ref 238),.none,(.ref 239),(.ref 240),(.ref 241),(.int 587 0),(.int 210 0),(vs "/claim/cut.py" 588)]),#[]⟩),
 (243,⟨(.type "function"),none,(.func (fd (st 17) "_index" .none .none .none (vs "io" 572) none (.ref 242) .none)),#[]⟩),
 (269,⟨(.type "code"),none,(.fields #[(vs "__new__" 626),(vs "IOBase.__new__" 627),(vs "/claim/cut.py" 628),(.int 222 0),(.int 1 0),(.int 1 0),(.int 0 0),(.int 15 0),(.ref 264),(.bool true),(.int 273 0),(.ref 265),.none,(.ref 266),(.ref 267),(.ref 268),(.int 632 0),(.int 222 0),(vs "/claim/cut.py" 633)]),#[]⟩),
 (270,⟨(.type "function"),none,(.func (fd (cst 19 1) "IOBase.__new__" .none .none .none (vs "io" 572) none (.ref 269) .none)),#[]⟩),
 (272,⟨(.type "dict"),none,(.dict #[(de P "__module__" 619 (vs "io" 624)),(de P "__firstlineno__" 623 (.int 219 622)),(de P "__new__" 634 (.ref 274)),(de P "__static_attributes__" 635 (.ref 271)),(de P "__dict__" 638 (.ref 275)),(de P "__weakref__" 640 (.ref 276)),(de P "__doc__" 641 .none)] 4),#[]⟩),
 (273,⟨(.type "type"),none,(.cls ⟨s "IOBase",[(.type "object")],[(.ref 273),(.type "object")],272,s "IOBase",true,[],[(.ref 288),(.ref 300)],false,none,false⟩),#[none,none,(some (vs "IOBase" 612)),(some (vs "IOBase" 620)),(some .none),(some (.bool true))]⟩),
 (274,⟨(.type "staticmethod"),none,(.fields #[(.ref 270)]),#[]⟩),
 (299,⟨(.type "dict"),none,(.dict #[(de P "__module__" 669 (vs "io" 674)),(de P "__firstlineno__" 673 (.int 228 672)),(de P "__static_attributes__" 676 (.ref 298)),(de P "__doc__" 677 .none)] 2),#[]⟩),
 (300,⟨(.type "type"),none,(.cls ⟨s "TextIOBase",[(.ref 273)],[(.ref 300),(.ref 273),(.type "object")],299,s "TextIOBase",true,[],[(.ref 777)],false,none,false⟩),#[(some (.ref 291)),none,(some (vs "TextIOBase" 662)),(some (vs "TextIOBase" 670)),(some .none),(some (.bool true))]⟩),
 (530,⟨(.type "type"),none,(.cls ⟨s "BytesIO",[(.ref 288)],[(.ref 530),(.ref 288),(.ref 273),(.type "object")],529,s "BytesIO",true,[],[],false,none,false⟩),#[(some (.ref 303)),none,(some (vs "BytesIO" 680)),(some (vs "BytesIO" 688)),(some .none),(some (.bool true))]⟩),
 (540,⟨(.type "tuple"),none,(.seq #[(vs "" 956),(vs "\n" 957)] 0),#[]⟩),
 (546,⟨(.type "code"),none,(.fields #[(vs "__init__" 958),(vs "StringIO.__init__" 959),(vs "/claim/cut.py" 960),(.int 403 0),(.int 3 0),(.int 0 0),(.int 0 0),(.int 3 0),(.ref 541),(.bool true),(.int 273 0),(.ref 542),.none,(.ref 543),(.ref 544),(.ref 545),(.int 964 0),(.int 403 0),(vs "/claim/cut.py" 965)]),#[]⟩),
 (547,⟨(.type "function"),none,(.func (fd (cst 23 1) "StringIO.__init__" (.ref 540) .none .none (vs "io" 572) none (.ref 546) .none)),#[]⟩),
 (553,⟨(.type "code"),none,(.fields #[(vs "__translated" 967),(vs "StringIO.__translated" 968),(vs "/claim/cut.py" 969),(.int 416 0),(.int 2 0),(.int 0 0),(.int 0 0),(.int 3 0),(.ref 548),(.bool true),(.int 273 0),(.ref 549),.none,(.ref 550),(.ref 551),(.ref 552),(.int 973 0),(.int 416 0),(vs "/claim/cut.py" 974)]),#[]⟩),
 (554,⟨(.type "function"),none,(.func (fd (cst 23 2) "StringIO.__translated" .none .none .none (vs "io" 572) none (.ref 553) .none)),#[]⟩),
 (560,⟨(.type "code"),none,(.fields #[(vs "__check" 976),(vs "StringIO.__check" 977),(vs "/claim/cut.py" 978),(.int 424 0),(.int 1 0),(.int 0 0),(.int 0 0),(.int 3 0),(.ref 555),(.bool true),(.int 273 0),(.ref 556),.none,(.ref 557),(.ref 558),(.ref 559),(.int 980 0),(.int 424 0),(vs "/claim/cut.py" 981)]),#[]⟩),
 (561,⟨(.type "function"),none,(.func (fd (cst 23 3) "StringIO.__check" .none .none .none (vs "io" 572) none (.ref 560) .none)),#[]⟩),
 (716,⟨(.type "tuple"),none,(.seq #[(.int (-1) 1149)] 0),#[]⟩),
 (722,⟨(.type "code"),none,(.fields #[(vs "read" 1150),(vs "StringIO.read" 1151),(vs "/claim/cut.py" 1152),(.int 546 0),(.int 2 0),(.int 2 0),(.int 0 0),(.int 3 0),(.ref 717),(.bool true),(.int 273 0),(.ref 718),.none,(.ref 719),(.ref 720),(.ref 721),(.int 1157 0),(.int 546 0),(vs "/claim/cut.py" 1158)]),#[]⟩),
 (723,⟨(.type "function"),none,(.func (fd (cst 23 25) "StringIO.read" (.ref 716) .none .none (vs "io" 572) none (.ref 722) .none)),#[]⟩),
 (776,⟨(.type "dict"),none,(.dict #[(de P "__module__" 949 (vs "_io" 954)),(de P "__firstlineno__" 953 (.int 400 952)),(de P "__init__" 966 (.ref 547)),(de P "_StringIO__translated" 975 (.ref 554)),(de P "_StringIO__check" 982 (.ref 561)),(de P "_StringIO__check_dot" 989 (.ref 568)),(de P "_StringIO__line" 1004 (.ref 575)),(de P "closed" 1012 (.ref 583)),(de P "line_buffering" 1020 (.ref 591)),(de P "newlines" 1028 (.ref 599)),(de P "encoding" 1036 (.ref 607)),(de P "errors" 1044 (.ref 615)),(de P "close" 1051 (.ref 622)),(de P "__enter__" 1058 (.ref 629)),(de P "__exit__" 1066 (.ref 636)),(de P "readable" 1073 (.ref 643)),(de P "writable" 1080 (.ref 650)),(de P "seekable" 1087 (.ref 657)),(de P "isatty" 1094 (.ref 664)),(de P "flush" 1101 (.ref 671)),(de P "fileno" 1108 (.ref 678)),(de P "detach" 1115 (.ref 685)),(de P "getvalue" 1122 (.ref 692)),(de P "tell" 1129 (.ref 699)),(de P "seek" 1139 (.ref 707)),(de P "truncate" 1147 (.ref 715)),(de P "read" 1159 (.ref 723)),(de P "readline" 1169 (.ref 731)),(de P "readlines" 1179 (.ref 739)),(de P "__iter__" 1186 (.ref 746)),(de P "__next__" 1194 (.ref 753)),(de P "write" 1206 (.ref 760)),(de P "writelines" 1214 (.ref 767)),(de P "__repr__" 1221 (.ref 774)),(de P "__static_attributes__" 1225 (.ref 775)),(de P "__doc__" 1226 .none)] 2),#[]⟩),
 (777,⟨(.type "type"),none,(.cls ⟨s "StringIO",[(.ref 300)],[(.ref 777),(.ref 300),(.ref 273),(.type "object")],776,s "StringIO",true,[],[],false,none,false⟩),#[(some (.ref 533)),none,(some (vs "StringIO" 942)),(some (vs "StringIO" 950)),(some .none),(some (.bool true))]⟩),
 (829,⟨(.type "tuple"),none,(.seq #[.none,.none,(.bool false),(.bool false)] 0),#[]⟩),
 (835,⟨(.type "code"),none,(.fields #[(vs "__init__" 1301),(vs "shlex.__init__" 1302),(vs "/claim/cut.py" 1303),(.int 671 0),(.int 5 0),(.int 0 0),(.int 0 0),(.int 3 0),(.ref 830),(.bool true),(.int 273 0),(.ref 831),.none,(.ref 832),(.ref 833),(.ref 834),(.int 1310 0),(.int 671 0),(vs "/claim/cut.py" 1311)]),#[]⟩),
 (836,⟨(.type "function"),none,(.func (fd (cst 32 0) "shlex.__init__" (.ref 829) .none .none (vs "cpy313.shlex" 1287) none (.ref 835) .none)),#[]⟩),
 (911,⟨(.type "dict"),none,(.dict #[(de P "__module__" 1296 (vs "cpy313.shlex" 1287)),(de P "__firstlineno__" 1300 (.int 669 1299)),(de P "__init__" 1312 (.ref 836)),(de P "punctuation_chars" 1320 (.ref 844)),(de P "push_token" 1328 (.ref 851)),(de P "push_source" 1337 (.ref 859)),(de P "pop_source" 1344 (.ref 866)),(de P "get_token" 1356 (.ref 873)),(de P "read_token" 1367 (.ref 880)),(de P "sourcehook" 1375 (.ref 887)),(de P "error_leader" 1384 (.ref 895)),(de P "__iter__" 1391 (.ref 902)),(de P "__next__" 1399 (.ref 909)),(de P "__static_attributes__" 1420 (.ref 910)),(de P "__dict__" 1422 (.ref 913)),(de P "__weakref__" 1424 (.ref 914)),(de P "__doc__" 1425 .none)] 4),#[]⟩),
 (912,⟨(.type "type"),none,(.cls ⟨s "shlex",[(.type "object")],[(.ref 912),(.type "object")],911,s "shlex",true,[],[],false,none,false⟩),#[none,none,(some (vs "shlex" 1289)),(some (vs "shlex" 1297)),(some (.builtin "object.__new__")),(some (.bool true))]⟩),
 (922,⟨(.type "code"),none,(.fields #[(vs "_law_word" 1430),(vs "_law_word" 1431),(vs "/claim/cut.py" 1432),(.int 924 0),(.int 1 0),(.int 0 0),(.int 0 0),(.int 3 0),(.ref 917),(.bool true),(.int 273 0),(.ref 918),.none,(.ref 919),(.ref 920),(.ref 921),(.int 1435 0),(.int 924 0),(vs "/claim/cut.py" 1436)]),#[]⟩),
 (923,⟨(.type "function"),none,(.func (fd (st 34) "_law_word" .none .none .none (vs "law_om0195_01" 1428) none (.ref 922) .none)),#[]⟩),
 (927,⟨(.type "code"),none,(.fields #[(vs "_law_written" 1438),(vs "_law_written" 1439),(vs "/claim/cut.py" 1440),(.int 929 0),(.int 2 0),(.int 0 0),(.int 0 0),(.int 3 0),(.ref 924),(.bool true),(.int 273 0),(.ref 925),.none,.none,.none,(.ref 926),(.int 1441 0),(.int 929 0),(vs "/claim/cut.py" 1442)]),#[]⟩),
 (928,⟨(.type "function"),none,(.func (fd (st 35) "_law_written" .none .none .none (vs "law_om0195_01" 1428) none (.ref 927) .none)),#[]⟩),
 (934,⟨(.type "code"),none,(.fields #[(vs "_law_send" 1444),(vs "_law_send" 1445),(vs "/claim/cut.py" 1446),(.int 934 0),(.int 2 0),(.int 0 0),(.int 0 0),(.int 3 0),(.ref 929),(.bool true),(.int 273 0),(.ref 930),.none,(.ref 931),(.ref 932),(.ref 933),(.int 1452 0),(.int 934 0),(vs "/claim/cut.py" 1453)]),#[]⟩),
 (935,⟨(.type "function"),none,(.func (fd (st 36) "_law_send" .none .none .none (vs "law_om0195_01" 1428) none (.ref 934) .none)),#[]⟩),
 (941,⟨(.type "code"),none,(.fields #[(vs "_law_take" 1455),(vs "_law_take" 1456),(vs "/claim/cut.py" 1457),(.int 946 0),(.int 3 0),(.int 0 0),(.int 0 0),(.int 3 0),(.ref 936),(.bool true),(.int 273 0),(.ref 937),.none,(.ref 938),(.ref 939),(.ref 940),(.int 1462 0),(.int 946 0),(vs "/claim/cut.py" 1463)]),#[]⟩),
 (942,⟨(.type "function"),none,(.func (fd (st 37) "_law_take" .none .none .none (vs "law_om0195_01" 1428) none (.ref 941) .none)),#[]⟩),
 (946,⟨(.type "code"),none,(.fields #[(vs "_law_put_out" 1465),(vs "_law_put_out" 1466),(vs "/claim/cut.py" 1467),(.int 955 0),(.int 2 0),(.int 0 0),(.int 0 0),(.int 3 0),(.ref 943),(.bool true),(.int 273 0),(.ref 944),.none,.none,.none,(.ref 945),(.int 1468 0),(.int 955 0),(vs "/claim/cut.py" 1469)]),#[]⟩),
 (947,⟨(.type "function"),none,(.func (fd (st 38) "_law_put_out" .none .none .none (vs "law_om0195_01" 1428) none (.ref 946) .none)),#[]⟩),
 (953,⟨(.type "code"),none,(.fields #[(vs "_law_empty_lines" 1471),(vs "_law_empty_lines" 1472),(vs "/claim/cut.py" 1473),(.int 960 0),(.int 1 0),(.int 0 0),(.int 0 0),(.int 3 0),(.ref 948),(.bool true),(.int 273 0),(.ref 949),.none,(.ref 950),(.ref 951),(.ref 952),(.int 1477 0),(.int 960 0),(vs "/claim/cut.py" 1478)]),#[]⟩),
 (954,⟨(.type "function"),none,(.func (fd (st 39) "_law_empty_lines" .none .none .none (vs "law_om0195_01" 1428) none (.ref 953) .none)),#[]⟩),
 (958,⟨(.type "code"),none,(.fields #[(vs "law" 1480),(vs "law" 1481),(vs "/claim/cut.py" 1482),(.int 967 0),(.int 1 0),(.int 0 0),(.int 0 0),(.int 3 0),(.ref 955),(.bool true),(.int 273 0),(.ref 956),.none,.none,.none,(.ref 957),(.int 1483 0),(.int 967 0),(vs "/claim/cut.py" 1484)]),#[]⟩),
 (959,⟨(.type "function"),none,(.func (fd (st 40) "law" .none .none .none (vs "law_om0195_01" 1428) none (.ref 958) .none)),#[]⟩)]
noncomputable def Vk:List Addr:= [1,2,3,52,53,59,60,66,67,73,74,76,77,95,96,99,100,101,102,103,126,132,133,139,140,146,147,151,152,158,159,165,166,179,180,186,187,196,197,207,208,214,215,221,222,228,229,242,243,269,270,272,273,274,299,300,530,540,546,547,553,554,560,561,716,722,723,776,777,829,835,836,911,912,922,923,927,928,934,935,941,942,946,947,953,954,958,959]
noncomputable def gK:Program:=view pw [0,40]
noncomputable def gL:List Str:= [s "_wall",s "_netrclex",s "_NODE_OUT",s "_NODE_DONE",s "_NodeInfo",s "CycleError",s "TopologicalSorter",s "heappush",s "heappop",s "_siftdown",s "_siftup",s "_whence",s "_index",s "UnsupportedOperation",s "IOBase",s "BufferedIOBase",s "TextIOBase",s "BytesIO",s "StringIO",s "_kind",s "_fspath",s "_check_arg_types",s "isabs",s "join",s "dirname",s "shlex",s "_law_word",s "_law_written",s "_law_send",s "_law_take",s "_law_put_out",s "_law_empty_lines"]
noncomputable def Gk:Env:={scope:=pw.main.scope,locals:=mainNs,globals:=mainNs,cells:= [],code:=.ref 31,frame:=some 32}
noncomputable def cT:Code:=.body (behindTheImports pw) Gk
noncomputable def z4:Pos:=⟨0,0,0,0⟩
noncomputable def Gl:Pos:=⟨967,0,1004,63⟩
noncomputable def qB(x:Shared):Option Value:=x.heap.nsMap mainGlobals "__annotations__"
noncomputable def sY:Nat:=12+(1+(6420+2))
noncomputable def Cg(s0 sf:Shared):Bool:=staticsOk (importedModules pw.main.body) s0.heap sf.heap&&namesBound pw sf.heap&&gensDone sf&&laidKept s0.heap sf.heap
noncomputable def big{α:Type}(Yf:Shared->α)(w:World):=
 (fencedOpening treeTable pw w sY).bind fun s0=>(topGo treeTable pw w s0.heap.objs.size (qB s0) 12 s0 (topStub pw)).bind fun x=>(segRun treeTable pw w s0.heap.objs.size (qB s0) 1 1 x.1 (blockOf (behindTheImports pw) Gk cT z4 [topFrame z4])).bind fun y=>(segRunT treeTable pw w s0.heap.objs.size (qB s0) 1 6420 (toT y.2.1) (piecesOf (behindTheImports pw) Gk cT z4 [topFrame z4])).bind fun z=>some (s0.heap.isNs mainGlobals&&s0.gens.size==0,x.2,(y.1,y.2.2),(z.1,z.2.2),Cg s0 z.2.1.abs,openSeen gK gL (importedModules pw.main.body) (fun Z=>true) true z.2.1.abs,Yf z.2.1.abs)
noncomputable def Yf(x:Shared):List (Option Obj):=Vk.map x.heap.get?
noncomputable def Ya(w:World):List (Option Obj):=(KK w.params).map fun p=>some p.2
theorem Gm(w:World):big Yf w=some (true,⟨denote treeTable cT,cT,z4,[topFrame z4]⟩,(.next,cT,z4),(.next,cT,Gl),true,openGood gK gL,Ya w):=by unfold big fencedOpening Cg;rw[PySem.W.Fast.te10110043849684766642,PySem.W.Fast.te14374325043358763698,PySem.W.Fast.te15667345088766844465,PySem.W.Fast.te10274390034422433532,PySem.W.Fast.te14364793385576792824,PySem.W.Fast.te4187177175401517315,PySem.W.Fast.te1435165496053646825,PySem.W.Fast.te14289696077712309145,PySem.W.Fast.te11892475500146522536,PySem.W.Fast.te5923862056798008813];kernel_rfl
theorem left:LeftO pw gK gL (fun Z=>true) Yf Ya sY:=by
 intro w;have h:=Gm w;unfold big at h;refine ah (acJ.mp h) fun s0 h0 h=> ?_;refine ah (acJ.mp h) fun x h1 h=> ?_;refine ah (acJ.mp h) fun y h2 h=> ?_;refine ah (acJ.mp h) fun z h3 h=> ?_;have e:=aah.inj h;have r3:=segRun_of (h3.trans (congrArg some (show z=(.next,z.2.1,cT,Gl) from Prod.ext (congrArg (fun q=>q.2.2.2.1.1) e) (Prod.ext rfl (congrArg (fun q=>q.2.2.2.1.2) e)))));rw[Ce]at r3;have fin:topRun treeTable pw w s0.heap.objs.size (qB s0) 2 z.2.1.abs ⟨doneF .next,cT,Gl,[topFrame z4]⟩=some z.2.1.abs:=rfl;have k:=piece_app (rest:= []) r3 (piece_nil fin);rw[ab5]at k;have k:=piece_block (h2.trans (congrArg some (show y=(.next,y.2.1,cT,z4) from Prod.ext (congrArg (fun q=>q.2.2.1.1) e) (Prod.ext rfl (congrArg (fun q=>q.2.2.1.2) e))))) k;have k:=go_top (h1.trans (congrArg some (show x=(x.1,⟨denote treeTable cT,cT,z4,[topFrame z4]⟩) from Prod.ext rfl (congrArg (fun q=>q.2.1) e)))) k;have t:topFrom treeTable pw w sY s0=some z.2.1.abs:=by unfold topFrom;rw[show(s0.heap.isNs mainGlobals&&s0.gens.size==0)=true from congrArg (fun q=>q.1) e];show(topRun treeTable pw w s0.heap.objs.size (qB s0) sY s0 (topStub pw)).bind _=_;unfold sY;rw[k];show(match Cg s0 z.2.1.abs with | true=>some z.2.1.abs | false=>none)=_;rw[show Cg s0 z.2.1.abs=true from congrArg (fun q=>q.2.2.2.2.1) e]
 unfold openEnds;rw[h0];show(topFrom treeTable pw w sY s0).map _=_;rw[t];exact congrArg some (Prod.ext (congrArg (fun q=>q.2.2.2.2.2.1) e) (congrArg (fun q=>q.2.2.2.2.2.2) e))
abbrev lw:OpenLaw:=PySem.Challenge.rw_om0195_01
theorem Vl:lw.wellSaid=true:=by rw[PySem.W.Fast.te9446332074065402090];kernel_rfl
theorem head(call:∀d Gn,defOf gK lw.row.name=some (d,Gn)->WalkO gK gL (fun Z Z=>True) (InK KK) lw.row.toRowW d Gn fun f vs=>PySem.call f vs):lw.Holds:=by
 refine holds_law Vl fun k1=> ?_;refine W.holds_open (r:=lw.row) (q:=gK) (loose:=gL) (Xt:=fun Z=>true) (XP:=fun Z Z=>True) (Yf:=Yf) (Ya:=Ya) (YP:=InK KK) (N:=sY) left
  (fun w s e=>InK.of (K:=KK) (as:=Vk) (fun Z=>rfl) w s e) InK.keeps (fun Z Z=>trivial) (fun Z Z Z Z Z=>trivial) (by rfl) (by rfl) (by rfl) (fun s Z=>recFacts_nil rfl) (by rfl) k1 (by decide +kernel) ⟨rfl,rfl,rfl,rfl,rfl,by decide +kernel⟩ ?hw (call _ _ (by rfl))
 w_witness2
noncomputable abbrev p0:Pos:=⟨0,0,0,0⟩
noncomputable abbrev z0:Expr:=.Constant .none 0 p0
noncomputable abbrev noArgs:Arguments:=⟨[],[],none,[],[],none,[]⟩
noncomputable abbrev uF:Scope:={kind:=.function,names:= [],isGenerator:=false,isCoroutine:=false}
noncomputable def kE:Expr->List Expr
 | .BoolOp _ l _=>l
 | .NamedExpr a b _=> [a,b]
 | .BinOp a _ b _=> [a,b]
 | .UnaryOp _ a _=> [a]
 | .IfExp a b c _=> [a,b,c]
 | .ListComp a _ _ _=> [a]
 | .Compare a _ l _=>a::l
 | .Call a l _ _=>a::l
 | .Attribute a _ _=> [a]
 | .Subscript a b _=> [a,b]
 | .Starred a _=> [a]
 | .Dict _ l _=>l
 | _=> []
noncomputable def kS:Stmt->List Expr
 | .Return a _=> [a.getD z0]
 | .Delete l _=>l
 | .Assign l a _=>a::l
 | .AugAssign a _ b _=> [b,a]
 | .For a b _ _ _=> [a,b]
 | .While a _ _ _=> [a]
 | .If a _ _ _=> [a]
 | .Expr a _=> [a]
 | _=> []
noncomputable def bS:Stmt->List Stmt×List Stmt
 | .FunctionDef _ _ b _ _ _ _ _ _ _=>(b,[])
 | .For _ _ b c _=>(b,c)
 | .While _ b c _=>(b,c)
 | .If _ b c _=>(b,c)
 | .Try b _ _ _ _=>(b,[])
 | _=>([],[])
noncomputable def Vm:Stmt->Str×Arguments×Scope
 | .FunctionDef n a _ _ _ _ sc _ _ _=>(n,a,sc)
 | _=>(s "",noArgs,uF)
noncomputable def Vn:Expr->Option Expr×Option Expr×Pos
 | .Subscript _ (.Slice a b _ p) _=>(a,b,p)
 | _=>(none,none,p0)
noncomputable def lcT:Expr->Comprehension×Scope
 | .ListComp _ (g::_) sc _=>(g,sc)
 | _=>(⟨z0,z0,[],0⟩,uF)
noncomputable def Gp:Stmt->List Stmt×Pos×Option Expr
 | .Try _ (.ExceptHandler x _ b p::_) _ _ _=>(b,p,x)
 | _=>([],p0,none)
noncomputable abbrev e1(k:Nat)(y:Expr):Expr:=(kE y).getD k z0
noncomputable abbrev s1(k:Nat)(x:Stmt):Expr:=(kS x).getD k z0
noncomputable abbrev fnName(x:Stmt):Str:=(Vm x).1
noncomputable abbrev fy(x:Stmt):Arguments:=(Vm x).2.1
noncomputable abbrev au(x:Stmt):Scope:=(Vm x).2.2
noncomputable abbrev ar(x:Stmt):List Stmt:=(bS x).1
noncomputable abbrev bU(x:Stmt):Expr:=s1 0 x
noncomputable abbrev ax(x:Stmt):List Stmt:=(bS x).1
noncomputable abbrev ik(x:Stmt):List Stmt:=(bS x).2
noncomputable abbrev yy(x:Stmt):Pos:=x.pos
noncomputable abbrev ak(x:Stmt):Expr:=s1 0 x
noncomputable abbrev i6(n:Nat)(x:Stmt):Expr:=s1 (n+1) x
noncomputable abbrev qC(x:Stmt):Expr:=e1 0 (s1 1 x)
noncomputable abbrev Ci(x:Stmt):Expr:=e1 0 (s1 1 x)
noncomputable abbrev dh(y:Expr):Expr:=e1 0 y
noncomputable abbrev ec(y:Expr):Expr:=e1 1 y
noncomputable abbrev yz(y:Expr):Pos:=y.pos
noncomputable abbrev yA(y:Expr):Option Expr:=(Vn y).1
noncomputable abbrev oT(y:Expr):Option Expr:=(Vn y).2.1
noncomputable abbrev nQ(y:Expr):Pos:=(Vn y).2.2
noncomputable abbrev az(n:Nat)(y:Expr):Expr:=e1 (n+1) y
noncomputable abbrev hG(y:Expr):Expr:=e1 0 y
noncomputable abbrev cF(y:Expr):Expr:=e1 0 y
noncomputable abbrev dE(y:Expr):List Expr:=(kE y).tail
noncomputable abbrev aG(x:Stmt):Expr:=s1 1 x
noncomputable abbrev eI(x:Stmt):Pos:=(s1 0 x).pos
noncomputable abbrev yB(x:Stmt):Pos:=(s1 1 x).pos
noncomputable abbrev di(x:Stmt):Pos:=x.pos
noncomputable abbrev Vo(x:Stmt):Pos:=(s1 0 x).pos
noncomputable abbrev EW(y:Expr):Expr:=e1 0 (e1 2 y)
noncomputable abbrev K3(y:Expr):Pos:=(e1 2 y).pos
noncomputable abbrev bH(y:Expr):Expr:=e1 0 y
noncomputable abbrev dT(y:Expr):Comprehension:=(lcT y).1
noncomputable abbrev cb(y:Expr):Scope:=(lcT y).2
noncomputable abbrev gc(y:Expr):Expr:=e1 0 y
noncomputable abbrev ie(y:Expr):Expr:=e1 1 y
noncomputable abbrev yC(n:Nat)(y:Expr):Expr:=e1 n y
noncomputable abbrev boE(n:Nat)(y:Expr):Expr:=e1 n y
noncomputable abbrev gM(y:Expr):Expr:=e1 0 y
noncomputable abbrev Gq(y:Expr):Expr:=e1 1 y
noncomputable abbrev nxT(y:Expr):Expr:=e1 0 y
noncomputable abbrev EX(y:Expr):Expr:=e1 1 y
noncomputable abbrev Gs(y:Expr):Expr:=e1 0 y
noncomputable abbrev JU(y:Expr):Expr:=e1 1 y
noncomputable abbrev ifC(y:Expr):Expr:=e1 2 y
noncomputable abbrev sZ(x:Stmt):Expr:=s1 0 x
noncomputable abbrev Vp(n:Nat)(y:Expr):Expr:=e1 n y
noncomputable abbrev aR(y:Expr):Expr:=e1 0 (cond (ac1 y.ctorIdx 16) (e1 0 y) y)
noncomputable abbrev s7(x:Stmt):List Stmt:=(bS x).1
noncomputable abbrev fH(x:Stmt):List Stmt:=(Gp x).1
noncomputable abbrev Vq(x:Stmt):Pos:=(Gp x).2.1
noncomputable abbrev Vr(x:Stmt):Pos:=((Gp x).2.2.getD z0).pos
noncomputable abbrev Vs(x:Stmt):Pos:=x.pos
noncomputable abbrev Ub(x:Stmt):Pos:=x.pos
noncomputable abbrev oU(x:Stmt):Expr:=s1 0 x
noncomputable abbrev K4(y:Expr):Pos:=y.pos
noncomputable abbrev yD(y:Expr):Pos:=y.pos
noncomputable abbrev K5(y:Expr):Pos:=y.pos
noncomputable abbrev K6(y:Expr):Pos:=y.pos
noncomputable abbrev aw(y:Expr):Pos:=y.pos
noncomputable abbrev bZ(x:Stmt):Pos:=x.pos
noncomputable abbrev fJ(y:Expr):Pos:=y.pos
noncomputable abbrev s8(y:Expr):Pos:=y.pos
noncomputable abbrev EY(y:Expr):Pos:=y.pos
noncomputable abbrev K7(x:Stmt):Pos:=(s1 1 x).pos
noncomputable abbrev Cj(x:Stmt):Expr:=s1 0 x
noncomputable abbrev unV(y:Expr):Expr:=e1 0 y
noncomputable abbrev isSlice(y:Expr):Bool:=ac1 y.ctorIdx 26
noncomputable abbrev isStar(y:Expr):Bool:=ac1 y.ctorIdx 22
inductive PV where
 | none
 | bool (b:Bool)
 | int (i:Int)
 | str (x:List Nat)
 | tup (ns:List Int)
inductive V where
 | pv (p:PV)
 | ref (i:Nat)
 | glob (v:Value)
 | any
inductive Kd where
 | pv
 | int
 | str
 | tup
abbrev Kd.ty:Kd->Type
 | .pv=>PV
 | .int=>Int
 | .str=>List Nat
 | .tup=>List Int
noncomputable def Kd.inj:(k:Kd)->k.ty->PV
 | .pv,p=>p
 | .int,i=>.int i
 | .str,x=>.str x
 | .tup,t=>.tup t
noncomputable def Kd.Gu:(k:Kd)->PV->Option k.ty
 | .pv,p=>some p
 | .int,.int i=>some i
 | .str,.str x=>some x
 | .tup,.tup t=>some t
 | .int,_=>none
 | .str,_=>none
 | .tup,_=>none
noncomputable def Kd.dflt:(k:Kd)->k.ty
 | .pv=>PV.none
 | .int=>(0:Int)
 | .str=>([]:List Nat)
 | .tup=>([]:List Int)
theorem Kd.uG {k:Kd}{x:k.ty}(h:k.Gu p=some x):k.inj x=p:=by cases k <;> cases p <;> first | exact aZ h | exact(aah.inj h) ▸ rfl
inductive AO where
 | vals (k:Kd)(xs:List k.ty)
 | refs (xs:List Nat)
 | dict (es:List (Str×V))
 | inst (C:Addr)(d:Nat)
 | bo (ep:Nat)(es:List (Int×V))
 | ig (S:Int->Bool)(n:Nat)
 | slot (C:Addr)(d:Nat)(vs:List (Option V))
 | bound (f:Value)(i:Nat)
 | da (i:Option Nat)(x:Str)
 | cK (l k:Nat)
 | wrap (f:Value)(i:Nat)
 | dK
 | cell (v:Option V)
 | ns (l:List (Str×V))
 | box (τ:List AO)
noncomputable def AO.eX:AO->Bool
 | .box _=>true
 | _=>false
theorem Vt{P:Prop}(h:n=m)(d:ac1 n m=false):P:=by subst h;rw[Nat.beq_refl]at d;exact lI d
theorem Vu{a b:AO}{P:Prop}(h:a=b)(d:ac1 a.ctorIdx b.ctorIdx=false):P:=Vt (congrArg AO.ctorIdx h) d
theorem Gv{a b:Data}{P:Prop}(h:a=b)(d:ac1 a.ctorIdx b.ctorIdx=false):P:=Vt (congrArg Data.ctorIdx h) d
theorem Vv{a b:NameKind}{P:Prop}(h:a=b)(d:ac1 a.ctorIdx b.ctorIdx=false):P:=Vt (congrArg NameKind.ctorIdx h) d
theorem Vw{a b:AO}{P:Prop}(h:some a=some b)(d:ac1 a.ctorIdx b.ctorIdx=false):P:=Vu (aah.inj h) d
theorem K8{a b:NameKind}{P:Prop}(h:some a=some b)(d:ac1 a.ctorIdx b.ctorIdx=false):P:=Vv (aah.inj h) d
structure St where
 loc:List (Str×V)
 aj:List AO
inductive aM{α β:Type}(R:α->β->Prop):List α->List β->Prop
 | nil:aM R [] []
 | cons {a b l r}:R a b->aM R l r->aM R (a::l) (b::r)
section
variable{α β:Type}{R R':α->β->Prop}
theorem aM.mono (h:aM R l r)(k:∀a b,R a b->R' a b):aM R' l r:=by
 induction h with
 | nil=>exact .nil
 | cons h _ ih=>exact .cons (k _ _ h) ih
theorem aM.length (h:aM R l r):l.length=r.length:=by
 induction h with
 | nil=>rfl
 | cons _ _ ih=>simp[ih]
theorem aM.get (h:aM R l r){i:Nat}(e:l[i]? =some a):∃b,r[i]? =some b/\R a b:=by
 induction h generalizing i with
 | nil=>simp at e
 | cons h _ ih=>
  cases i with
  | zero=>simp at e;exact e ▸ ⟨_,rfl,h⟩
  | succ i=>simpa using ih (by simpa using e)
theorem aM.append (h:aM R l r)(h':aM R l' r'):aM R (l++l') (r++r'):=by
 induction h with
 | nil=>exact h'
 | cons h _ ih=>exact .cons h ih
theorem aM.set (h:aM R l r)(i:Nat)(k:R a b):aM R (l.set i a) (r.set i b):=by
 induction h generalizing i with
 | nil=>exact .nil
 | cons h t ih=>
  cases i with
  | zero=>exact .cons k t
  | succ i=>exact .cons h (ih i)
theorem aM.drop (h:aM R l r)(i:Nat):aM R (l.drop i) (r.drop i):=by
 induction h generalizing i with
 | nil=>simp;exact .nil
 | cons h t ih=>
  cases i with
  | zero=>exact .cons h t
  | succ i=>simpa using ih i
theorem aM.take (h:aM R l r)(i:Nat):aM R (l.take i) (r.take i):=by
 induction h generalizing i with
 | nil=>simp;exact .nil
 | cons h t ih=>
  cases i with
  | zero=>exact .nil
  | succ i=>exact .cons h (ih i)
end
noncomputable def look{α:Type}:List (Str×α)->Str->Option α
 | [],_=>none
 | p::r,x=>cond (Fast.sEq p.1 x) (some p.2) (look r x)
noncomputable def put{α:Type}:List (Str×α)->Str->α->List (Str×α)
 | [],x,v=> [(x,v)]
 | p::r,x,v=>cond (Fast.sEq p.1 x) ((p.1,v)::r) (p::put r x v)
theorem eQ{α:Type}{p:Str×α}{r:List (Str×α)}:look (p::r) x=cond (Fast.sEq p.1 x) (some p.2) (look r x):=rfl
theorem fz{α:Type}(l:List (Str×α))(x y:Str)(v:α):look (put l x v) y=if y=x then some v else look l y:=by
 induction l with
 | nil=>
  show cond (Fast.sEq x y) _ _=_;cases h:Fast.sEq x y with
  | true=>exact(if_pos (Fast.sEq_iff.mp h).symm).symm
  | false=>exact(if_neg fun e:y=x=>gu (h.symm.trans (Fast.sEq_iff.mpr e.symm))).symm
 | cons p r ih=>
  show look (cond (Fast.sEq p.1 x) _ _) y=ite _ _ (cond (Fast.sEq p.1 y) _ _);cases h:Fast.sEq p.1 x with
  | true=>
   show cond (Fast.sEq p.1 y) _ _=_;cases h':Fast.sEq p.1 y with
   | true=>exact(if_pos ((Fast.sEq_iff.mp h').symm.trans (Fast.sEq_iff.mp h))).symm
   | false=>exact(if_neg fun e:y=x=>gu (h'.symm.trans (e ▸ h))).symm
  | false=>
   show cond (Fast.sEq p.1 y) _ _=_;cases h':Fast.sEq p.1 y with
   | true=>exact(if_neg fun e:y=x=>gu (h.symm.trans (e ▸ h'))).symm
   | false=>exact ih
noncomputable abbrev gw(its:List Value):Obj:={cls:=.type "tuple",data:=.seq its.toArray}
abbrev NT(o:Obj):Prop:=∀its:List Value,o≠gw its
theorem NT.of (h:o.cls≠ .type "tuple"):NT o:=fun Z z=>h (by exact z ▸ rfl)
abbrev Led:=List (Addr×Obj)
structure Ad where
 m:List Addr
 o:List (List Addr)
noncomputable def Ad.all (ad:Ad):List Addr:=ad.m++ad.o.flatten
structure Ad.Ok (ad:Ad):Prop where
 mi:∀(i j:Nat) (a:Addr),ad.m[i]? =some a->ad.m[j]? =some a->i=j
 mo:∀(i j:Nat) (a:Addr) (ow:List Addr),ad.m[i]? =some a->ad.o[j]? =some ow->a∉ow
 oi:∀(i j:Nat) (ow qD:List Addr) (a:Addr),ad.o[i]? =some ow->ad.o[j]? =some qD->a∈ow->a∈qD->i=j
 on:∀(i:Nat) (ow:List Addr),ad.o[i]? =some ow->ow.Nodup
def VP(aa:Led):PV->Value->Prop
 | .none,v=>v= .none
 | .bool b,v=>v= .bool b
 | .int i,v=>∃t,v= .int i t
 | .str x,v=>∃t,v= .str ⟨x.toArray⟩ t
 | .tup ns,v=>∃a its,v= .ref a/\(a,gw its)∈aa/\IntsAre its ns
def RR(ad:Ad)(i:Nat)(v:Value):Prop:=∃a,ad.m[i]? =some a/\v= .ref a
def VR(ad:Ad)(aa:Led):V->Value->Prop
 | .pv p,v=>VP aa p v
 | .ref i,v=>RR ad i v
 | .glob g,v=>v=g
 | .any,_=>True
def ER(w:World)(ad:Ad)(aa:Led)(x:Str×V)(e:DictEntry):Prop:=e.hash=PyData.keyHash w.params x.1/\(∃t,e.key= .str x.1 t)/\VR ad aa x.2 e.val
def IR(ad:Ad)(aa:Led)(x:Int×V)(e:Int×Value):Prop:=e.1=x.1/\VR ad aa x.2 e.2
def SR(ad:Ad)(aa:Led)(x:Option V)(e:Option Value):Prop:=match x,e with
 | none,none=>True
 | some u,some v=>VR ad aa u v
 | _,_=>False
def jV(w:World)(o:Obj)(gn:List (Int×Value))(ep:Nat):Prop:=∃es,o.ExactDict/\o.data= .dict es ep/\KeysOf (intKind pw w) es/\Pairs (intKind pw w) es.toList gn/\(gn.map (·.1)).Nodup
def Vx(o:Obj)(m:Str->Option Value):Prop:=∃es ep,o.data= .dict es ep/\StrKeys es/\∀name,nsFind es name=m name
noncomputable abbrev gN(C dx:Addr)(vs:List (Option Value)):Obj:={cls:=.ref C,dict:=some dx,data:=.plain,slots:=vs.toArray}
noncomputable abbrev bI(T:String)(vs:List Value):Obj:={cls:=.type T,data:=.fields vs.toArray}
def OR(w:World)(ad:Ad)(aa:Led):AO->Obj->Prop
 | .vals k xs,ob=>∃its n,ob=listOf its.toArray n/\aM (VP aa) (xs.map k.inj) its/\xs.length<=100000
 | .refs is,ob=>∃its n,ob=listOf its.toArray n/\aM (RR ad) is its/\is.length<=100000
 | .dict es,ob=>∃fK n,ob=dictOf fK n/\aM (ER w ad aa) es fK/\es.length<=900
 | .inst C d,ob=>∃a,ad.m[d]? =some a/\ob=instObj C a
 | .bo ep es,ob=>∃gn,jV w ob gn ep/\aM (IR ad aa) es gn
 | .ig S n,ob=>ob.SetObjOf (intKind pw w) S n
 | .slot C d vs,ob=>∃a nR,ad.m[d]? =some a/\ob=gN C a nR/\aM (SR ad aa) vs nR
 | .bound f i,ob=>∃a,ad.m[i]? =some a/\ob=methodObj f (.ref a)
 | .da i x,ob=>(match i with
  | some i=>∃a t,ad.m[i]? =some a/\ob=bI "callable_iterator" [.ref a,.str x t,.bool false]
  | none=>ob=bI "callable_iterator" [.none,.none,.bool true])
 | .cK l k,ob=>∃a,ad.m[l]? =some a/\ob=bI "list_iterator" [.ref a,.int k 0]
 | .wrap f i,ob=>∃a,ad.m[i]? =some a/\ob=bI "method-wrapper" [f,.ref a]
 | .dK,ob=>NT ob
 | .cell v,ob=>∃v',ob.data= .cell v'/\SR ad aa v v'
 | .ns l,ob=>∃m,Vx ob m/\∀x v,look l x=some v->∃v',m x=some v'/\VR ad aa v v'
 | .box _,_=>False
def BR(w:World)(aa:Led)(τ:List AO)(l:List Addr):Prop:=
 l.length=τ.length/\∀(j:Nat) (o:AO),τ[j]? =some o->∃b ob,l[j]? =some b/\(b,ob)∈aa/\OR w ⟨l,[]⟩ aa o ob
def RP(w:World)(ad:Ad)(aa:Led)(a:Addr)(ow:List Addr)(ob:Obj)(o:AO):Prop:=match o with
 | .box τ=>BR w aa τ (a::ow)
 | o=>ow= []/\OR w ad aa o ob
structure Gr(ad:Ad)(aa:Led)(aF:Ad)(ag:Led):Prop where
 grow:∃t,aF.m=ad.m++t
 tup:∀a its,(a,gw its)∈aa->(a,gw its)∈ag
structure Ext(ad:Ad)(aa:Led)(aF:Ad)(ag:Led):Prop where
 grow:∃t,aF.m=ad.m++t/\∀b ob,(b,ob)∈aa->b∉t
 tup:∀a its,(a,gw its)∈aa->(a,gw its)∈ag
 key:∀b ob,(b,ob)∈aa->∃ob',(b,ob')∈ag
 qE:∀b ob,(b,ob)∈aa->b∉ad.all->(b,ob)∈ag/\b∉aF.all
theorem Ext.gr (x:Ext a1 n1 a2 n2):Gr a1 n1 a2 n2:=⟨let ⟨t,e,_⟩:=x.grow;⟨t,e⟩,x.tup⟩
theorem Ext.refl (ad:Ad)(aa:Led):Ext ad aa ad aa:=⟨⟨[],by simp,fun Z Z Z h=>bg h⟩,fun Z Z h=>h,fun Z ob h=>⟨ob,h⟩,fun Z Z h k=>⟨h,k⟩⟩
theorem Ext.trans (x:Ext a1 n1 a2 n2)(y:Ext a2 n2 a3 n3):Ext a1 n1 a3 n3:=by
 obtain⟨⟨t,et,ft⟩,h1,k1,o1⟩:=x;obtain⟨⟨u,eu,fu⟩,h2,k2,o2⟩:=y;refine⟨⟨t++u,by simp only[eu,et];simp,fun b ob h hb=> ?_⟩,fun a its h=>h2 _ _ (h1 _ _ h),fun b ob h=> ?_,fun b ob h hb=> ?_⟩
 ·rcases abn.mp hb with q | q
  ·exact ft b ob h q
  ·obtain⟨ob',h'⟩:=k1 b ob h;exact fu b ob' h' q
 ·obtain⟨ob',h'⟩:=k1 b ob h;exact k2 b ob' h'
 ·obtain⟨q1,q2⟩:=o1 b ob h hb;exact o2 b ob q1 q2
section
variable{w:World}{ad aF:Ad}{aa ag:Led}
theorem VP.mono (x:Gr ad aa aF ag)(h:VP aa p v):VP ag p v:=by
 cases p with
 | tup ns=>refine bG h fun a its zq1 hm hi=> ?_;exact zq1 ▸ k5 a its ⟨rfl,x.tup _ _ hm,hi⟩
 | _=>exact h
theorem RR.mono (x:Gr ad aa aF ag)(h:RR ad i v):RR aF i v:=by refine ah h fun a e zq2=> ?_;subst zq2;obtain⟨⟨t,et⟩,_⟩:=x;exact⟨a,by exact et ▸ (aaY (by have:=aab.mp e;exact this.1)) ▸ e,rfl⟩
theorem bq(x:Gr ad aa aF ag){i:Nat}(h:ad.m[i]? =some a):aF.m[i]? =some a:=by refine ah (RR.mono x ⟨a,h,rfl⟩) fun b e q=> ?_;cases q;exact e
theorem VR.fA (x:Gr ad aa aF ag)(h:VR ad aa u v):VR aF ag u v:=by
 cases u with
 | pv p=>exact VP.mono x h
 | ref i=>exact RR.mono x h
 | glob g=>exact h
 | any=>exact h
theorem SR.mono (x:Gr ad aa aF ag)(h:SR ad aa u v):SR aF ag u v:=by cases u <;> cases v <;> first | exact h | exact VR.fA x h
theorem OR.mono (x:Gr ad aa aF ag)(h:OR w ad aa o ob):OR w aF ag o ob:=by
 cases o with
 | vals k xs=>refine bG h fun its n e h l=> ?_;exact k5 its n ⟨e,h.mono fun Z Z=>VP.mono x,l⟩
 | refs xs=>refine bG h fun its n e h l=> ?_;exact k5 its n ⟨e,h.mono fun Z Z=>RR.mono x,l⟩
 | dict es=>refine bG h fun fK n e h l=> ?_;exact k5 fK n ⟨e,h.mono fun Z Z h=>⟨h.1,h.2.1,VR.fA x h.2.2⟩,l⟩
 | inst C d=>refine ah h fun a e h=> ?_;exact⟨a,bq x e,h⟩
 | bo ep es=>refine ah h fun gn h l=> ?_;exact⟨gn,h,l.mono fun Z Z h=>⟨h.1,VR.fA x h.2⟩⟩
 | ig S n=>exact h
 | slot C d vs=>refine bG h fun a nR q e l=> ?_;exact k5 a nR ⟨bq x q,e,l.mono fun Z Z=>SR.mono x⟩
 | bound f i=>refine ah h fun a e h=> ?_;exact⟨a,bq x e,h⟩
 | da i y=>
  cases i with
  | none=>exact h
  | some i=>refine dy h fun a t e h=> ?_;exact k5 a t ⟨bq x e,h⟩
 | cK l k=>refine ah h fun a e h=> ?_;exact⟨a,bq x e,h⟩
 | wrap f i=>refine ah h fun a e h=> ?_;exact⟨a,bq x e,h⟩
 | dK=>exact h
 | cell v=>refine ah h fun v' h2 h3=> ?_;exact⟨v',h2,SR.mono x h3⟩
 | ns l=>refine ah h fun m h2 h3=> ?_;exact⟨m,h2,fun y v e=>let ⟨v',g1,g2⟩:=h3 y v e;⟨v',g1,VR.fA x g2⟩⟩
 | box τ=>exact h
theorem VR.mono (x:Ext ad aa aF ag)(h:VR ad aa u v):VR aF ag u v:=VR.fA x.gr h
theorem BR.mono (ht:∀a its,(a,gw its)∈aa->(a,gw its)∈ag)(hk:∀b∈l,∀ob,(b,ob)∈aa->(b,ob)∈ag)(h:BR w aa τ l):BR w ag τ l:=by refine⟨h.1,fun j o e=>bG (h.2 j o e) fun b ob h1 h2 h3=> ?_⟩;exact k5 b ob ⟨h1,hk b (abW h1) ob h2,h3.mono ⟨⟨[],by simp⟩,ht⟩⟩
theorem RP.mono (x:Gr ad aa aF ag)(hk:∀b∈a::ow,∀ob,(b,ob)∈aa->(b,ob)∈ag)(h:RP w ad aa a ow ob o):RP w aF ag a ow ob o:=by cases o <;> first | exact⟨h.1,h.2.mono x⟩ | exact BR.mono x.tup hk h
theorem RP.flat (hf:o.eX=false)(h:RP w ad aa a ow ob o):ow= []/\OR w ad aa o ob:=by cases o <;> first | exact h | exact absurd hf.symm ack
theorem RP.of (h:OR w ad aa o ob):RP w ad aa a [] ob o:=by cases o <;> first | exact⟨rfl,h⟩ | exact h.elim
theorem OR.flat (h:OR w ad aa o ob):o.eX=false:=by cases o <;> first | rfl | exact h.elim
theorem OR.cls (h:OR w ad aa o ob):NT ob:=by
 cases o with
 | vals k xs=>refine dy h fun its n Vy Z=> ?_;exact Vy ▸ NT.of (by simp)
 | refs xs=>refine dy h fun its n zq4 Z=> ?_;subst zq4;exact NT.of (by simp)
 | dict es=>refine dy h fun fK n Vz Z=> ?_;exact Vz ▸ NT.of (by simp)
 | inst C d=>obtain⟨a,e,rfl⟩:=h;exact NT.of (by simp)
 | bo ep es=>refine ah h fun gn h l=> ?_;refine ah h fun Z h1 Z=> ?_;intro its z;have:=h1.1;rw[z]at this;simp at this
 | ig S n=>refine aI h fun h1 Z=> ?_;intro its z;have:=h1.1;rw[z]at this;simp at this
 | slot C d vs=>refine bG h fun a nR q VA l=> ?_;exact VA ▸ NT.of (by simp)
 | bound f i=>obtain⟨a,e,rfl⟩:=h;exact NT.of (by simp)
 | da i y=>cases i with
  | none=>obtain rfl:=h;exact NT.of (by simp)
  | some i=>refine dy h fun a t e VB=> ?_;exact VB ▸ NT.of (by simp)
 | cK l k=>obtain⟨a,e,rfl⟩:=h;exact NT.of (by simp)
 | wrap f i=>obtain⟨a,e,rfl⟩:=h;exact NT.of (by simp)
 | dK=>exact h
 | cell v=>refine ah h fun v' h Z=> ?_;intro its z;replace h:=z ▸ h;cases h
 | ns l=>refine ah h fun m Gw Z=> ?_;obtain⟨es,ep,h,_⟩:=Gw;intro its z;replace h:=z ▸ h;cases h
 | box τ=>exact h.elim
end
def Nm(nv:Str->Option Addr)(m:Str->Option Value)(x:Str)(v:Value):Prop:=match nv x with
 | none=>m x=some v
 | some a=>v= .ref a
theorem Nm.Gx {nv:Str->Option Addr}(e:Nm nv m y v)(h:nv y=none):m y=some v:=by unfold Nm at e;rw[h]at e;exact e
theorem Nm.Ck {nv:Str->Option Addr}(e:Nm nv m y v)(h:nv y=some a):v= .ref a:=by unfold Nm at e;rw[h]at e;exact e
theorem Nm.cg {nv Uc:Str->Option Addr}(h:Uc y=nv y)(e:Nm nv m y v):Nm Uc m y v:=by unfold Nm at e ⊢;rw[h];exact e
structure cL(w:World)(h₀:Heap)(L:Addr)(nv:Str->Option Addr)(ad:Ad)(m:Str->Option Value)(aa:Led)(c:St)(h:Heap):Prop where
 F:Fr h₀ L h m
 N:News h₀ L h aa
 nd:(aa.map (·.1)).Nodup
 loc:∀(x:Str) (v:V),look c.loc x=some v->∃v',Nm nv m x v'/\VR ad aa v v'
 len:ad.m.length=c.aj.length
 fP:ad.o.length=c.aj.length
 fb:ad.Ok
 gp:∀b∈ad.all,∃ob,(b,ob)∈aa/\NT ob
 rep:∀(i:Nat) (o:AO),c.aj[i]? =some o->∃a ow ob,ad.m[i]? =some a/\ad.o[i]? =some ow/\(a,ob)∈aa/\RP w ad aa a ow ob o
theorem dz{aa:Led}(nd:(aa.map (·.1)).Nodup)(h:(a,o)∈aa)(h':(a,o')∈aa):o=o':=by
 induction aa with
 | nil=>cases h
 | cons p r ih=>
  simp only[acu,acD]at nd;rcases abi.mp h with e | h1 <;> rcases abi.mp h' with e' | h2
  ·replace e':=e ▸ e';cases e';rfl
  ·exact absurd (ab6.mpr ⟨_,h2,by exact e ▸ rfl⟩) nd.1
  ·exact absurd (ab6.mpr ⟨_,h1,by exact e' ▸ rfl⟩) nd.1
  ·exact ih nd.2 h1 h2
noncomputable def bB(aa:Led)(a:Addr)(o:Obj):Led:=aa.map fun p=>if p.1=a then(a,o)else p
theorem nS(aa:Led)(a:Addr)(o:Obj):(bB aa a o).map (·.1)=aa.map (·.1):=by
 unfold bB;rw[aeu];apply acH;intro p _;simp only[Function.comp];split
 ·rename_i e;exact e.symm
 ·rfl
theorem qF(h:∀p∈aa,p.1≠a):bB aa a o=aa:=by
 conv=>rhs;rw[<-aeA aa]
 apply acH;intro p hp;refine(if_neg (h p hp)) ▸ ?_;rfl
theorem cJ:∀ {aa:Led},(aa.map (·.1)).Nodup->(a,o)∈aa->Upd a o o' aa (bB aa a o'):=by
 intro aa;induction aa with
 | nil=>intro _ h;cases h
 | cons p r ih=>
  intro nd h;simp only[acu,acD]at nd;by_cases e:p.1=a
  ·have off:∀q∈r,q.1≠a:=fun q hq z=>nd.1 (by simp only[e,<-z];exact ab6.mpr ⟨q,hq,rfl⟩);have hp:p=(a,o):=by
    rcases abi.mp h with q | q
    ·exact q.symm
    ·exact absurd rfl (off _ q)
   subst hp;have:bB ((a,o)::r) a o'=(a,o')::r:=by show(if a=a then(a,o')else(a,o))::bB r a o'=_;rw[if_pos rfl,qF off]
   simp only[this];exact .head off
  ·have h':(a,o)∈r:=by
    rcases abi.mp h with q | q
    ·exact absurd (by exact q ▸ rfl) e
    ·exact q
   have:bB (p::r) a o'=p::bB r a o':=by show(if p.1=a then(a,o')else p)::bB r a o'=_;exact(if_neg e) ▸ rfl
   simp only[this];exact .tail e (ih nd.2 h')
theorem b5(h:(a,o)∈aa):(a,o')∈bB aa a o':=
 ab6.mpr ⟨_,h,by simp⟩
theorem aX(h:(b,o)∈aa)(hb:b≠a):(b,o)∈bB aa a o':=
 ab6.mpr ⟨_,h,by simp[hb]⟩
theorem cV{ad:Ad}(nd:(aa.map (·.1)).Nodup)(ha:a∈ad.all)(h:(a,o)∈aa)(hc:NT o):Ext ad aa ad (bB aa a o'):=by
 refine⟨⟨[],by simp,fun Z Z Z h=>bg h⟩,fun b its hb=>aX hb fun e=>hc its (by subst e;exact(dz nd h hb) ▸ rfl),fun b ob hb=> ?_,fun b ob hb hn=>⟨aX hb fun e=>hn (by exact e ▸ ha),hn⟩⟩;by_cases e:b=a
 ·exact e ▸ ⟨o',b5 hb⟩
 ·exact⟨ob,aX hb e⟩
theorem cf{ad:Ad}(nd:(aa.map (·.1)).Nodup)(ha:a∈ad.all)(h:(a,o)∈aa)(hc:o.cls≠ .type "tuple"):Ext ad aa ad (bB aa a o'):=cV nd ha h (NT.of hc)
theorem Ad.bk {ad:Ad}{i:Nat}(h:ad.m[i]? =some a):a∈ad.all:=abn.mpr (.inl (abW h))
theorem Ad.dM {ad:Ad}{i:Nat}(h:ad.o[i]? =some ow)(hb:b∈ow):b∈ad.all:=abn.mpr (.inr (List.mem_flatten.mpr ⟨ow,abW h,hb⟩))
theorem Ad.apart {ad:Ad}(nd:ad.Ok){i j:Nat}(h1:ad.m[i]? =some a)(h3:ad.m[j]? =some b)(h2:ad.o[j]? =some ow)(qi:j≠i):∀x∈b::ow,x≠a:=by
 intro x hx e;subst e;rcases abi.mp hx with q | q
 ·subst q;exact qi (nd.mi _ _ _ h3 h1)
 ·exact nd.mo _ _ _ _ h1 h2 q
theorem aW{α:Type}{l:List α}{x y:α}(h:(l++ [x])[j]? =some y):(j<l.length/\l[j]? =some y)\/(j=l.length/\y=x):=by
 by_cases hj:j<l.length
 ·rw[aaY hj]at h;exact .inl ⟨hj,h⟩
 ·have bT:=(aab.mp h).1;simp only[aag,acn,acQ]at bT;have:j=l.length:=aac (ba 294295885093144 bT) ((ic hj));subst this;simp at h;exact .inr ⟨rfl,h.symm⟩
theorem cL.oV {ad:Ad}(n:cL w h₀ L nv ad m aa c h) (hs:c.aj[i]? =some o)(ha:ad.m[i]? =some a)(hm:(a,ob)∈aa)(hc:NT ob)(F':Fr h₀ L h' m)(N':News h₀ L h' (bB aa a ob'))(ho:OR w ad (bB aa a ob') o' ob')(hf:o.eX=false:=by rfl):cL w h₀ L nv ad m (bB aa a ob') {c with aj:=c.aj.set i o'} h':=by
 have x:Ext ad aa ad (bB aa a ob'):=cV n.nd (Ad.bk ha) hm hc;refine⟨F',N',by simp only[nS];exact n.nd,fun y v e=> ?_,by simp[n.len],by simp[n.fP],n.fb,fun b hb=> ?_,fun j q e=> ?_⟩
 ·refine ah (n.loc y v e) fun v' e' r=> ?_;exact⟨v',e',VR.mono x r⟩
 ·refine ah (n.gp b hb) fun qb h1 h2=> ?_;by_cases z:b=a
  ·exact z.symm ▸ ⟨ob',b5 hm,ho.cls⟩
  ·exact⟨qb,aX h1 z,h2⟩
 ·by_cases hj:j=i
  ·subst hj;have:q=o':=by
    simp[acK,((aab.mp hs).1)]at e;exact e.symm
   subst this;refine cY (n.rep j o hs) fun b ow qb h1 h2 h3 h4=> ?_;replace h1:=ha ▸ h1;cases h1;obtain⟨rfl,_⟩:=h4.flat hf;exact sG a ([]) ob' ⟨ha,h2,b5 hm,RP.of ho⟩
  ·have e':c.aj[j]? =some q:=by simpa[acK,Ne.symm hj]using e
   refine cY (n.rep j q e') fun b ow qb h1 h2 h3 h4=> ?_;have ap:=Ad.apart n.fb ha h1 h2 hj;exact sG b ow qb ⟨h1,h2,aX h3 (ap b (.head _)),RP.mono x.gr (fun y hy ob hb=>aX hb (ap y hy)) h4⟩
theorem cL.upd {ad:Ad}(n:cL w h₀ L nv ad m aa c h) (hs:c.aj[i]? =some o)(ha:ad.m[i]? =some a)(hm:(a,ob)∈aa)(hc:ob.cls≠ .type "tuple")(F':Fr h₀ L h' m)(N':News h₀ L h' (bB aa a ob'))(ho:OR w ad (bB aa a ob') o' ob')(hf:o.eX=false:=by rfl):cL w h₀ L nv ad m (bB aa a ob') {c with aj:=c.aj.set i o'} h':=n.oV hs ha hm (NT.of hc) F' N' ho hf
noncomputable def Ad.snoc (ad:Ad)(l:Addr):Ad:=⟨ad.m++ [l],ad.o++ [[]]⟩
theorem Ad.il {ad:Ad}:b∈(ad.snoc l).all↔b∈ad.all\/b=l:=by
 unfold Ad.all Ad.snoc;simp only[abn,List.flatten_append,abH,adE,List.flatten_nil,ab5,acS,or_false];constructor
 ·rintro((h | h) | h)
  ·exact .inl (.inl h)
  ·exact .inr h
  ·exact .inl (.inr h)
 ·rintro((h | h) | h)
  ·exact .inl (.inl h)
  ·exact .inr h
  ·exact .inl (.inr h)
theorem cL.lt {ad:Ad}(n:cL w h₀ L nv ad m aa c h)(hl:∀p∈aa,p.1<l):l∉ad.all:=fun hm=>by refine ah (n.gp l hm) fun ob h1 Z=>absurd (hl _ h1) (acI _)
theorem cL.new {ad:Ad}(n:cL w h₀ L nv ad m aa c h) (hl:∀p∈aa,p.1<l)(F':Fr h₀ L h' m)(N':News h₀ L h' ((l,ob)::aa))(ho:OR w (ad.snoc l) ((l,ob)::aa) o ob):cL w h₀ L nv (ad.snoc l) m ((l,ob)::aa) {c with aj:=c.aj++ [o]} h'/\Ext ad aa (ad.snoc l) ((l,ob)::aa):=by
 have x:Ext ad aa (ad.snoc l) ((l,ob)::aa):=⟨⟨[l],rfl,fun b ob' h hb=>by rw[abH.mp hb]at h;exact absurd (hl _ h) (acI _)⟩,fun a its h=>.tail _ h,fun b ob' h=>⟨ob',.tail _ h⟩,fun b ob' h hb=>⟨.tail _ h,fun q=>by
  rcases Ad.il.mp q with q | q
  ·exact hb q
  ·subst q;exact absurd (hl _ h) (acI _)⟩⟩
 refine⟨⟨F',N',?_,fun y v e=> ?_,by simp[Ad.snoc,n.len],by simp[Ad.snoc,n.fP],?_,fun b hb=> ?_,fun j q e=> ?_⟩,x⟩
 ·simp only[acu,acD];refine⟨fun hm=> ?_,n.nd⟩;refine ah (ab6.mp hm) fun p hp e=>absurd (hl p hp) (by exact e ▸ acI _)
 ·refine ah (n.loc y v e) fun v' e' r=> ?_;exact⟨v',e',VR.mono x r⟩
 ·have h1:=n.fb;refine⟨fun i j a ha hb=> ?_,fun i j a ow ha hb hm=> ?_,fun i j ow qD a ha hb hm fQ=> ?_,fun i ow ho=> ?_⟩
  ·rcases aW ha with⟨p1,q1⟩ | ⟨p1,q1⟩ <;> rcases aW hb with⟨p2,q2⟩ | ⟨p2,q2⟩
   ·exact h1.mi _ _ _ q1 q2
   ·subst q2;exact absurd (Ad.bk q1) (n.lt hl)
   ·subst q1;exact absurd (Ad.bk q2) (n.lt hl)
   ·simp only[p1,p2]
  ·rcases aW hb with⟨p2,q2⟩ | ⟨p2,q2⟩
   ·rcases aW ha with⟨p1,q1⟩ | ⟨p1,q1⟩
    ·exact h1.mo _ _ _ _ q1 q2 hm
    ·subst q1;exact(n.lt hl) (Ad.dM q2 hm)
   ·subst q2;cases hm
  ·rcases aW ha with⟨p1,q1⟩ | ⟨p1,q1⟩ <;> rcases aW hb with⟨p2,q2⟩ | ⟨p2,q2⟩
   ·exact h1.oi _ _ _ _ _ q1 q2 hm fQ
   ·subst q2;cases fQ
   ·subst q1;cases hm
   ·simp only[p1,p2]
  ·rcases aW ho with⟨p2,q2⟩ | ⟨p2,q2⟩
   ·exact h1.on _ _ q2
   ·exact q2 ▸ .nil
 ·rcases Ad.il.mp hb with q | q
  ·refine ah (n.gp b q) fun qb h1 h2=> ?_;exact⟨qb,.tail _ h1,h2⟩
  ·exact q.symm ▸ ⟨ob,.head _,ho.cls⟩
 ·by_cases hj:j<c.aj.length
  ·replace e:=(aaY hj) ▸ e;refine cY (n.rep j q e) fun b ow qb h1 h2 h3 h4=>sG b ow qb ⟨bq x.gr h1,?_,.tail _ h3,RP.mono x.gr (fun Z Z Z hb=>.tail _ hb) h4⟩;show(ad.o++ [[]])[j]? =some ow;rw[aaY (by rw[n.fP];exact hj)];exact h2
  ·have bT:=(aab.mp e).1;simp only[aag,acn,acQ]at bT;have:j=c.aj.length:=aac (ba 294295885093144 bT) ((ic hj));subst this;simp at e;subst e;exact sG l ([]) ob ⟨by show(ad.m++ [l])[_]? =_;refine n.len ▸ ?_;simp,by show(ad.o++ [[]])[_]? =_;refine n.fP ▸ ?_;simp,.head _,RP.of ho⟩
theorem cL.more {ad:Ad}(n:cL w h₀ L nv ad m aa c h) (hl:∀p∈aa,p.1<l)(F':Fr h₀ L h' m)(N':News h₀ L h' ((l,ob)::aa)):cL w h₀ L nv ad m ((l,ob)::aa) c h'/\Ext ad aa ad ((l,ob)::aa):=by
 have x:Ext ad aa ad ((l,ob)::aa):=⟨⟨[],by simp,fun Z Z Z h=>bg h⟩,fun a its h=>.tail _ h,fun b ob' h=>⟨ob',.tail _ h⟩,fun b ob' h hb=>⟨.tail _ h,hb⟩⟩;refine⟨⟨F',N',?_,fun y v e=> ?_,n.len,n.fP,n.fb,fun b hb=> ?_,fun j q e=> ?_⟩,x⟩
 ·simp only[acu,acD];refine⟨fun hm=> ?_,n.nd⟩;refine ah (ab6.mp hm) fun p hp e=>absurd (hl p hp) (by exact e ▸ acI _)
 ·refine ah (n.loc y v e) fun v' e' r=> ?_;exact⟨v',e',VR.mono x r⟩
 ·refine ah (n.gp b hb) fun qb h1 h2=> ?_;exact⟨qb,.tail _ h1,h2⟩
 ·refine cY (n.rep j q e) fun b ow qb h1 h2 h3 h4=>sG b ow qb ⟨h1,h2,.tail _ h3,RP.mono x.gr (fun Z Z Z hb=>.tail _ hb) h4⟩
theorem cL.Cm {ad:Ad}(n:cL w h₀ L nv ad m aa c h)(ha:a∉ad.all)(hm:(a,ob)∈aa)(hc:NT ob) (F':Fr h₀ L h' m)(N':News h₀ L h' (bB aa a ob')):cL w h₀ L nv ad m (bB aa a ob') c h':=by
 have g:Gr ad aa ad (bB aa a ob'):=⟨⟨[],by simp⟩,fun b its hb=>aX hb fun e=>hc its (by subst e;exact(dz n.nd hm hb) ▸ rfl)⟩;refine⟨F',N',by simp only[nS];exact n.nd,fun y v e=> ?_,n.len,n.fP,n.fb,fun b hb=> ?_,fun j q e=> ?_⟩
 ·refine ah (n.loc y v e) fun v' e' r=> ?_;exact⟨v',e',VR.fA g r⟩
 ·refine ah (n.gp b hb) fun qb h1 h2=> ?_;exact⟨qb,aX h1 fun e=>ha (e ▸ hb),h2⟩
 ·refine cY (n.rep j q e) fun b ow qb h1 h2 h3 h4=> ?_;have ap:∀y∈b::ow,y≠a:=fun y hy e=>ha (by
   subst e;rcases abi.mp hy with q | q
   ·exact q ▸ Ad.bk h1
   ·exact Ad.dM h2 q)
  exact sG b ow qb ⟨h1,h2,aX h3 (ap b (.head _)),RP.mono g (fun y hy ob hb=>aX hb (ap y hy)) h4⟩
theorem cL.heap {ad:Ad}(n:cL w h₀ L nv ad m aa c h)(F':Fr h₀ L h' m)(N':News h₀ L h' aa):cL w h₀ L nv ad m aa c h':=
 ⟨F',N',n.nd,n.loc,n.len,n.fP,n.fb,n.gp,n.rep⟩
theorem cL.store {ad:Ad}(n:cL w h₀ L nv ad m aa c h)(hnv:nv x=none)(hv:VR ad aa v v') (F':Fr h₀ L h' (fun y=>if y=x then some v' else m y))(N':News h₀ L h' aa):cL w h₀ L nv ad (fun y=>if y=x then some v' else m y) aa {c with loc:=put c.loc x v} h':=by
 refine⟨F',N',n.nd,fun y u e=> ?_,n.len,n.fP,n.fb,n.gp,n.rep⟩;rw[fz]at e;by_cases h:y=x
 ·replace e:=(if_pos h) ▸ e;cases e;exact h.symm ▸ ⟨v',by unfold Nm;exact hnv ▸ if_pos rfl,hv⟩
 ·rw[if_neg h]at e;refine ah (n.loc y u e) fun u' e' r=>⟨u',?_,r⟩;unfold Nm at e' ⊢;split
  ·rename_i q;rw[q]at e';exact(if_neg h).trans e'
  ·rename_i q;rw[q]at e';exact e'
structure Fm where
 w:World
 A:Around
 A₀:Around
 base:Heap
 h₀:Heap
 outer:List Env
 L:Addr
 qual:Str
 scope:Scope
 f:Addr
 cd:Value
 k:Nat
 yE:Scope
 fcl:List (Str×Addr)
 ov:Option Env
 nv:Str->Option Addr
noncomputable abbrev Fm.iU (e:Fm):Env:=envX e.qual e.yE e.L e.f e.cd e.fcl
noncomputable def Fm.env (e:Fm):Env:=match e.ov with
 | none=>e.iU
 | some v=>v
def Ud(L:Addr)(n:Env)(x:Str)(v:Option Addr):Option NameKind->Prop
 | some .local=>n.kindOf x=some .local/\n.locals=L/\v=none
 | some .globalExplicit=>n.kindOf x=some .local/\v=some n.locals
 | some .globalImplicit=>n.kindOf x=some .globalImplicit
 | some .cell=>n.kindOf x=some .cell/\∃a,n.cells.lookup x=some a/\v=some a
 | some .free=>n.kindOf x=some .free/\∃a,n.cells.lookup x=some a/\v=some a
 | none=>True
def s9(e:Fm):Prop:=∀x,Ud e.L e.env x (e.nv x) (e.scope.names.lookup x)
structure Cx(e:Fm):Prop where
 B:Below e.A₀ e.base e.outer e.h₀
 X:(KK e.w.params).In e.h₀
 T:∃fc mg mb,Top gK (looseW gK gL) fc mg mb e.h₀
 hA:e.A.frames=some (e.iU::e.outer)
 uH:e.yE.kind= .function
 hk:e.env.scope.kind= .function
 gl:e.env.globals=mainGlobals
 bu:e.env.builtins=builtinsNs
 kd:s9 e
 dep:e.A.depth+e.k<recursionLimit
 Cn:e.A.units+20*e.k<cLine
 hh:e.A.handled=none
theorem Cx.dn (hx:Cx e)(hk:e.k=k+1):e.A.depth+1+k<recursionLimit/\e.A.units+3+20*k<cLine:=by have h1:=hx.Cn;have h2:=hx.dep;rw[hk]at h1 h2;exact⟨by rw[Nat.add_assoc,Nat.add_comm 1];exact h2,ael (by rw[Nat.add_assoc,Nat.mul_succ,Nat.add_comm 3];exact Nat.add_le_add_left (Nat.add_le_add_left (by decide) _) _) h1⟩
abbrev aU(e:Fm):=cL e.w e.h₀ e.L e.nv
def gx{α β:Type}(e:Fm)(x:Shared)(ad:Ad)(aa:Led)(aJ:Ad->Led->α->β->Prop)(Q:α->St->Prop)(R:β->Shared->Prop):Prop:=
 ∀a b c' h' tk aF m' ag,Q a c'->aU e aF m' ag c' h'->Ext ad aa aF ag->aJ aF ag a b->R b {x with heap:=h',toks:=tk}
def Wp{α β:Type}(e:Fm)(aJ:Ad->Led->α->β->Prop)(t:Sem β)(c:St)(Q:α->St->Prop):Prop:=
 ∀(x:Shared) (ad:Ad) (m:Str->Option Value) (aa:Led),aU e ad m aa c x.heap->∀(R:β->Shared->Prop) (E:Value->Shared->Prop),gx e x ad aa aJ Q R->wpAny (model pw e.w) e.A t R E x
def cN{α β:Type}(e:Fm)(aJ:Ad->Led->α->β->Prop)(us:List V)(t:List Value->Sem β)(c:St)(Q:α->St->Prop):Prop:=
 ∀(x:Shared) (ad:Ad) (m:Str->Option Value) (aa:Led) (vs:List Value),aU e ad m aa c x.heap->aM (VR ad aa) us vs->∀(R:β->Shared->Prop) (E:Value->Shared->Prop),gx e x ad aa aJ Q R->wpAny (model pw e.w) e.A (t vs) R E x
def cP{α β:Type}(e:Fm)(aJ:Ad->Led->α->β->Prop)(u:V)(t:Value->Sem β)(c:St)(Q:α->St->Prop):Prop:=
 ∀(x:Shared) (ad:Ad) (m:Str->Option Value) (aa:Led) (v:Value),aU e ad m aa c x.heap->VR ad aa u v->∀(R:β->Shared->Prop) (E:Value->Shared->Prop),gx e x ad aa aJ Q R->wpAny (model pw e.w) e.A (t v) R E x
def bM{α β:Type}(e:Fm)(aJ:Ad->Led->α->β->Prop)(u u':V)(t:Value->Value->Sem β)(c:St)(Q:α->St->Prop):Prop:=
 ∀(x:Shared) (ad:Ad) (m:Str->Option Value) (aa:Led) (v v':Value),aU e ad m aa c x.heap->VR ad aa u v->VR ad aa u' v'->∀(R:β->Shared->Prop) (E:Value->Shared->Prop),gx e x ad aa aJ Q R->wpAny (model pw e.w) e.A (t v v') R E x
def cD{α:Type}(_:Ad)(_:Led)(a b:α):Prop:=a=b
def qj(ad:Ad)(aa:Led)(a:List V)(b:List Value):Prop:=aM (VR ad aa) a b
inductive AF where
 | next
 | brk
 | cont
 | ret (v:V)
def bN(ad:Ad)(aa:Led):AF->Flow->Prop
 | .next,f=>f= .next
 | .brk,f=>f= .brk
 | .cont,f=>f= .cont
 | .ret v,f=>∃v',f= .ret v'/\VR ad aa v v'
section
variable{e:Fm}{c:St}
theorem gx.ext {α β:Type}{ad aF:Ad}{aJ:Ad->Led->α->β->Prop}{Q:α->St->Prop}{R:β->Shared->Prop} (p:gx e x ad aa aJ Q R)(y:Ext ad aa aF ag):gx e {x with heap:=h,toks:=tk} aF ag aJ Q R:=
 fun a b c' h' Co bp m2 ay q n z r=>p a b c' h' Co bp m2 ay q n (y.trans z) r
theorem Wp.mono {α β:Type}{aJ:Ad->Led->α->β->Prop}{t:Sem β}{Q Q':α->St->Prop}(h:Wp e aJ t c Q)(k:∀a c',Q a c'->Q' a c'):Wp e aJ t c Q':=
 fun x ad m aa n R E p=>h x ad m aa n R E fun a b c' h' tk aF m' ag q n' y r=>p a b c' h' tk aF m' ag (k _ _ q) n' y r
theorem qj.mono {ad aF:Ad}(x:Ext ad aa aF ag){vs:List Value}(h:aM (VR ad aa) us vs):aM (VR aF ag) us vs:=h.mono fun Z Z=>VR.mono x
theorem EZ(h:Q (.pv (.int i)) c):Wp e VR (eval (.Constant (.int i) k pos) e.env) c Q:=
 fun x ad m aa n R E p=>wpAny_Constant_int (p _ _ _ _ _ _ _ _ h n (Ext.refl ..) ⟨_,rfl⟩)
theorem qG(h:Q (.pv (.str y.cps.toList)) c):Wp e VR (eval (.Constant (.str y) k pos) e.env) c Q:=
 fun x ad m aa n R E p=>wpAny_Constant_str (p _ _ _ _ _ _ _ _ h n (Ext.refl ..) ⟨_,rfl⟩)
theorem ta(h:Q (.pv .none) c):Wp e VR (eval (.Constant .none k pos) e.env) c Q:=
 fun x ad m aa n R E p=>wpAny_Constant_none (p _ _ _ _ _ _ _ _ h n (Ext.refl ..) rfl)
theorem Gy(h:Q (.pv (.bool b)) c):Wp e VR (eval (.Constant (.bool b) k pos) e.env) c Q:=
 fun x ad m aa n R E p=>wpAny_Constant_bool (p _ _ _ _ _ _ _ _ h n (Ext.refl ..) rfl)
theorem cj{α:Type}(l:List (Str×α))(x:Str):l.lookup x=look l x:=by
 induction l with
 | nil=>rfl
 | cons p r ih=>
  obtain⟨y,v⟩:=p;refine eQ ▸ ?_;cases h:Fast.sEq y x with
  | true=>exact Fast.sEq_iff.mp h ▸ aed
  | false=>rw[adw,beq_false_of_ne fun q=>lI ((Fast.sEq_iff.mpr q.symm).symm.trans h)];exact ih
theorem Cx.sH (hx:Cx e)(hl:look e.scope.names y=o):Ud e.L e.env y (e.nv y) o:=hl ▸ cj _ y ▸ hx.kd y
theorem cW(h:Fast.sEq x y=false):(x==y)=false:=by apply beq_false_of_ne;intro q;replace h:=(Fast.sEq_iff.mpr q) ▸ h;exact lI h
theorem cL.at {ad:Ad}(n:aU e ad m aa c h)(hs:c.aj[i]? =some o)(r:RR ad i v)(hf:o.eX=false:=by rfl):∃a ob,v= .ref a/\ad.m[i]? =some a/\(a,ob)∈aa/\OR e.w ad aa o ob/\h.get? a=some ob:=by refine ah r fun a h1 VC=> ?_;subst VC;refine cY (n.rep i o hs) fun b ow ob h2 Z h3 h4=> ?_;replace h2:=h1 ▸ h2;cases h2;exact⟨a,ob,rfl,h1,h3,(h4.flat hf).2,(n.N _ h3).1⟩
theorem uI(hx:Cx e)(hd:Fast.sEq y (s "__debug__")=false)(hl:look e.scope.names y=some .local)(hv:look c.loc y=some v)(h:Q v c):Wp e VR (eval (.Name y pos) e.env) c Q:=fun x ad m aa n R E p=>by refine ah (n.loc y v hv) fun v' e' r=> ?_;have k:=hx.sH hl;have e':m y=some v':=e'.Gx k.2.2;exact wpAny_Name (wpAny_loadName_local hx.hk k.1 (by exact k.2.1 ▸ n.F.ns) e' (p _ _ _ _ _ _ _ _ h n (Ext.refl ..) r)) (cW hd)
theorem Gz(hx:Cx e)(hd:Fast.sEq y (s "__debug__")=false)(hc:Fast.sEq y (s "__classdict__")=false)(hl:look e.scope.names y=some q)(hq:q= .cell\/q= .free)(hv:look c.loc y=some (.ref i))(hs:c.aj[i]? =some (.cell (some v))) (h:Q v c):Wp e VR (eval (.Name y pos) e.env) c Q:=fun x ad m aa n R E p=>by
 refine ah (n.loc y _ hv) fun v' e' r=> ?_;have k:=hx.sH hl;refine cI (n.at hs r) fun a ob VD ha hm GA ho=> ?_;subst VD;obtain⟨w',yF,E0⟩:=GA;cases w' with
 | none=>exact E0.elim
 | some w'=>
  rcases hq with rfl | rfl
  ·obtain⟨k1,b,k2,k3⟩:=k;cases e'.Ck k3;exact wpAny_Name (wpAny_loadName_cell hx.hk k1 k2 ⟨ob,ho,yF⟩ (p _ _ _ _ _ _ _ _ h n (Ext.refl ..) E0)) (cW hd)
  ·obtain⟨k1,b,k2,k3⟩:=k;cases e'.Ck k3;exact wpAny_Name (wpAny_loadName_free hx.hk k1 k2 ⟨ob,ho,yF⟩ (p _ _ _ _ _ _ _ _ h n (Ext.refl ..) E0) (cW hc)) (cW hd)
theorem yG(hx:Cx e)(hd:Fast.sEq y (s "__debug__")=false)(hl:look e.scope.names y=some .globalExplicit)(hv:look c.loc y=some (.ref i))(hs:c.aj[i]? =some (.ns l))(hy:look l y=some v) (h:Q v c):Wp e VR (eval (.Name y pos) e.env) c Q:=fun x ad m aa n R E p=>by
 refine ah (n.loc y _ hv) fun v' e' r=> ?_;have k:=hx.sH hl;refine cI (n.at hs r) fun a ob VE ha hm VF ho=> ?_;subst VE;obtain⟨m',⟨es,ep,g1,g2,g3⟩,E0⟩:=VF;refine ah (E0 y v hy) fun w' h1 h2=> ?_;have:e.env.locals=a:=by cases e'.Ck k.2;rfl
 exact wpAny_Name (wpAny_loadName_local hx.hk k.1 (by exact this ▸ ⟨ob,es,ep,ho,g1,g2,g3⟩) h1 (p _ _ _ _ _ _ _ _ h n (Ext.refl ..) h2)) (cW hd)
noncomputable def gv:Value->V
 | .int i _=>.pv (.int i)
 | v=>.glob v
theorem La(ad:Ad)(aa:Led)(v:Value):VR ad aa (gv v) v:=by cases v <;> first | exact⟨_,rfl⟩ | rfl
theorem yH(hx:Cx e)(hd:Fast.sEq y (s "__debug__")=false)(hl:look e.scope.names y=some .globalImplicit) (hv:nsIn (KK e.w.params) mainGlobals y=some (some v))(h:Q (gv v) c):Wp e VR (eval (.Name y pos) e.env) c Q:=fun x ad m aa n R E p=>by refine hY hx.T fun fc mg mb T=> ?_;have k:=hx.sH hl;exact nameG_K n.F hx.X (topRead_of T) hv (p _ _ _ _ _ _ _ _ h n (Ext.refl ..) (La ..)) hx.gl hx.hk k (cW hd)
def tb:List (Str×Value):= [(s "len",.builtin "len"),(s "range",.type "range"),(s "min",.builtin "min"),(s "max",.builtin "max"),(s "iter",.builtin "iter"),(s "tuple",.type "tuple"),
 (s "list",.type "list"),(s "sorted",.builtin "sorted"),(s "isinstance",.builtin "isinstance"),(s "str",.type "str"),(s "type",.type "type"),(s "int",.type "int"),(s "bool",.type "bool"),(s "set",.type "set"),(s "object",.type "object"),(s "StopIteration",.type "StopIteration")]
theorem qH:∀p∈tb,bootBuiltins p.1=some p.2:=by decide +kernel
theorem gy{α:Type}{l:List (Str×α)}{v:α}(h:look l x=some v):(x,v)∈l:=by
 induction l with
 | nil=>exact aZ h
 | cons p r ih=>
  simp only[eQ]at h;cases q:Fast.sEq p.1 x with
  | true=>replace h:=q ▸ h;cases h;exact(Fast.sEq_iff.mp q) ▸ .head _
  | false=>rw[q]at h;exact .tail _ (ih h)
theorem v5(hx:Cx e)(hd:Fast.sEq y (s "__debug__")=false)(hn:Fast.sEq y (s "__name__")=false)(hl:look e.scope.names y=some .globalImplicit) (hg:nsIn (KK e.w.params) mainGlobals y=some none)(hv:look tb y=some v)(h:Q (.glob v) c):Wp e VR (eval (.Name y pos) e.env) c Q:=fun x ad m aa n R E p=>by refine hY hx.T fun fc mg mb T=> ?_;have k:=hx.sH hl;exact Name_function_global hx.hk k (loadGlobal_builtin (by rw[hx.gl];exact(topRead_of T).g.keeps n.F.keep) (mg_none_of hx.X (topRead_of T).g hg) (by rw[hx.bu];exact(topRead_of T).b.keeps n.F.keep) (((topRead_of T).builtins y fun q=>by replace hn:=(Fast.sEq_iff.mpr q) ▸ hn;exact lI hn).trans (qH _ (gy hv))) (p _ _ _ _ _ _ _ _ h n (Ext.refl ..) rfl)) (cW hd)
theorem fR(h:Wp e VR (eval l e.env) c fun a c1=>Wp e VR (eval r e.env) c1 fun b c2=>bM e VR a b (binaryOp op) c2 Q):Wp e VR (eval (.BinOp l op r pos) e.env) c Q:=
 fun x ad m aa n R E p=>wpAny_BinOp (h x ad m aa n _ E fun a a' c1 h1 dF bx m1 av q1 n1 x1 r1=>q1 _ bx m1 av n1 _ E fun b b' c2 h2 gI bp m2 ay q2 n2 x2 r2=>q2 _ bp m2 ay a' b' n2 (VR.mono x2 r1) r2 R E (p.ext (x1.trans x2)))
theorem v7(hm:behindInMarks op r=false)(h:Wp e VR (eval l e.env) c fun a c1=>Wp e VR (eval r e.env) c1 fun b c2=>bM e VR a b (compareOp op) c2 Q):Wp e VR (eval (.Compare l [op] [r] pos) e.env) c Q:=
 fun x ad m aa n R E p=>wpAny_Compare1 (h x ad m aa n _ E fun a a' c1 h1 dF bx m1 av q1 n1 x1 r1=>q1 _ bx m1 av n1 _ E fun b b' c2 h2 gI bp m2 ay q2 n2 x2 r2=>q2 _ bp m2 ay a' b' n2 (VR.mono x2 r1) r2 R E (p.ext (x1.trans x2))) hm
theorem uJ(h:Wp e VR (eval y e.env) c fun a c1=>cP e VR a (unaryOp op) c1 Q):Wp e VR (eval (.UnaryOp op y pos) e.env) c Q:=
 fun x ad m aa n R E p=>wpAny_UnaryOp (h x ad m aa n _ E fun a a' c1 h1 dF bx m1 av q1 n1 x1 r1=>q1 _ bx m1 av a' n1 r1 R E (p.ext x1))
theorem dj(h:Wp e VR (eval y e.env) c fun a c1=>Wp e VR (eval sl e.env) c1 fun b c2=>bM e VR a b (subscriptTail y sl) c2 Q):Wp e VR (eval (.Subscript y sl pos) e.env) c Q:=
 fun x ad m aa n R E p=>Subscript_ (h x ad m aa n _ E fun a a' c1 h1 dF bx m1 av q1 n1 x1 r1=>q1 _ bx m1 av n1 _ E fun b b' c2 h2 gI bp m2 ay q2 n2 x2 r2=>q2 _ bp m2 ay a' b' n2 (VR.mono x2 r1) r2 R E (p.ext (x1.trans x2)))
theorem aN(h:Q [] c):Wp e qj (spliced (backTo pos (starEach [] e.env))) c Q:=
 fun x ad m aa n R E p=>args_nil (p _ _ _ _ _ _ _ _ h n (Ext.refl ..) .nil)
theorem aS(he:starEach (y::rest) e.env=(false,eval y e.env)::starEach rest e.env) (h:Wp e VR (eval y e.env) c fun a c1=>Wp e qj (spliced (backTo pos (starEach rest e.env))) c1 fun as c2=>Q (a::as) c2):Wp e qj (spliced (backTo pos (starEach (y::rest) e.env))) c Q:=
 fun x ad m aa n R E p=>args_cons (h x ad m aa n _ E fun a a' c1 h1 dF bx m1 av q1 n1 x1 r1=>q1 _ bx m1 av n1 _ E fun b b' c2 h2 gI bp m2 ay q2 n2 x2 r2=>p (a::b) (a'::b') c2 h2 gI bp m2 ay q2 n2 (x1.trans x2) (.cons (VR.mono x2 r1) r2)) he
theorem eB(hm:behindInMarks op r=false)(h:Wp e VR (eval l e.env) c fun a c1=>Wp e VR (eval r e.env) c1 fun b c2=>bM e VR a b (compareOp op) c2 fun v c3=>cP e cD v truthy c3 Q):Wp e cD (isTrue (.Compare l [op] [r] pos) e.env whole) c Q:=
 fun x ad m aa n R E p=>wpAny_isTrue_Compare1 (h x ad m aa n _ E fun a a' c1 h1 dF bx m1 av q1 n1 x1 r1=>q1 _ bx m1 av n1 _ E fun b b' c2 h2 gI bp m2 ay q2 n2 x2 r2=>q2 _ bp m2 ay a' b' n2 (VR.mono x2 r1) r2 _ E fun v v' c3 h3 jr iq m3 cn q3 n3 x3 r3=>q3 _ iq m3 cn v' n3 r3 R E (p.ext ((x1.trans x2).trans x3))) hm
theorem tc(h:Wp e cD (isTrue y e.env (eval y e.env)) c fun b c1=>Q (!b) c1):Wp e cD (isTrue (.UnaryOp .Not y pos) e.env whole) c Q:=
 fun x ad m aa n R E p=>isTrue_not (h x ad m aa n _ E fun a a' c1 h1 dF bx m1 av q1 n1 x1 r1=>p (!a) (!a') c1 h1 dF bx m1 av q1 n1 x1 (congrArg _ r1))
theorem jw(he:isTrue y e.env (eval y e.env)=(do let v <-eval y e.env;standAt y.pos;holding [v] (truthy v)))(h:Wp e VR (eval y e.env) c fun v c1=>cP e cD v truthy c1 Q):
  Wp e cD (isTrue y e.env (eval y e.env)) c Q:=
 fun x ad m aa n R E p=>isTrue_plain (h x ad m aa n _ E fun a a' c1 h1 dF bx m1 av q1 n1 x1 r1=>q1 _ bx m1 av a' n1 r1 R E (p.ext x1)) he
abbrev GB(e:Fm)(r:List Stmt)(Q:AF->St->Prop):AF->St->Prop:=fun f c=>match f with | .next=>Wp e bN (execs r e.env) c Q | f=>Q f c
abbrev jx(N:St->Prop)(Q:AF->St->Prop):AF->St->Prop:=fun f c=>match f with | .next=>N c | .cont=>N c | .brk=>Q .next c | .ret v=>Q (.ret v) c
abbrev oW(Q:V->List AO->Prop):AF->St->Prop:=fun f c=>Q (match f with | .ret v=>v | _=>.pv .none) c.aj
theorem cQ(h:Q .next c):Wp e bN (execs [] e.env) c Q:=
 fun x ad m aa n R E p=>wpAny_execs_nil (p _ _ _ _ _ _ _ _ h n (Ext.refl ..) rfl)
theorem aT(h:Wp e bN (exec y e.env) c (GB e rest Q)):Wp e bN (execs (y::rest) e.env) c Q:=
 fun x ad m aa n R E p=>wpAny_execs_cons (h x ad m aa n _ E fun f f' c1 h1 dF bx m1 av q1 n1 x1 r1=>by
  cases f with
  | next=>cases r1;exact q1 _ bx m1 av n1 R E (p.ext x1)
  | brk=>cases r1;exact p .brk .brk _ _ _ _ _ _ q1 n1 x1 rfl
  | cont=>cases r1;exact p .cont .cont _ _ _ _ _ _ q1 n1 x1 rfl
  | ret v=>refine ah r1 fun v' VG r=> ?_;exact VG ▸ p (.ret v) (.ret v') _ _ _ _ _ _ q1 n1 x1 ⟨v',rfl,r⟩)
theorem cE(hx:Cx e)(hl:look e.scope.names y=some .local)(h:Q () {c with loc:=put c.loc y v}):cP e cD v (storeName e.env y) c Q:=by intro x ad m aa v' n r R E p;have k:=hx.sH hl;refine wpAny_storeName_local k.1 (by rw[k.2.1];exact n.F.ns) (fun h' hn hs=> ?_) (by refine hx.hk ▸ ?_;rfl);rw[k.2.1]at hn hs;exact p () () _ _ _ _ _ _ h (n.store k.2.2 r (n.F.set hn hs) (n.N.set hs)) (Ext.refl ..) rfl
theorem dA(nd:(aa.map (·.1)).Nodup)(hm:(a,o)∈aa)(N:News h₀ L h aa)(hs:Heap.SameBut a h h')(g:h'.get? a=some o'):News h₀ L h' (bB aa a o'):=by refine ng ((cJ (o':=o') nd hm).split) fun pre post e1 e2 a1 b1=>e2 ▸ news_set (e1 ▸ N) a1 b1 hs g
theorem jy(hx:Cx e)(hl:look e.scope.names y=some .cell)(hv:look c.loc y=some (.ref i))(hs:c.aj[i]? =some (.cell v₀))(h:Q () {c with aj:=c.aj.set i (.cell (some v))}):cP e cD v (storeName e.env y) c Q:=by
 intro x ad m aa v' n r R E p;have k:=hx.sH hl;refine ah (n.loc y _ hv) fun u' e' ru=>cI (n.at hs ru) fun a ob VH ha hm GC ho=> ?_;subst VH;obtain⟨w',yF,E0⟩:=GC;refine aI k fun k1 GD=>ah GD fun b hb k3=> ?_;have:b=a:=by cases e'.Ck k3;rfl
 subst this;have lJ:NT ob:=fun its z=>Gv (z ▸ yF:) rfl;delta storeName;rw[k1,hx.hk];refine wpAny_bind (wpAny_cellOf hb (wpAny_bind (wpAny_load ho ?_)));refine yF ▸ ?_;have x':Ext ad aa ad (bB aa b {ob with data:=.cell (some v')}):=cV n.nd (Ad.bk ha) hm lJ;refine wpAny_update ho (p () () _ _ _ _ _ _ h (n.oV (ob':={ob with data:=.cell (some v')}) hs ha hm lJ (n.F.change (Heap.SameBut.update ..) (n.N _ hm).2.1 (n.N _ hm).2.2) ?_ ⟨_,rfl,VR.mono x' r⟩) x' rfl);exact dA n.nd hm n.N (Heap.SameBut.update ..) (Heap.get?_update_self _ ho rfl)
theorem yI(hx:Cx e)(hl:look e.scope.names y=some .globalExplicit)(hv:look c.loc y=some (.ref i))(hs:c.aj[i]? =some (.ns l))(h:Q () {c with aj:=c.aj.set i (.ns (put l y v))}):cP e cD v (storeName e.env y) c Q:=by
 intro x ad m aa v' n r R E p;have k:=hx.sH hl;refine ah (n.loc y _ hv) fun u' e' ru=>cI (n.at hs ru) fun a ob GF ha hm VI ho=> ?_;subst GF;obtain⟨m',⟨es,ep,g1,g2,g3⟩,E0⟩:=VI;have kT:e.env.locals=a:=by cases e'.Ck k.2;rfl
 refine wpAny_storeName_local k.1 (by rw[kT];exact⟨ob,es,ep,ho,g1,g2,g3⟩) (fun h' hn iu=> ?_) (by refine hx.hk ▸ ?_;rfl);rw[kT]at hn iu;refine cY hn fun o' Lb dJ q1 q2 q3 q4=> ?_;have lJ:NT ob:=fun its z=>Gv (z ▸ g1:) rfl;have x':Ext ad aa ad (bB aa a o'):=cV n.nd (Ad.bk ha) hm lJ;refine p () () _ _ _ _ _ _ h (n.oV hs ha hm lJ (n.F.change iu (n.N _ hm).2.1 (n.N _ hm).2.2) ?_ ⟨_,⟨Lb,dJ,q2,q3,q4⟩,fun z u ez=> ?_⟩) x' rfl
 ·exact dA n.nd hm n.N iu q1
 ·rw[fz]at ez;by_cases Ue:z=y
  ·replace ez:=(if_pos Ue) ▸ ez;cases ez;exact⟨v',if_pos Ue,VR.mono x' r⟩
  ·rw[if_neg Ue]at ez;refine ah (E0 z u ez) fun u2 f1 f2=>⟨u2,(if_neg Ue).trans f1,VR.mono x' f2⟩
theorem cR(hs:swapsWith value (some (.Name y pos')) pos.line e.env=pure false)(h:Wp e VR (eval value e.env) c fun v c1=>cP e cD v (storeName e.env y) c1 fun(_:Unit) c2=>Q .next c2):Wp e bN (exec (.Assign [.Name y pos'] value pos) e.env) c Q:=
 fun x ad m aa n R E p=>wpAny_Assign_Name (h x ad m aa n _ E fun a a' c1 h1 dF bx m1 av q1 n1 x1 r1=>q1 _ bx m1 av a' n1 r1 _ E fun u u' c2 h2 gI bp m2 ay q2 n2 x2 Z=>p .next .next _ _ _ _ _ _ q2 n2 (x1.trans x2) rfl) hs
noncomputable def nk(vs:List Value):Sem Unit:=match vs with
 | [a,b,v]=>setItem a b v
 | _=>.unsupported ""
theorem kx(hs:swapsWith value (some (.Subscript o i pos')) pos.line e.env=pure false) (h:Wp e VR (eval value e.env) c fun v c1=>Wp e VR (eval o e.env) c1 fun a c2=>Wp e VR (eval i e.env) c2 fun b c3=>cN e cD [a,b,v] nk c3 fun(_:Unit) c4=>Q .next c4):Wp e bN (exec (.Assign [.Subscript o i pos'] value pos) e.env) c Q:=
 fun x ad m aa n R E p=>wpAny_Assign_Subscript (h x ad m aa n _ E fun a a' c1 h1 dF bx m1 av q1 n1 x1 r1=>q1 _ bx m1 av n1 _ E fun b b' c2 h2 gI bp m2 ay q2 n2 x2 r2=>q2 _ bp m2 ay n2 _ E fun d d' c3 h3 jr iq m3 cn q3 n3 x3 r3=>q3 _ iq m3 cn [b',d',a'] n3 (.cons (VR.mono x3 r2) (.cons r3 (.cons (VR.mono (x2.trans x3) r1) .nil))) _ E fun u u' c4 h4 Ug E1 m4 ky q4 n4 x4 Z=>p .next .next _ _ _ _ _ _ q4 n4 (((x1.trans x2).trans x3).trans x4) rfl) hs
theorem gO(hk:e.env.scope.kind= .function)(hs:swapsWith y none pos.line e.env=pure false)(h:Wp e VR (eval y e.env) c fun Z c1=>Q .next c1):Wp e bN (exec (.Expr y pos) e.env) c Q:=
 fun x ad m aa n R E p=>wpAny_Expr_any (h x ad m aa n _ E fun a a' c1 h1 dF bx m1 av q1 n1 x1 Z=>p .next .next _ _ _ _ _ _ q1 n1 x1 rfl)
  (by show(e.env.scope.kind== .module&&_)=false;refine hk ▸ ?_;rfl) hs
theorem ix(h:Wp e VR (eval y e.env) c fun v c1=>Q (.ret v) c1):Wp e bN (exec (.Return (some y) pos) e.env) c Q:=
 fun x ad m aa n R E p=>wpAny_Return_some (h x ad m aa n _ E fun a a' c1 h1 dF bx m1 av q1 n1 x1 r1=>p (.ret a) (.ret a') _ _ _ _ _ _ q1 n1 x1 ⟨a',rfl,r1⟩)
theorem oX(h:Wp e cD (isTrue test e.env (eval test e.env)) c fun b c1=>(b=true->Wp e bN (execs body e.env) c1 Q)/\(b=false->Wp e bN (execs orelse e.env) c1 Q)):Wp e bN (exec (.If test body orelse pos) e.env) c Q:=
 fun x ad m aa n R E p=>wpAny_If (h x ad m aa n _ E fun b b' c1 h1 dF bx m1 av q1 n1 x1 r1=>by
  cases r1;cases b with
  | true=>exact q1.1 rfl _ bx m1 av n1 R E (p.ext x1)
  | false=>exact q1.2 rfl _ bx m1 av n1 R E (p.ext x1))
theorem uK(h:Q .brk c):Wp e bN (exec (.Break pos) e.env) c Q:=
 fun x ad m aa n R E p=>wpAny_Break (p .brk .brk _ _ _ _ _ _ h n (Ext.refl ..) rfl)
theorem lK(h:Q .cont c):Wp e bN (exec (.Continue pos) e.env) c Q:=
 fun x ad m aa n R E p=>wpAny_Continue (p .cont .cont _ _ _ _ _ _ h n (Ext.refl ..) rfl)
theorem GG(h:Q .next c):Wp e bN (exec (.Pass pos) e.env) c Q:=
 fun x ad m aa n R E p=>wpAny_Pass (p .next .next _ _ _ _ _ _ h n (Ext.refl ..) rfl)
theorem cL.nq {ad:Ad}(n:aU e ad m aa c h){i:Nat}(hs:c.aj[i]? =some o)(ha:ad.m[i]? =some a)(hf:o.eX=false:=by rfl):∃ob,(a,ob)∈aa/\OR e.w ad aa o ob/\h.get? a=some ob:=
 cY (n.rep i o hs) fun b Z ob h2 Z h3 h4=>have e1:b=a:=aah.inj (h2.symm.trans ha);⟨ob,e1 ▸ h3,(h4.flat hf).2,(n.N _ (e1 ▸ h3)).1⟩
theorem cL.lL {ad:Ad}{G:Prop}(n:aU e ad m aa c h){i:Nat}{xs:List kd.ty}(hs:c.aj[i]? =some (.vals kd xs))(ha:ad.m[i]? =some a) (k:∀its k',(a,listOf its.toArray k')∈aa->aM (VP aa) (xs.map kd.inj) its->xs.length<=100000->h.get? a=some (listOf its.toArray k')->G):G:=
 bD (n.nq hs ha) fun ob h1 h2 h3=>bG h2 fun its k' eo g1 g2=>k its k' (eo ▸ h1) g1 g2 (eo ▸ h3)
theorem Wp.gen {α β:Type}{aJ:Ad->Led->α->β->Prop}{t:Sem β}{Q:α->St->Prop}(h:∀K:α->St->Prop,(∀a c,Q a c->K a c)->Wp e aJ t c K):Wp e aJ t c Q:=h Q fun Z Z h=>h
theorem Wp.eqs {α β:Type}{aJ:Ad->Led->α->β->Prop}{t:Sem β}{U:α}(h:Wp e aJ t c fun u c1=>u=U/\c1=C){ad:Ad}(n:aU e ad m aa c x.heap){R:β->Shared->Prop} (k:∀u' h' tk aF m' ag,aU e aF m' ag C h'->Ext ad aa aF ag->aJ aF ag U u'->R u' {x with heap:=h',toks:=tk}):wpAny (model pw e.w) e.A t R E x:=
 h x ad m aa n R E fun u u' c1 h' tk aF m' ag q n' y r=>k u' h' tk aF m' ag (q.2 ▸ n') y (q.1 ▸ r)
theorem aM.un {α β:Type}{R:α->β->Prop}{a:α}{l:List α}{vs:List β}(h:aM R (a::l) vs):∃b r,vs=b::r/\R a b/\aM R l r:=by cases h with | cons h1 h2=>exact⟨_,_,rfl,h1,h2⟩
theorem aM.ni {α β:Type}{R:α->β->Prop}{vs:List β}(h:aM R [] vs):vs= []:=by cases h;rfl
theorem cN.x7 {α β:Type}{aJ:Ad->Led->α->β->Prop}{t:List Value->Sem β}{Q:α->St->Prop}(h:cP e aJ u (fun v=>t [v]) c Q):cN e aJ [u] t c Q:=by intro x ad m aa vs n q R E p;refine bG q.un fun b0 l0 e0 r0 q0=> ?_;have z:=q0.ni;subst z;exact e0 ▸ h x ad m aa b0 n r0 R E p
theorem cN.of2 {α β:Type}{aJ:Ad->Led->α->β->Prop}{t:List Value->Sem β}{Q:α->St->Prop}(h:bM e aJ u w (fun v v'=>t [v,v']) c Q):cN e aJ [u,w] t c Q:=by intro x ad m aa vs n q R E p;refine bG q.un fun b0 l0 e0 r0 q0=>bG q0.un fun b1 l1 e1 r1 q1=> ?_;have z:=q1.ni;subst z;subst e1;exact e0 ▸ h x ad m aa b0 b1 n r0 r1 R E p
theorem cN.VJ {α β:Type}{aJ:Ad->Led->α->β->Prop}{t:List Value->Sem β}{Q:α->St->Prop} (h:∀(x:Shared) (ad:Ad) (m:Str->Option Value) (aa:Led) (v v' v'':Value),aU e ad m aa c x.heap->VR ad aa u v->VR ad aa w v'->VR ad aa z v''->∀(R:β->Shared->Prop) (E:Value->Shared->Prop),gx e x ad aa aJ Q R->wpAny (model pw e.w) e.A (t [v,v',v'']) R E x):cN e aJ [u,w,z] t c Q:=by intro x ad m aa vs n q R E p;refine bG q.un fun b0 l0 e0 r0 q0=>bG q0.un fun b1 l1 e1 r1 q1=> ?_;refine bG q1.un fun b2 l2 e2 r2 q2=> ?_;have z:=q2.ni;subst z;subst e2;subst e1;exact e0 ▸ h x ad m aa b0 b1 b2 n r0 r1 r2 R E p
theorem cP.i {α β:Type}{aJ:Ad->Led->α->β->Prop}{t:Value->Sem β}{Q:α->St->Prop} (h:∀(x:Shared) (ad:Ad) (m:Str->Option Value) (aa:Led) (j:Nat),aU e ad m aa c x.heap->∀(R:β->Shared->Prop) (E:Value->Shared->Prop),gx e x ad aa aJ Q R->wpAny (model pw e.w) e.A (t (.int a j)) R E x):cP e aJ (.pv (.int a)) t c Q:=by intro x ad m aa v0 n r0 R E p;refine aA r0 fun k0 e0=>e0 ▸ h x ad m aa k0 n R E p
theorem cP.s {α β:Type}{aJ:Ad->Led->α->β->Prop}{t:Value->Sem β}{Q:α->St->Prop} (h:∀(x:Shared) (ad:Ad) (m:Str->Option Value) (aa:Led) (j:Nat),aU e ad m aa c x.heap->∀(R:β->Shared->Prop) (E:Value->Shared->Prop),gx e x ad aa aJ Q R->wpAny (model pw e.w) e.A (t (.str ⟨a.toArray⟩ j)) R E x):cP e aJ (.pv (.str a)) t c Q:=by intro x ad m aa v0 n r0 R E p;refine aA r0 fun k0 e0=>e0 ▸ h x ad m aa k0 n R E p
theorem cP.r {α β:Type}{aJ:Ad->Led->α->β->Prop}{t:Value->Sem β}{Q:α->St->Prop} (h:∀(x:Shared) (ad:Ad) (m:Str->Option Value) (aa:Led) (j:Addr),aU e ad m aa c x.heap->ad.m[a]? =some j->∀(R:β->Shared->Prop) (E:Value->Shared->Prop),gx e x ad aa aJ Q R->wpAny (model pw e.w) e.A (t (.ref j)) R E x):cP e aJ (.ref a) t c Q:=by intro x ad m aa v0 n r0 R E p;refine ah r0 fun k0 g0 e0=>e0 ▸ h x ad m aa k0 n g0 R E p
theorem bM.ii {α β:Type}{aJ:Ad->Led->α->β->Prop}{t:Value->Value->Sem β}{Q:α->St->Prop} (h:∀(x:Shared) (ad:Ad) (m:Str->Option Value) (aa:Led) (j:Nat) (k:Nat),aU e ad m aa c x.heap->∀(R:β->Shared->Prop) (E:Value->Shared->Prop),gx e x ad aa aJ Q R->wpAny (model pw e.w) e.A (t (.int a j) (.int b k)) R E x):bM e aJ (.pv (.int a)) (.pv (.int b)) t c Q:=by intro x ad m aa v0 v1 n r0 r1 R E p;refine aA r0 fun k0 e0=> ?_;subst e0;refine aA r1 fun k1 e1=>e1 ▸ h x ad m aa k0 k1 n R E p
theorem bM.ss {α β:Type}{aJ:Ad->Led->α->β->Prop}{t:Value->Value->Sem β}{Q:α->St->Prop} (h:∀(x:Shared) (ad:Ad) (m:Str->Option Value) (aa:Led) (j:Nat) (k:Nat),aU e ad m aa c x.heap->∀(R:β->Shared->Prop) (E:Value->Shared->Prop),gx e x ad aa aJ Q R->wpAny (model pw e.w) e.A (t (.str ⟨a.toArray⟩ j) (.str ⟨b.toArray⟩ k)) R E x):bM e aJ (.pv (.str a)) (.pv (.str b)) t c Q:=by intro x ad m aa v0 v1 n r0 r1 R E p;refine aA r0 fun k0 e0=> ?_;subst e0;refine aA r1 fun k1 e1=>e1 ▸ h x ad m aa k0 k1 n R E p
theorem bM.ri {α β:Type}{aJ:Ad->Led->α->β->Prop}{t:Value->Value->Sem β}{Q:α->St->Prop} (h:∀(x:Shared) (ad:Ad) (m:Str->Option Value) (aa:Led) (j:Addr) (k:Nat),aU e ad m aa c x.heap->ad.m[a]? =some j->∀(R:β->Shared->Prop) (E:Value->Shared->Prop),gx e x ad aa aJ Q R->wpAny (model pw e.w) e.A (t (.ref j) (.int b k)) R E x):bM e aJ (.ref a) (.pv (.int b)) t c Q:=by intro x ad m aa v0 v1 n r0 r1 R E p;refine ah r0 fun k0 g0 e0=> ?_;subst e0;refine aA r1 fun k1 e1=>e1 ▸ h x ad m aa k0 k1 n g0 R E p
theorem bM.rs {α β:Type}{aJ:Ad->Led->α->β->Prop}{t:Value->Value->Sem β}{Q:α->St->Prop} (h:∀(x:Shared) (ad:Ad) (m:Str->Option Value) (aa:Led) (j:Addr) (k:Nat),aU e ad m aa c x.heap->ad.m[a]? =some j->∀(R:β->Shared->Prop) (E:Value->Shared->Prop),gx e x ad aa aJ Q R->wpAny (model pw e.w) e.A (t (.ref j) (.str ⟨b.toArray⟩ k)) R E x):bM e aJ (.ref a) (.pv (.str b)) t c Q:=by intro x ad m aa v0 v1 n r0 r1 R E p;refine ah r0 fun k0 g0 e0=> ?_;subst e0;refine aA r1 fun k1 e1=>e1 ▸ h x ad m aa k0 k1 n g0 R E p
theorem bM.rr {α β:Type}{aJ:Ad->Led->α->β->Prop}{t:Value->Value->Sem β}{Q:α->St->Prop} (h:∀(x:Shared) (ad:Ad) (m:Str->Option Value) (aa:Led) (j:Addr) (k:Addr),aU e ad m aa c x.heap->ad.m[a]? =some j->ad.m[b]? =some k->∀(R:β->Shared->Prop) (E:Value->Shared->Prop),gx e x ad aa aJ Q R->wpAny (model pw e.w) e.A (t (.ref j) (.ref k)) R E x):bM e aJ (.ref a) (.ref b) t c Q:=by intro x ad m aa v0 v1 n r0 r1 R E p;refine ah r0 fun k0 g0 e0=> ?_;subst e0;refine ah r1 fun k1 g1 e1=>e1 ▸ h x ad m aa k0 k1 n g0 g1 R E p
theorem bM.ra {α β:Type}{aJ:Ad->Led->α->β->Prop}{t:Value->Value->Sem β}{Q:α->St->Prop} (h:∀(x:Shared) (ad:Ad) (m:Str->Option Value) (aa:Led) (j:Addr) (k:Value),aU e ad m aa c x.heap->ad.m[a]? =some j->VR ad aa b k->∀(R:β->Shared->Prop) (E:Value->Shared->Prop),gx e x ad aa aJ Q R->wpAny (model pw e.w) e.A (t (.ref j) k) R E x):bM e aJ (.ref a) b t c Q:=by intro x ad m aa v0 v1 n r0 r1 R E p;refine ah r0 fun k0 g0 e0=>e0 ▸ h x ad m aa k0 v1 n g0 r1 R E p
theorem bM.ai {α β:Type}{aJ:Ad->Led->α->β->Prop}{t:Value->Value->Sem β}{Q:α->St->Prop} (h:∀(x:Shared) (ad:Ad) (m:Str->Option Value) (aa:Led) (j:Value) (k:Nat),aU e ad m aa c x.heap->VR ad aa a j->∀(R:β->Shared->Prop) (E:Value->Shared->Prop),gx e x ad aa aJ Q R->wpAny (model pw e.w) e.A (t j (.int b k)) R E x):bM e aJ a (.pv (.int b)) t c Q:=by intro x ad m aa v0 v1 n r0 r1 R E p;refine aA r1 fun k1 e1=>e1 ▸ h x ad m aa v0 k1 n r0 R E p
theorem bM.ia {α β:Type}{aJ:Ad->Led->α->β->Prop}{t:Value->Value->Sem β}{Q:α->St->Prop} (h:∀(x:Shared) (ad:Ad) (m:Str->Option Value) (aa:Led) (j:Nat) (k:Value),aU e ad m aa c x.heap->VR ad aa b k->∀(R:β->Shared->Prop) (E:Value->Shared->Prop),gx e x ad aa aJ Q R->wpAny (model pw e.w) e.A (t (.int a j) k) R E x):bM e aJ (.pv (.int a)) b t c Q:=by intro x ad m aa v0 v1 n r0 r1 R E p;refine aA r0 fun k0 e0=>e0 ▸ h x ad m aa k0 v1 n r1 R E p
theorem Lc(h:Q (.pv (.int (a+b))) c):bM e VR (.pv (.int a)) (.pv (.int b)) (binaryOp .Add) c Q:=by refine .ii fun x ad m aa t u n R E p=>PyProof.Rows.add_int (p _ _ _ _ _ _ _ _ h n (Ext.refl ..) ⟨_,rfl⟩)
theorem Ld(h:Q (.pv (.int (a-b))) c):bM e VR (.pv (.int a)) (.pv (.int b)) (binaryOp .Sub) c Q:=by refine .ii fun x ad m aa t u n R E p=>PyProof.Rows.sub_int' (p _ _ _ _ _ _ _ _ h n (Ext.refl ..) ⟨_,rfl⟩)
theorem GH(hb:b≠0)(hs:b.natAbs<1000000)(h:Q (.pv (.int (a.fdiv b))) c):bM e VR (.pv (.int a)) (.pv (.int b)) (binaryOp .FloorDiv) c Q:=by refine .ii fun x ad m aa t u n R E p=>PyProof.Rows.floordiv_int hb (p _ _ _ _ _ _ _ _ h n (Ext.refl ..) ⟨_,rfl⟩) (.inl (PyProof.noPylong_small (bY 0x400000008fb09f42405fb09918 hs)))
theorem GI(hb:b≠0)(h:Q (.pv (.int (a.fmod b))) c):bM e VR (.pv (.int a)) (.pv (.int b)) (binaryOp .Mod) c Q:=by refine .ii fun x ad m aa t u n R E p=>PyProof.Rows.mod_int' hb (p _ _ _ _ _ _ _ _ h n (Ext.refl ..) ⟨_,rfl⟩)
theorem GJ(h0:0<=a)(h:Q (.pv (.int (a / 2))) c):bM e VR (.pv (.int a)) (.pv (.int 1)) (binaryOp .RShift) c Q:=by refine .ii fun x ad m aa t u n R E p=>wpAny_rshift1_int h0 (p _ _ _ _ _ _ _ _ h n (Ext.refl ..) ⟨_,rfl⟩)
theorem VK(h:Q (.pv (.bool (decide (a<b)))) c):bM e VR (.pv (.int a)) (.pv (.int b)) (compareOp .Lt) c Q:=by refine .ii fun x ad m aa t u n R E p=>PyProof.Rows.lt_int (p _ _ _ _ _ _ _ _ h n (Ext.refl ..) rfl)
theorem VL(h:Q (.pv (.bool (decide (a<=b)))) c):bM e VR (.pv (.int a)) (.pv (.int b)) (compareOp .LtE) c Q:=by refine .ii fun x ad m aa t u n R E p=>PyProof.Rows.le_int (p _ _ _ _ _ _ _ _ h n (Ext.refl ..) rfl)
theorem VM(h:Q (.pv (.bool (decide (b<a)))) c):bM e VR (.pv (.int a)) (.pv (.int b)) (compareOp .Gt) c Q:=by refine .ii fun x ad m aa t u n R E p=>PyProof.Rows.gt_int (p _ _ _ _ _ _ _ _ h n (Ext.refl ..) rfl)
theorem VN(h:Q (.pv (.bool (decide (b<=a)))) c):bM e VR (.pv (.int a)) (.pv (.int b)) (compareOp .GtE) c Q:=by refine .ii fun x ad m aa t u n R E p=>PyProof.Rows.ge_int (p _ _ _ _ _ _ _ _ h n (Ext.refl ..) rfl)
theorem GK(h:Q (.pv (.bool (a==b))) c):bM e VR (.pv (.int a)) (.pv (.int b)) (compareOp .Eq) c Q:=by refine .ii fun x ad m aa t u n R E p=>PyProof.Rows.eq_int (p _ _ _ _ _ _ _ _ h n (Ext.refl ..) rfl)
theorem VO(h:Q (.pv (.bool (a != b))) c):bM e VR (.pv (.int a)) (.pv (.int b)) (compareOp .NotEq) c Q:=by refine .ii fun x ad m aa t u n R E p=>PyProof.Rows.ne_int (p _ _ _ _ _ _ _ _ h n (Ext.refl ..) rfl)
theorem cG(h:Q b c):cP e cD (.pv (.bool b)) truthy c Q:=by rintro x ad m aa _ n rfl R E p;exact wpAny_truthy_bool (p _ _ _ _ _ _ _ _ h n (Ext.refl ..) rfl)
theorem aO{h:Heap}{its:List Value}(ho:h.get? a=some (listOf its.toArray k)):h.IsList a its.toArray:=⟨_,ho,rfl,_,rfl⟩
theorem bz(h:isSlice sl=false)(o i:Value):subscripted sl false o i=operate [o,i] (getItem o i):=by cases sl <;> first | rfl | exact absurd h.symm ack
theorem Lf{k:Int}(h:k.toNat<n)(hz:n<=100000):k<2 ^ 63:=by lia
theorem o_item{xs:List kd.ty}{p:kd.ty}(mX:isSlice sl=false)(hs:c.aj[i]? =some (.vals kd xs))(h0:0<=k)(hx:xs[k.toNat]? =some p)(h:Q (.pv (kd.inj p)) c):bM e VR (.ref i) (.pv (.int k)) (subscriptTail y sl) c Q:=by refine .ri fun x ad m aa a t n ha R E q=>n.lL hs ha fun its k' hm hi hz ho=> ?_;refine ah (hi.get (by rw[aa0,hx];rfl)) fun v hv rv=> ?_;have bT:k.toNat<xs.length:=(aab.mp hx).1;exact tail_any (aO ho).typeIs slot_list_getitem.lookup (wpAny_getItem_list (aO ho) h0 (Lf bT hz) (by simpa using hv) (q _ _ _ _ _ _ _ _ h n (Ext.refl ..) rv)) (bz mX _ _)
theorem Cp(mX:isSlice sl=false)(hs:c.aj[i]? =some (.refs xs))(h0:0<=k)(hx:xs[k.toNat]? =some j)(h:Q (.ref j) c):bM e VR (.ref i) (.pv (.int k)) (subscriptTail y sl) c Q:=by refine .ri fun x ad m aa a t n ha R E q=>bD (n.nq hs ha) fun ob hm GA ho=> ?_;obtain⟨its,k',rfl,hi,hz⟩:=GA;refine ah (hi.get hx) fun v hv rv=> ?_;have bT:k.toNat<xs.length:=(aab.mp hx).1;exact tail_any (aO ho).typeIs slot_list_getitem.lookup (wpAny_getItem_list (aO ho) h0 (Lf bT hz) (by simpa using hv) (q _ _ _ _ _ _ _ _ h n (Ext.refl ..) rv)) (bz mX _ _)
theorem aD:100001<=sizeLine:=by decide
theorem v8(hs:c.aj[i]? =some (.vals kd xs))(h0:0<=k)(h1:k<xs.length)(h:Q () {c with aj:=c.aj.set i (.vals kd (xs.set k.toNat p))}):cN e cD [.ref i,.pv (.int k),.pv (kd.inj p)] nk c Q:=by
 refine .VJ fun x ad m aa _ _ _ n r Lg rv R E q=> ?_;obtain⟨t,rfl⟩:=Lg;rename_i v;refine cI (n.at hs r) fun a ob VQ ha hm VS ho=> ?_;subst VQ;obtain⟨its,k',rfl,hi,hz⟩:=VS;have hlen:=hi.length;simp only[aaR]at hlen;refine ki_setAt ho h0 (by lia) (by simp;exact lx [_,_] [_] 0x18b0910908b09120 h1 (bh hlen)) (q () () _ _ _ _ _ _ h (n.upd (ob':=listOf (its.set k.toNat v).toArray k') hs ha hm (by simp) ?_ ?_ ?_) (cf n.nd (Ad.bk ha) hm (by simp)) rfl)
 ·exact n.F.change (Heap.SameBut.update ..) (n.N _ hm).2.1 (n.N _ hm).2.2
 ·refine ng ((cJ (o':=listOf (its.set k.toNat v).toArray k') n.nd hm).split) fun pre post e1 e2 a1 b1=> ?_;simp only[e2];have N:=n.N;simp only[e1]at N;refine ki_turn _ N a1 b1 ?_ ?_
  ·apply Array.toList_inj.mp;simp
  ·simp
 ·have x':Ext ad aa ad (bB aa a (listOf (its.set k.toNat v).toArray k')):=cf n.nd (Ad.bk ha) hm (by simp);exact⟨_,_,rfl,by simp only[List.map_set];exact(hi.mono fun _ _=>VP.mono x'.gr).set _ (VP.mono x'.gr rv),by simpa using hz⟩
def eY(P:Params)(f:Value):Bool:=match f with
 | .ref _=>keepIn (KK P) f
 | _=>true
theorem iL(hk:eY P f=true)(h:Heap)(X:(KK P).In h):∃k,(k=Keeper.frame\/k=Keeper.machine\/k=Keeper.boundFrame)/\Looks M h (keeperOf f) k:=by
 cases f with
 | ref a=>exact keeps_K (show keepIn (KK P) (.ref a)=true from hk) h X
 | _=>exact⟨.machine,.inr (.inl rfl),Looks.of_pure rfl⟩
def bK(l:List Expr):Bool:=l.all fun y=> !isStar y
theorem aE(h:isStar y=false)(rest:List Expr)(env:Env):starEach (y::rest) env=(false,eval y env)::starEach rest env:=by cases y <;> first | rfl | exact absurd h.symm ack
theorem jW:∀ {l:List Expr},bK l=true->∀(pos:Pos) (env:Env),(backTo pos (starEach l env)).any (·.1)=false
 | [],_,_,_=>rfl
 | y::r,h,pos,env=>by replace h:=acA.mp (show(!isStar y&&bK r)=true from h);rw[aE ((ac6 _).mp h.1)];exact jW h.2 pos env
theorem lM{α:Type}{aJ:Ad->Led->α->Value->Prop}(hx:Cx e){Q:α->St->Prop}(hk:eY e.w.params f=true)(hn:bK args=true) (h:Wp e qj (spliced (backTo pos (starEach args e.env))) c fun vs c1=>cN e aJ (us++vs) (fun dc=>call f dc) c1 Q):cN e aJ us (fun nT=>callWith pos f nT (backTo pos (starEach args e.env)) []) c Q:=by
 intro x ad m aa nT n ru R E p;refine callWith_of (by rw[jW hn];rfl) (iL hk) ?_;have key:wpAny (model pw e.w) e.A (spliced (backTo pos (starEach args e.env))) (fun vs s₁=>(KK e.w.params).In s₁.heap/\wpAny (model pw e.w) e.A (call f (nT++vs)) R E s₁) E x:=by refine h x ad m aa n _ E fun a a' c1 h1 dF bx m1 av q1 n1 x1 r1=>⟨hx.X.keeps n1.F.keep,q1 _ bx m1 av (nT++a') n1 ((qj.mono x1 ru).append r1) R E (p.ext x1)⟩
 cases args with
 | nil=>exact evalArgs_nil3 (by exact⟨hx.X.keeps n.F.keep,by have k2:wpAny (model pw e.w) e.A (spliced (backTo pos (starEach [] e.env))) (fun vs s₁=>(KK e.w.params).In s₁.heap/\wpAny (model pw e.w) e.A (call f (nT++vs)) R E s₁) E x:=key;intro Γ p' hΓ;have k4:(KK e.w.params).In x.heap/\wpAny (model pw e.w) e.A (call f (nT++ [])) R E x:=(k2 Γ p' hΓ);exact k4.2 Γ p' hΓ⟩)
 | cons y r=>have hn:=acA.mp (show(!isStar y&&bK r)=true from hn);rw[aE ((ac6 _).mp hn.1)]at key ⊢;exact evalArgs_plain key
theorem dm{α:Type}{aJ:Ad->Led->α->Value->Prop}(hx:Cx e){Q:α->St->Prop}(hn:bK args=true) (h:Wp e VR (eval (.Name y p') e.env) c fun g c1=>∃f,g= .glob f/\eY e.w.params f=true/\Wp e qj (spliced (backTo pos (starEach args e.env))) c1 fun vs c2=>cN e aJ vs (fun dc=>call f dc) c2 Q):Wp e aJ (eval (.Call (.Name y p') args [] pos) e.env) c Q:=
 fun x ad m aa n R E p=>Call_ (h x ad m aa n _ E fun a a' c1 h1 dF bx m1 av q1 n1 x1 r1=>by obtain⟨f,rfl,hk,q⟩:=q1;obtain rfl:=r1.symm;exact lM hx hk hn q _ bx m1 av [] n1 .nil R E (p.ext x1))
def MR(ad:Ad)(aa:Led)(a:Value×List V)(b:Value×List Value):Prop:=a.1=b.1/\aM (VR ad aa) a.2 b.2
noncomputable def cS:Expr->Bool
 | .Call (.Name _ _) [] [] _=>false
 | _=>true
theorem jd(h:cS o=true)(name:Str)(env:Env)(whole:Sem Value):attributeBase o name env whole=whole:=by
 cases o with
 | Call f l k p=>
  cases f with
  | Name x q=>
   cases l with
   | nil=>
    cases k with
    | nil=>exact absurd h ack
    | cons=>rfl
   | cons=>rfl
  | _=>rfl
 | _=>rfl
theorem k9(h1:cS o=true)(h2:bK args=true)(h3:args.length<30)(h4:(apos.endLine==pos.line)=true):eval (.Call (.Attribute o name apos) args [] pos) env=(do
   let ov <-eval o env
   standAt apos.atName
   let (f,first) <-holding [ov] (getMethod ov name (do return (<-importBound o env).getD true))
   callWith pos f first (backTo pos (starEach args env)) []):=by
 have hf:methodCallForm (args.length+([]:List Keyword).length) (backTo pos (starEach args env)) (backToKw pos (keywordEach [] env))=true:=by unfold methodCallForm;refine acA.mpr ⟨acA.mpr ⟨?_,rfl⟩,decide_eq_true h3⟩;rw[List.all_eq_not_any_not];simpa using (jW h2 pos env)
 show(do
  let ov <-attributeBase o name env (eval o env)
  standAt apos.atName
  methodCall o name apos pos env ov (args.length+([]:List Keyword).length) (backTo pos (starEach args env)) (backToKw pos (keywordEach [] env)))=_
 simp only[jd h1];congr 1;funext ov;congr 1;funext _;delta methodCall calleeOf methodCallPos;rw[hf,h4];rfl
theorem dp{α:Type}{aJ:Ad->Led->α->Value->Prop}(hx:Cx e){o:Expr}{name:Str}{apos pos:Pos}{args:List Expr}{Q:α->St->Prop}(h1:cS o=true)(h2:bK args=true)(h3:args.length<30)(h4:(apos.endLine==pos.line)=true) (h:Wp e VR (eval o e.env) c fun u c1=>∀pl,cP e MR u (fun v=>getMethod v name pl) c1 fun fm c2=>eY e.w.params fm.1=true/\Wp e qj (spliced (backTo pos (starEach args e.env))) c2 fun vs c3=>cN e aJ (fm.2++vs) (fun dc=>call fm.1 dc) c3 Q):Wp e aJ (eval (.Call (.Attribute o name apos) args [] pos) e.env) c Q:=
 fun x ad m aa n R E p=>MethodCall_ (h x ad m aa n _ E fun a a' c1 td dF bx m1 av q1 n1 x1 r1=>q1 _ _ bx m1 av a' n1 r1 _ E fun fm Lh c2 yJ gI bp m2 ay q2 n2 x2 r2=>by obtain⟨f',nT⟩:=Lh;obtain⟨rfl,ru⟩:=r2;exact lM hx q2.1 h2 q2.2 _ bp m2 ay nT n2 ru R E (p.ext (x1.trans x2))) (k9 h1 h2 h3 h4)
theorem gP{id:String}(hs:c.aj[i]? =some o)(ho:(∃kd xs,o= .vals kd xs)\/∃xs,o= .refs xs) (slot:Slot "list" name id)(VT:typeOf (.builtin id)=pure (.type "method_descriptor"))(h:Q (.builtin id,[.ref i]) c):cP e MR (.ref i) (fun v=>getMethod v name pl) c Q:=by
 rintro x ad m aa v n r R E q;refine cI (n.at hs r (by rcases ho with⟨kd,xs,rfl⟩ | ⟨xs,rfl⟩ <;> rfl)) fun a ob Vy ha hm hO hg=> ?_;subst Vy;have:∃its k,ob=listOf its k:=by rcases ho with⟨kd,xs,rfl⟩ | ⟨xs,rfl⟩ <;> (refine dy hO fun its k Vz Z=> ?_;subst Vz;exact⟨_,_,rfl⟩)
 refine eP this fun its k zq6=> ?_;subst zq6;exact kl_method n.N hm slot VT (q _ _ _ _ _ _ _ _ h n (Ext.refl ..) ⟨rfl,.cons r .nil⟩)
theorem ed(hs:c.aj[i]? =some (.vals kd xs))(hz:xs.length<100000)(h:Q (.pv .none) {c with aj:=c.aj.set i (.vals kd (xs++ [p]))}):cN e VR [.ref i,.pv (kd.inj p)] (fun vs=>call (.builtin "list.append") vs) c Q:=by rintro x ad m aa _ n (_ | ⟨r,_ | ⟨rv,_ | _⟩⟩) R E q;rename_i v;refine cI (n.at hs r) fun a ob VA ha hm zq8 ho=> ?_;subst VA;obtain⟨its,k',rfl,hi,BI⟩:=zq8;have hlen:=hi.length;simp only[aaR]at hlen;refine append_K n.F n.N (cJ n.nd hm) (fun h' F' N'=> ?_) (by have:=aD;simp;lia);have x':Ext ad aa ad (bB aa a (listOf (its.toArray.push v) (k'+1))):=cf n.nd (Ad.bk ha) hm (by simp);exact q (.pv .none) .none _ h' x.toks ad m _ h (n.upd hs ha hm (by simp) F' N' ⟨its++ [v],k'+1,by simp,by rw[acq];exact(hi.mono fun _ _=>VP.mono x'.gr).append (.cons (VP.mono x'.gr rv) .nil),by simp;lia⟩) x' rfl
theorem uL(hs:c.aj[i]? =some o)(ho:(∃kd xs,o= .vals kd xs/\xs.length=k)\/∃xs,o= .refs xs/\xs.length=k)(h:Q (.pv (.int k)) c):cN e VR [.ref i] (fun vs=>call (.builtin "len") vs) c Q:=by
 refine .x7 fun x ad m aa Z n r R E q=>cI (n.at hs r (by rcases ho with⟨kd,xs,rfl,_⟩ | ⟨xs,rfl,_⟩ <;> rfl)) fun a ob VB ha hm hO hg=> ?_;subst VB;have:∃its n',ob=listOf (List.toArray its) n'/\its.length=k/\k<=100000:=by rcases ho with⟨kd,xs,rfl,rfl⟩ | ⟨xs,rfl,rfl⟩ <;> (refine bG hO fun its k VU hi hz=> ?_;subst VU;exact⟨_,_,rfl,by simpa using hi.length.symm,hz⟩)
 refine bG this fun its n' Gw hl hz=> ?_;subst Gw;refine call_len_list (aO hg) (by simp;lia) ((show(its.toArray.size:Int)=(k:Int) by simp[hl]) ▸ q _ _ _ _ _ _ _ _ h n (Ext.refl ..) ⟨_,rfl⟩)
theorem qJ(hs:c.aj[i]? =some (.vals kd xs))(h:Q (!xs.isEmpty) c):cP e cD (.ref i) truthy c Q:=by
 refine .r fun x ad m aa a n ha R E q=>n.lL hs ha fun its k' hm hi hz ho=> ?_;have hlen:=hi.length;simp only[aaR]at hlen;refine wpAny_truthy_list (aO ho) (by simp;lia) ?_;have:(!its.toArray.isEmpty)= !xs.isEmpty:=by cases xs <;> cases its <;> simp_all
 exact this ▸ q _ _ _ _ _ _ _ _ h n (Ext.refl ..) rfl
theorem jz{names:List Str}(eC:names.Nodup):∀ {us:List V} {vs:List Value} {ad:Ad} {aa:Led},aM (VR ad aa) us vs->∀ {y:Str} {v:V},look (names.zip us) y=some v->∃v',(names.zip vs).reverse.lookup y=some v'/\VR ad aa v v':=by
 induction names with
 | nil=>intro us vs ad aa h y v e;exact aZ e
 | cons x r ih=>
  intro us vs ad aa h y v e;simp only[acD]at eC;cases h with
  | nil=>exact aZ e
  | cons Cq ht=>
   rename_i a b l rr;simp only[adR,eQ]at e;simp only[adR,List.reverse_cons];cases q:Fast.sEq x y with
   | true=>
    rw[q]at e;obtain rfl:=aah.inj e;have VV:=Fast.sEq_iff.mp q;subst VV;refine⟨b,?_,Cq⟩;simp only[List.lookup_append];have:(r.zip rr).reverse.lookup x=none:=by rw[List.lookup_eq_none_iff];rintro⟨z,w⟩ hp;simp only[bne_iff_ne,ne_eq];intro hz;exact eC.1 (by simp only[hz];exact(adO (List.mem_reverse.mp hp)).1)
    refine this ▸ ?_;simp[List.lookup]
   | false=>replace e:=q ▸ e;refine ah (ih eC.2 ht e) fun v' e' rv=>⟨v',by simp only[List.lookup_append,e'];rfl,rv⟩
def Uh(e:Fm)(x:Shared)(ad:Ad)(aa:Led)(I:Nat->St->Prop)(n:Nat)(s:Shared):Prop:=
 ∃c aF m' ag h' tk,I n c/\s={x with heap:=h',toks:=tk}/\aU e aF m' ag c h'/\Ext ad aa aF ag
theorem Cr(I:Nat->St->Prop) (turn:∀n c,I n c->Wp e cD (isTrue test e.env (eval test e.env)) c fun b c1=> (b=true->Wp e bN (execs body e.env) c1 (jx (fun c2=>∃m,m<n/\I m c2) Q))/\ (b=false->Wp e bN (execs orelse e.env) c1 Q))(n:Nat)(h:I n c):Wp e bN (exec (.While test body orelse pos) e.env) c Q:=by
 intro x ad m aa nw R E p;refine wpAny_While (codeAny_whileLoop (Uh e x ad aa I) ?_ n (Ge c ad m aa x.heap x.toks ⟨h,rfl,nw,Ext.refl ..⟩));intro n s hJ;refine Gd hJ fun c1 bx m1 av h1 dF hI es n1 x1=> ?_;subst es;refine turn n c1 hI _ bx m1 av n1 _ _ fun b b' c2 h2 gI bp m2 ay q2 n2 x2 r2=> ?_;subst r2;cases b with
 | true=>
  refine q2.1 rfl _ bp m2 ay n2 _ _ fun f f' c3 h3 jr iq m3 cn q3 n3 x3 r3=> ?_;have xx:=(x1.trans x2).trans x3;have nx:(∃j,j<n/\I j c3)->∃j,j<n/\Uh e x ad aa I j {x with heap:=h3,toks:=jr}:=fun q=>ah q fun k hk Li=>⟨k,hk,Ge c3 iq m3 cn h3 jr ⟨Li,rfl,n3,xx⟩⟩;cases f with
  | next=>cases r3;exact nx q3
  | cont=>cases r3;exact nx q3
  | brk=>cases r3;exact p .next .next _ _ _ _ _ _ q3 n3 xx rfl
  | ret v=>refine ah r3 fun v' VW rv=> ?_;exact VW ▸ p (.ret v) (.ret v') _ _ _ _ _ _ q3 n3 xx ⟨v',rfl,rv⟩
 | false=>refine q2.2 rfl _ bp m2 ay n2 _ _ fun f f' c3 h3 jr iq m3 cn q3 n3 x3 r3=>p f f' _ _ _ _ _ _ q3 n3 ((x1.trans x2).trans x3) r3
theorem jA(l:List Value)(v:Value):kl_last (l++ [v])=some (l,v):=by
 cases h:kl_last (l++ [v])with
 | none=>have:=kl_last_none h;simp at this
 | some p=>obtain⟨rfl,h2⟩:=List.append_inj' (kl_last_spec h) rfl;simp at h2;exact h2 ▸ rfl
theorem E3(hs:c.aj[i]? =some (.vals kd (xs++ [p])))(h:Q (.pv (kd.inj p)) {c with aj:=c.aj.set i (.vals kd xs)}):cN e VR [.ref i] (fun vs=>call (.builtin "list.pop") vs) c Q:=by
 refine .x7 (.r fun x ad m aa a n ha R E q=>n.lL hs ha fun its k' hm hi hz ho=> ?_);have hlen:=hi.length;refine eP (⟨its.dropLast,its.getLast (by intro z;refine cps fun Z zk=> ?_;subst z;refine zk ?_;clear zk;simp at hlen),(List.dropLast_concat_getLast _).symm⟩:∃gd v,its=gd++ [v]) fun gd v VX=> ?_;subst VX;have jB:gd.length=xs.length:=by simp at hlen;exact hlen.symm
 have BJ:aM (VP aa) (xs.map kd.inj) gd:=by have:=hi.take xs.length;simpa[<-jB]using this
 have rv:VP aa (kd.inj p) v:=by refine ah (hi.get (i:=xs.length) (a:=kd.inj p) (by simp)) fun v' e1 r1=> ?_;rw[<-jB]at e1;simp at e1;exact e1 ▸ r1
 refine kl_pop n.F n.N (jA gd v) (cJ n.nd hm) (by have:=aD;simp at hz ⊢;lia) (fun h' F' N'=> ?_);have x':Ext ad aa ad (bB aa a (listOf gd.toArray (k'+1))):=cf n.nd (Ad.bk ha) hm (by simp);exact q (.pv (kd.inj p)) v _ h' x.toks ad m _ h (n.upd hs ha hm (by simp) F' N' ⟨gd,k'+1,rfl,BJ.mono fun Z Z=>VP.mono x'.gr,by simp at hz;exact bY 0x186a05f01869f5f0918 hz⟩) x' (VP.mono x'.gr rv)
end
noncomputable def lexLt:List Int->List Int->Bool
 | [],[]=>false
 | [],_::_=>true
 | _::_,[]=>false
 | a::r,b::r'=>if a=b then lexLt r r' else decide (a<b)
section
variable{prog:Program}{w:World}{A:Around}{E:Value->Shared->Prop}{x:Shared}
theorem wa:∀ {us vs:List Int},List.zip us vs= []->lexLt us vs=decide (us.length<vs.length)
 | [],[],_=>rfl
 | [],_::_,_=>(decide_eq_true (acy _)).symm
 | _::_,[],_=>(decide_eq_false (Nat.not_lt_zero _)).symm
 | _::_,_::_,h=>by exact yu h
theorem nu{us vs:List Int}(ha:x.heap.get? a=some (gw ia))(hb:x.heap.get? b=some (gw ib))(JV:IntsAre ia us)(JW:IntsAre ib vs) (h:P (.done (.ret (.bool (lexLt us vs)))) x):wpAny (model prog w) A (Builtin.«tuple.__lt__» ⟨[.ref a,.ref b],[]⟩) P E x:=by
 show wpAny _ _ (isInstance (.ref b) (.type "tuple") >>= _) _ _ x;refine wpAny_bind (wpAny_isInstance ⟨_,hb,rfl⟩ isSubtype_tuple_tuple (wpAny_bind (wpAny_tupleItemsOf ha rfl ?_)));refine wpAny_bind (wpAny_tupleItemsOf hb rfl (wpAny_bind ?_));refine wpAny_forIn_list _
  (fun rest r s'=>r.1=none/\s'=x/\∃nT dc Lj JX,rest=List.zip Lj JX/\IntsAre Lj nT/\IntsAre JX dc/\lexLt nT dc=lexLt us vs/\(decide (Lj.length<JX.length))=decide (ia.length<ib.length))
  _ ?_ ?_ _ _ ⟨rfl,rfl,us,vs,ia,ib,by simp,JV,JW,rfl,rfl⟩
 ·rintro⟨u,v⟩ rest r s' ⟨hr,rfl,nT,dc,Lj,JX,hz,aL,Ui,Ct,hlen⟩;cases aL with
  | nil=>exact yu hz
  | cons n1 t1 Lk=>
   cases Ui with
   | nil=>exact yu hz
   | cons n2 t2 Ll=>
    simp only[adR,List.cons.injEq,Prod.mk.injEq]at hz;obtain⟨⟨rfl,rfl⟩,rfl⟩:=hz;refine wpAny_bind (wpAny_eqBool_int ?_);by_cases hk:n1=n2
    ·subst hk;simp only[beq_self_eq_true,Bool.not_true,adS,if_false];refine wpAny_pure ⟨rfl,rfl,_,_,_,_,rfl,Lk,Ll,?_,by simpa using hlen⟩;exact Ct ▸ (if_pos rfl).symm
    ·rw[beq_false_of_ne hk];have hf:lexLt us vs=decide (n1<n2):=Ct ▸ if_neg hk;rw[hf]at h;refine wpAny_bind (wpAny_rule (wpAny_bind ?_));exact PyProof.Rows.lt_int (wpAny_pure (wpAny_pure h))
 ·rintro⟨r1,r2⟩ s' ⟨hr,rfl,nT,dc,Lj,JX,hz,aL,Ui,Ct,hlen⟩;simp only at hr;subst hr;refine wpAny_pure ?_;have e:lexLt us vs=decide (ia.toArray.size<ib.toArray.size):=by
   refine Ct ▸ ?_;have BK:List.zip nT dc= []:=by
    cases aL with
    | nil=>simp
    | cons n1 t1 Lk=>cases Ui with
     | nil=>simp
     | cons n2 t2 Ll=>exact Gg hz
   simp only[wa BK,<-aL.length,<-Ui.length,hlen];simp
  rw[e]at h;exact h
end
section
variable{e:Fm}{c:St}
theorem Lm(hx:Cx e){us vs:List Int}(h:Q (.pv (.bool (lexLt us vs))) c):bM e VR (.pv (.tup us)) (.pv (.tup vs)) (compareOp .Lt) c Q:=by rintro x ad m aa _ _ n ⟨a,ia,rfl,JY,JV⟩ ⟨b,ib,rfl,ya,JW⟩ R E p;show wpAny _ _ (richCompare .Lt _ _) _ _ _;refine wpAny_richCompare_same_room ⟨_,((n.N _ JY).1),rfl⟩ ⟨_,((n.N _ ya).1),rfl⟩ PySem.F.slot_tuple_lt (wpAny_call_entry PySem.F.slot_tuple_lt ⟨_,((n.N _ JY).1),rfl⟩ PySem.F.entry_tuple_lt ?_ (PySem.F.args_tuple_lt_2 _ _)) (by have:=hx.Cn;exact bj 757094035331352 this);exact nu ((n.N _ JY).1) ((n.N _ ya).1) JV JW ⟨_,rfl,by simp,p _ _ _ _ _ _ _ _ h n (Ext.refl ..) rfl⟩
theorem Cu(mX:isSlice sl=false)(h0:0<=k)(hz:ns.length<=100000)(hx:ns[k.toNat]? =some i)(h:Q (.pv (.int i)) c):bM e VR (.pv (.tup ns)) (.pv (.int k)) (subscriptTail y sl) c Q:=by rintro x ad m aa _ _ n ⟨a,its,rfl,JY,JV⟩ ⟨t,rfl⟩ R E q;refine aA (JV.get _ _ hx) fun t' e'=> ?_;have bT:k.toNat<ns.length:=(aab.mp hx).1;have hl:=JV.length;refine item_tupleT ⟨_,((n.N _ JY).1),rfl,_,rfl⟩ (by lia) (by lia) ?_ e' (q _ _ _ _ _ _ _ _ h n (Ext.refl ..) ⟨_,rfl⟩) (bz mX _ _);simp[seqIndex?,(adx h0),h0,(show k<its.length from lx [_,_,_] [_] 0x28b092191b099080130 (jv (abC h0)) bT (bl hl))]
end
noncomputable abbrev SS(l:List Nat):Str:=⟨l.toArray⟩
theorem eR(l:List Nat):(SS l).length=l.length:=by simp[Str.length]
theorem GL(l r:List Nat):SS l++SS r=SS (l++r):=by show Str.append _ _=_;simp[Str.append]
section
variable{e:Fm}{c:St}
theorem Ln(hm:Builtin.Int.intBits a<=64)(h:Q (.pv (.int (a*b))) c):bM e VR (.pv (.int a)) (.pv (.int b)) (binaryOp .Mult) c Q:=by refine .ii fun x ad m aa t u n R E p=>PyProof.Rows.mul_int (p _ _ _ _ _ _ _ _ h n (Ext.refl ..) ⟨_,rfl⟩) (IntMulOk.of_left hm)
theorem Lo(h:Q (.pv (.int (-a))) c):cP e VR (.pv (.int a)) (unaryOp .USub) c Q:=by refine .i fun x ad m aa t n R E p=>P.neg_int (p _ _ _ _ _ _ _ _ h n (Ext.refl ..) ⟨_,rfl⟩)
theorem yK(h:Q (.pv (.int (a+b))) c):bM e VR (.pv (.int a)) (.pv (.int b)) (inplaceOp .Add) c Q:=by refine .ii fun x ad m aa t u n R E p=>P.iadd_int (p _ _ _ _ _ _ _ _ h n (Ext.refl ..) ⟨_,rfl⟩)
theorem yL(h:Q (.pv (.int (a-b))) c):bM e VR (.pv (.int a)) (.pv (.int b)) (inplaceOp .Sub) c Q:=by refine .ii fun x ad m aa t u n R E p=>P.isub_int (p _ _ _ _ _ _ _ _ h n (Ext.refl ..) ⟨_,rfl⟩)
theorem qL{ad:Ad}(n:aU e ad m aa c x.heap)(p:gx e x ad aa VR Q R)(hz:a.length+b.length<=100000)(h:Q (.pv (.str (a++b))) c):(if(SS a).length==0 then Made.val (.str (SS b) u)else if(SS b).length==0 then Made.val (.str (SS a) t)else Made.str (SS a++SS b)).post R x:=by
 rw[eR,eR,GL];split
 ·rename_i h0;have:a= []:=by simpa using h0
  obtain rfl:=this.symm;exact p _ _ _ _ _ _ _ _ h n (Ext.refl ..) ⟨_,rfl⟩
 ·split
  ·rename_i h0;have:b= []:=by simpa using h0
   subst this;rw[ab5]at h;exact p _ _ _ _ _ _ _ _ h n (Ext.refl ..) ⟨_,rfl⟩
  ·exact⟨by rw[eR];simp;have:=aD;lia,p _ _ _ _ _ _ _ _ h n (Ext.refl ..) ⟨_,rfl⟩⟩
theorem jX(hz:a.length+b.length<=100000)(h:Q (.pv (.str (a++b))) c):bM e VR (.pv (.str a)) (.pv (.str b)) (binaryOp .Add) c Q:=by refine .ss fun x ad m aa t u n R E p=>P.add_str (qL n p hz h)
theorem Cv(hz:a.length+b.length<=100000)(h:Q (.pv (.str (a++b))) c):bM e VR (.pv (.str a)) (.pv (.str b)) (inplaceOp .Add) c Q:=by refine .ss fun x ad m aa t u n R E p=>P.iadd_str (qL n p hz h)
theorem Lp(h:Q (.pv (.bool (a==b))) c):bM e VR (.pv (.str a)) (.pv (.str b)) (compareOp .Eq) c Q:=by refine .ss fun x ad m aa t u n R E p=>P.eq_str (p _ _ _ _ _ _ _ _ h n (Ext.refl ..) (by show Value.bool _=Value.bool _;simp))
theorem Lq(h:Q (.pv (.bool (a != b))) c):bM e VR (.pv (.str a)) (.pv (.str b)) (compareOp .NotEq) c Q:=by refine .ss fun x ad m aa t u n R E p=>P.ne_str (p _ _ _ _ _ _ _ _ h n (Ext.refl ..) (by show Value.bool _=Value.bool _;simp))
noncomputable def iM:V->Bool
 | .pv .none=>false
 | .glob .none=>false
 | .any=>false
 | _=>true
theorem lN{ad:Ad}(h:iM u=true)(r:VR ad aa u v):v≠ .none:=by
 cases u with
 | pv p=>cases p with
  | none=>exact absurd h ack
  | bool b=>rw[show v= .bool b from r];simp
  | int i=>obtain⟨t,rfl⟩:=r;simp
  | str i=>obtain⟨t,rfl⟩:=r;simp
  | tup i=>refine dy r fun a its GC Z=> ?_;subst GC;simp
 | ref i=>refine ah r fun a Z GD=> ?_;subst GD;simp
 | glob g=>rw[show v=g from r];rintro rfl;exact absurd h ack
 | any=>exact absurd h ack
theorem yM(hn:iM u=true)(h:Q (.pv (.bool false)) c):bM e VR u (.pv .none) (compareOp .Is) c Q:=by rintro x ad m aa v _ n r rfl R E p;exact is_none_ne (lN hn r) (p _ _ _ _ _ _ _ _ h n (Ext.refl ..) rfl)
theorem yN(h:Q (.pv (.bool true)) c):bM e VR (.pv .none) (.pv .none) (compareOp .Is) c Q:=by rintro x ad m aa _ _ n rfl rfl R E p;exact is_none_none (p _ _ _ _ _ _ _ _ h n (Ext.refl ..) rfl)
theorem yO(hn:iM u=true)(h:Q (.pv (.bool true)) c):bM e VR u (.pv .none) (compareOp .IsNot) c Q:=by rintro x ad m aa v _ n r rfl R E p;exact isnot_none_ne (lN hn r) (p _ _ _ _ _ _ _ _ h n (Ext.refl ..) rfl)
theorem wb(h:Q (.pv (.bool false)) c):bM e VR (.pv .none) (.pv .none) (compareOp .IsNot) c Q:=by rintro x ad m aa _ _ n rfl rfl R E p;exact isnot_none_none (p _ _ _ _ _ _ _ _ h n (Ext.refl ..) rfl)
theorem yP(hz:a.length<=100000)(h:Q (!a.isEmpty) c):cP e cD (.pv (.str a)) truthy c Q:=by refine .s fun x ad m aa t n R E p=>P.truthy_str (by rw[eR];lia) (p _ _ _ _ _ _ _ _ h n (Ext.refl ..) ?_);rw[eR];cases a <;> simp[cD];lia
theorem yQ(h:Q (a != 0) c):cP e cD (.pv (.int a)) truthy c Q:=by refine .i fun x ad m aa t n R E p=>P.truthy_int (p _ _ _ _ _ _ _ _ h n (Ext.refl ..) rfl)
theorem yR(h:Q false c):cP e cD (.pv .none) truthy c Q:=by rintro x ad m aa _ n rfl R E p;exact truthy_none (p _ _ _ _ _ _ _ _ h n (Ext.refl ..) rfl)
end
theorem uM(x y:Str):Fast.sEq x y=(x==y):=by
 cases h:Fast.sEq x y with
 | true=>refine(Fast.sEq_iff.mp h) ▸ ?_;simp
 | false=>exact(cW h).symm
section
variable{w:World}{ad:Ad}{aa:Led}
theorem jY{es:List (Str×V)}{fK:List DictEntry}(hh:aM (ER w ad aa) es fK)(x:Str):match look es x with
  | some v=>∃d v',fK.find? (·.key.isStr x)=some d/\d.val=v'/\VR ad aa v v'
  | none=>fK.find? (·.key.isStr x)=none:=by
 induction hh with
 | nil=>exact rfl
 | @cons a b _ _ h t ih=>
  refine bL h fun h1 GF h3=>aA GF fun tk h2=> ?_;have hk:b.key.isStr x=Fast.sEq a.1 x:=by rw[h2,uM];rfl
  rw[eQ,adP,hk];cases q:Fast.sEq a.1 x with
  | true=>exact k5 b _ ⟨rfl,rfl,h3⟩
  | false=>exact ih
theorem noRef:∀ {es:List (Str×V)} {fK:List DictEntry},aM (ER w ad aa) es fK->fK.any (·.refKey)=false
 | _,_,.nil=>rfl
 | _,_,.cons h t=>by obtain⟨tk,h2⟩:=h.2.1;simp only[List.any_cons,noRef t,aeE];unfold DictEntry.refKey;exact h2 ▸ rfl
theorem nU(h:aM (ER w ad aa) es fK)(hl:look es x=some v):∃v',getL x fK=some (some v')/\VR ad aa v v':=by have:=jY h x;rw[hl]at this;refine bG this fun d v' h1 h2 h3=>⟨v',by unfold getL;refine h1 ▸ ?_;simp only[h2],h3⟩
theorem gz(h:aM (ER w ad aa) es fK)(hl:look es x=none):getL x fK=some none:=by have:=jY h x;rw[hl]at this;unfold getL;refine this ▸ (noRef h) ▸ ?_;rfl
theorem qM(r:VR ad aa v v'):∀ {es:List (Str×V)} {fK:List DictEntry},aM (ER w ad aa) es fK->aM (ER w ad aa) (put es x v) (putL x (PyData.keyHash w.params x) (.str x tk) v' fK)
 | _,_,.nil=>.cons ⟨rfl,⟨tk,rfl⟩,r⟩ .nil
 | _,_,.cons (a:=a) (b:=b) h t=>by
  obtain⟨Co,h2⟩:=h.2.1;have hk:b.key.isStr x=Fast.sEq a.1 x:=by rw[h2,uM];rfl
  show aM _ (cond _ _ _) (ite (b.key.isStr x=true) _ _);rw[hk];cases q:Fast.sEq a.1 x with
  | true=>exact .cons ⟨h.1,⟨Co,h2⟩,r⟩ t
  | false=>exact .cons ⟨h.1,⟨Co,h2⟩,h.2.2⟩ (qM r t)
theorem Cw{α:Type}:∀(l:List (Str×α)) (x:Str) (v:α),(put l x v).length<=l.length+1:=by
 intro l;induction l with
 | nil=>intro _ _;exact abE _
 | cons p r ih=>
  intro x v;show ade (cond (Fast.sEq p.1 x) _ _)<=_;cases Fast.sEq p.1 x with
  | true=>exact Nat.le_succ _
  | false=>exact adJ (ih x v)
end
noncomputable def lb:V->Bool
 | .glob g=>handedIn g
 | .any=>false
 | _=>true
theorem nV{ad:Ad}(h:lb u=true)(r:VR ad aa u v):handedIn v=true:=by
 cases u with
 | pv p=>cases p with
  | none=>refine(show v= .none from r) ▸ ?_;rfl
  | bool b=>rw[show v= .bool b from r];rfl
  | int i=>obtain⟨t,rfl⟩:=r;rfl
  | str i=>obtain⟨t,rfl⟩:=r;rfl
  | tup i=>refine dy r fun a its VY Z=> ?_;exact VY ▸ rfl
 | ref i=>refine ah r fun a Z VZ=> ?_;subst VZ;rfl
 | glob g=>rw[show v=g from r];exact h
 | any=>exact gu h
section
variable{e:Fm}{c:St}
theorem cL.inst {ad:Ad}(n:aU e ad m aa c h)(hs:c.aj[i]? =some (.inst C d))(hd:c.aj[d]? =some (.dict es))(r:RR ad i v):∃a dx fK k,v= .ref a/\ad.m[i]? =some a/\ad.m[d]? =some dx/\(a,instObj C dx)∈aa/\(dx,dictOf fK k)∈aa/\aM (ER e.w ad aa) es fK/\es.length<=900/\InstAt h a (instObj C dx) C (some (dictOf fK k)):=by refine cI (n.at hs r) fun a ob V0 ha hm V1 ho=> ?_;subst V0;obtain⟨dx,qN,rfl⟩:=V1;refine cI (n.at hd ⟨dx,qN,rfl⟩) fun dx' ob' e1 BL fQ V2 Lr=> ?_;obtain⟨fK,k,rfl,hE,hz⟩:=V2;cases e1;exact in4 a dx fK k ⟨rfl,ha,qN,hm,fQ,hE,hz,InstAt.of_news n.N hm fQ⟩
def uN(P:Params)(C:Addr)(name:Str):Bool:=plainGet (KK P) C name&&hasDictIn (KK P) C&&(findIn (KK P) (.ref C) name).any (noGet (KK P))
theorem nW(hx:Cx e)(hs:c.aj[i]? =some (.inst C d))(hd:c.aj[d]? =some (.dict es))(hk:uN e.w.params C name=true)(hl:look es name=some v)(hv:lb v=true) (h:Q v c):cP e VR (.ref i) (fun o=>getAttr o name ex) c Q:=by
 rintro x ad m aa u n r R E p;refine yr (n.inst hs hd r) fun a dx fK k V3 ha qN hm fQ hE hz I=> ?_;subst V3;unfold uN at hk;simp only[abD]at hk;refine ah (nU hE hl) fun v' g1 g2=> ?_;obtain⟨⟨k1,k2⟩,k3⟩:=hk;cases q:findIn (KK e.w.params) (.ref C) name with
 | none=>replace k3:=q ▸ k3;exact gu k3
 | some attr=>rw[q]at k3;exact get_own n.F hx.X I k1 k2 q k3 g1 (nV hv g2) (p _ _ _ _ _ _ _ _ h n (Ext.refl ..) g2)
def setOk(P:Params)(C:Addr)(name:Str):Bool:=(findIn (KK P) (.ref C) "__setattr__" ==some (some (.builtin "object.__setattr__")))&&plainOver (KK P) C&&hasDictIn (KK P) C&&(takerIn (KK P) C name==some none)
theorem fj(hx:Cx e)(hs:c.aj[i]? =some (.inst C d))(hd:c.aj[d]? =some (.dict es))(hk:setOk e.w.params C name=true)(hz:es.length<900) (h:Q () {c with aj:=c.aj.set d (.dict (put es name v))}):bM e cD (.ref i) v (fun o u=>setAttr o name u) c Q:=by
 rintro x ad m aa o u n r rv R E p;refine yr (n.inst hs hd r) fun a dx fK k V4 ha qN hm fQ hE BI I=> ?_;obtain rfl:=V4.symm;simp only[setOk,abD,beq_iff_eq]at hk;have Ls:(getL name fK).isSome=true:=by
  cases q:look es name with
  | none=>refine(gz hE q) ▸ ?_;rfl
  | some v=>refine ah (nU hE q) fun v' g1 Z=> ?_;refine g1 ▸ ?_;rfl
 have x':Ext ad aa ad (bB aa dx (dictOf (putL name (PyData.keyHash e.w.params name) (.str name (x.toks+1)) u fK) (putN name fK k))):=cf n.nd (Ad.bk qN) fQ (by simp);have hE':=qM (x:=name) (tk:=x.toks+1) (rv.mono x') (hE.mono fun Z Z h=>⟨h.1,h.2.1,VR.mono x' h.2.2⟩);have BK:(put es name v).length<=900:=ab3 (Cw es name v) hz;exact set_dict n.F hx.X n.N I rfl hk.1.1.1 hk.1.1.2 hk.2 hk.1.2 Ls rfl (cJ n.nd fQ) (by exact hE'.length ▸ bY 0x3e83f03843f0918 BK) fun h' F' N'=>p () () _ h' _ ad m _ h (n.upd hd qN fQ (by simp) F' N' ⟨_,_,rfl,hE',BK⟩) x' rfl
noncomputable def yS(b:Bool)(o:Option (Option Value))(g:Addr->Bool)(r:Addr->Option Nat):Option Nat:=cond b (match o with
 | some (some (.ref f))=>cond (g f) (r f) none
 | _=>none) none
theorem fk(h:yS b o g r=some x):∃f,b=true/\o=some (some (.ref f))/\g f=true/\r f=some x:=by
 cases b with
 | false=>exact aZ h
 | true=>cases o with
  | none=>exact aZ h
  | some o=>cases o with
   | none=>exact aZ h
   | some o=>cases o with
    | ref f=>
     refine⟨f,rfl,rfl,?_⟩;replace h:cond (g f) (r f) none=some x:=h;cases q:g f with
     | true=>exact⟨rfl,(q ▸ h:)⟩
     | false=>exact aZ (q ▸ h:)
    | _=>exact aZ h
def lO(P:Params)(C:Addr)(name:Str):Option Addr:=yS (plainGet (KK P) C name) (findIn (KK P) (.ref C) name) (fun f=>isFn (KK P) (.ref f)) some
theorem qO(hx:Cx e)(hs:c.aj[i]? =some (.inst C d))(hd:c.aj[d]? =some (.dict es))(hk:lO e.w.params C name=some f)(hl:look es name=none) (h:Q (.ref f,[.ref i]) c):cP e MR (.ref i) (fun v=>getMethod v name pl) c Q:=by rintro x ad m aa u n r R E p;refine yr (n.inst hs hd r) fun a dx fK k V5 ha qN hm fQ hE hz I=> ?_;subst V5;refine nf (fk hk) fun f' k1 k2 k3 k4=> ?_;exact method_inst n.F hx.X I k1 k2 k3 (gz hE hl) (p _ _ _ _ _ _ _ _ h n (Ext.refl ..) ⟨aah.inj k4 ▸ rfl,.cons r .nil⟩)
theorem uO(mX:isSlice sl=false)(hs:c.aj[i]? =some (.dict es))(hl:look es (SS k)=some v)(h:Q v c):bM e VR (.ref i) (.pv (.str k)) (subscriptTail y sl) c Q:=by
 refine .rs fun x ad m aa a t n ha R E q=>bD (n.nq hs ha) fun ob hm V6 ho=> ?_;obtain⟨fK,k',rfl,hi,hz⟩:=V6;have hf:=jY hi (SS k);simp only[hl]at hf;obtain⟨d,v',h1,h2,h3⟩:=hf;have hm:x.heap.MapOf (PySem.strKind pw e.w) a (fun k=>findBy Value.isStrOf fK.toArray k):=by
  refine sG _ _ _ ⟨ho,⟨rfl,rfl,rfl⟩,rfl,fun d eO=> ?_,fun Z=>rfl⟩;have hd:d∈fK:=by simpa using eO
  clear h1 h2 hl hz ho hm hs eO;induction hi with
  | nil=>exact bg hd
  | cons h _ ih=>
   rcases abi.mp hd with q | q
   ·subst q;obtain⟨tk,g2⟩:=h.2.1;refine⟨_,?_,h.1⟩;simp only[g2];simp[PySem.strKind,Value.isStrOf]
   ·exact ih q
 refine tail_any hm.typeIs slot_dict_getitem.lookup (wpAny_getItem_of (k:=SS k) (by simp[PySem.strKind,Value.isStrOf]) hm ?_ (q _ _ _ _ _ _ _ _ h n (Ext.refl ..) h3)) (bz mX _ _);have:(fun d:DictEntry=>Value.isStrOf (SS k) d.key)=fun d=>d.key.isStr (SS k):=by funext d;cases d.key <;> rfl
 show(fK.toArray.find? fun d=>Value.isStrOf (SS k) d.key).map (·.val)=some v';simp only[this,List.find?_toArray,h1,acY,h2]
end
noncomputable def iy:List V->Option (List Int)
 | []=>some []
 | .pv (.int i)::r=>(iy r).map (i:: ·)
 | _::_=>none
noncomputable def lP:List V->Option (List Nat)
 | []=>some []
 | .ref i::r=>(lP r).map (i:: ·)
 | _::_=>none
noncomputable def uP:List V->Option (List PV)
 | []=>some []
 | .pv p::r=>(uP r).map (p:: ·)
 | _::_=>none
noncomputable def lQ(vs:List V):Option AO:=match iy vs with
 | some ns=>some (.vals .int ns)
 | none=>match lP vs with
  | some is=>some (.refs is)
  | none=>(uP vs).map (AO.vals .pv)
section
variable{ad:Ad}{aa:Led}
theorem nX{vs:List Value}(h:iy us=some ns)(r:aM (VR ad aa) us vs):aM (VP aa) (ns.map PV.int) vs/\IntsAre vs ns:=by
 induction r generalizing ns with
 | nil=>exact aah.inj h ▸ ⟨.nil,.nil⟩
 | @cons u _ us _ r1 r2 ih=>
  cases u with
  | pv p=>
   cases p with
   | int i=>obtain⟨ns',h1,rfl⟩:=abh.mp (show(iy us).map (i:: ·)=some ns from h);obtain⟨t,rfl⟩:=r1;exact⟨.cons ⟨t,rfl⟩ (ih h1).1,.cons i t (ih h1).2⟩
   | _=>exact aZ h
  | _=>exact aZ h
theorem wc{vs:List Value}(h:lP us=some is)(r:aM (VR ad aa) us vs):aM (RR ad) is vs:=by
 induction r generalizing is with
 | nil=>exact aah.inj h ▸ .nil
 | @cons u _ us _ r1 r2 ih=>
  cases u with
  | ref i=>obtain⟨ns',h1,rfl⟩:=abh.mp (show(lP us).map (i:: ·)=some is from h);exact .cons r1 (ih h1)
  | _=>exact aZ h
theorem yT{vs:List Value}(h:uP us=some ps)(r:aM (VR ad aa) us vs):aM (VP aa) ps vs:=by
 induction r generalizing ps with
 | nil=>exact aah.inj h ▸ .nil
 | @cons u _ us _ r1 r2 ih=>
  cases u with
  | pv i=>obtain⟨ns',h1,rfl⟩:=abh.mp (show(uP us).map (i:: ·)=some ps from h);exact .cons r1 (ih h1)
  | _=>exact aZ h
theorem we{vs:List Value}(h:lQ us=some o)(r:aM (VR ad aa) us vs)(hz:us.length<=100000):OR w ad aa o (listOf vs.toArray k):=by
 have hl:=r.length;delta lQ at h;cases q:iy us with
 | some xs=>rw[q]at h;obtain rfl:=aah.inj h;have:=(nX q r).1;exact⟨vs,k,rfl,this,by have:=this.length;simp at this;exact bj 0x186a05f0186a05f2921910938 (bh this) (bl hl) hz⟩
 | none=>
  rw[q]at h;cases q:lP us with
  | some xs=>rw[q]at h;obtain rfl:=aah.inj h;have:=wc q r;exact⟨vs,k,rfl,this,by have:=this.length;exact bj 0x186a05f0186a05f2921910938 (bh this) (bl hl) hz⟩
  | none=>rw[q]at h;obtain⟨ps,q,rfl⟩:=abh.mp h;have:=yT q r;exact⟨vs,k,rfl,by rw[show ps.map (Kd.inj .pv)=ps from aeA _];exact this,by have:=this.length;exact bj 0x186a05f0186a05f2921910938 (bh this) (bl hl) hz⟩
end
section
variable{e:Fm}{c:St}
theorem Fr.en (F:Fr h₀ L h m)(N:News h₀ L h aa)(o:Obj)(hf:o.isFreed=false:=by rfl):Fr h₀ L (h.push o) m/\News h₀ L (h.push o) ((h.objs.size,o)::aa)/\∀p∈aa,p.1<h.objs.size:=
 ⟨F.push _,N.push F _ hf,fun p hp=>Heap.lt_size (N p hp).1⟩
theorem yU (h:Wp e qj (spliced (backTo pos (starEach elts e.env))) c fun vs c1=>∃o,lQ vs=some o/\vs.length<=100000/\Q (.ref c1.aj.length) {c1 with aj:=c1.aj++ [o]}):Wp e VR (eval (.List elts pos) e.env) c Q:=
 fun x ad m aa n R E p=>wpAny_List (h x ad m aa n _ E fun vs dc c1 h1 dF bx m1 av q1 n1 x1 r1=>by
  refine bD q1 fun o g1 g2 g3=>bL (Fr.en n1.F n1.N ({cls:=.type "list",data:=.seq dc.toArray})) fun F' N' hl=> ?_;refine⟨by have:=r1.length;have:=aD;lia,?_⟩;have x2:Ext bx av (bx.snoc h1.objs.size) ((h1.objs.size,listOf dc.toArray 0)::av):=⟨⟨[h1.objs.size],rfl,fun b ob' h hb=>by replace h:=(abH.mp hb) ▸ h;exact absurd (hl _ h) (acI _)⟩,fun a its h=>.tail _ h,fun b ob' h=>⟨ob',.tail _ h⟩,fun b ob' h hb=>⟨.tail _ h,fun q=>by
   rcases Ad.il.mp q with q | q
   ·exact hb q
   ·subst q;exact absurd (hl _ h) (acI _)⟩⟩
  exact p _ _ _ _ _ _ _ _ g3 (n1.new hl F' N' (we g1 (qj.mono x2 r1) g2)).1 (x1.trans x2) ⟨h1.objs.size,by show(bx.m++ [h1.objs.size])[_]? =_;refine n1.len ▸ ?_;simp,rfl⟩)
theorem Cy (h:Wp e qj (spliced (backTo pos (starEach elts e.env))) c fun vs c1=>∃ns,iy vs=some ns/\vs.length<=100000/\Q (.pv (.tup ns)) c1):Wp e VR (eval (.Tuple elts k pos) e.env) c Q:=
 fun x ad m aa n R E p=>wpAny_Tuple (h x ad m aa n _ E fun vs dc c1 h1 dF bx m1 av q1 n1 x1 r1=>by refine bD q1 fun ns g1 g2 g3=>bL (Fr.en n1.F n1.N ({cls:=.type "tuple",data:=.seq dc.toArray})) fun F' N' hl=> ?_;refine⟨by have:=r1.length;have:=aD;lia,aI (n1.more hl F' N') fun n2 x2=> ?_⟩;exact p _ _ _ _ _ _ _ _ g3 n2 (x1.trans x2) ⟨h1.objs.size,dc,rfl,.head _,(nX g1 r1).2⟩)
theorem uQ(h:Wp e cD (isTrue t e.env (eval t e.env)) c fun d c1=>(d=true->Wp e VR (eval a e.env) c1 Q)/\(d=false->Wp e VR (eval b e.env) c1 Q)):Wp e VR (eval (.IfExp t a b pos) e.env) c Q:=
 fun x ad m aa n R E p=>wpAny_IfExp (h x ad m aa n _ E fun d d' c1 h1 dF bx m1 av q1 n1 x1 r1=>by
  subst r1;cases d with
  | true=>exact q1.1 rfl _ bx m1 av n1 R E (p.ext x1)
  | false=>exact q1.2 rfl _ bx m1 av n1 R E (p.ext x1))
theorem Cz(h1:cS o=true)(attr:Str)(pos:Pos)(env:Env):eval (.Attribute o attr pos) env=(do
   let v <-eval o env
   standAt pos.atName
   let r <-holding [v] (getAttr v attr true)
   letTemporaryGo o v r
   pure r):=by
 show(do
   let v <-attributeBase o attr env (eval o env)
   standAt pos.atName
   let r <-holding [v] (getAttr v attr true)
   letTemporaryGo o v r
   pure r)=_
 simp only[jd h1]
theorem b6(h1:cS o=true)(h:Wp e VR (eval o e.env) c fun u c1=>cP e VR u (fun v=>getAttr v attr true) c1 Q):Wp e VR (eval (.Attribute o attr pos) e.env) c Q:=
 fun x ad m aa n R E p=>Attribute_any_ (h x ad m aa n _ E fun u u' c1 h1 dF bx m1 av q1 n1 x1 r1=>q1 _ bx m1 av u' n1 r1 R E (p.ext x1)) (Cz h1 attr pos e.env)
theorem cq(hs:swapsWith value (some (.Attribute o attr pos')) pos.line e.env=pure false) (h:Wp e VR (eval value e.env) c fun v c1=>Wp e VR (eval o e.env) c1 fun u c2=>bM e cD u v (fun o v=>setAttr o attr v) c2 fun(_:Unit) c3=>Q .next c3):Wp e bN (exec (.Assign [.Attribute o attr pos'] value pos) e.env) c Q:=
 fun x ad m aa n R E p=>plainObj_wpAny_Assign_Attribute (h x ad m aa n _ E fun a a' c1 h1 dF bx m1 av q1 n1 x1 r1=>q1 _ bx m1 av n1 _ E fun b b' c2 h2 gI bp m2 ay q2 n2 x2 r2=>q2 _ bp m2 ay b' a' n2 r2 (VR.mono x2 r1) _ E fun u u' c3 h3 jr iq m3 cn q3 n3 x3 Z=>p .next .next _ _ _ _ _ _ q3 n3 ((x1.trans x2).trans x3) rfl) hs
theorem wg(hx:Cx e)(hl:look e.scope.names y=some .local)(hv:look c.loc y=some old) (h:Wp e VR (eval value e.env) c fun v c1=>bM e VR old v (inplaceOp op) c1 fun r c2=>Q .next {c2 with loc:=put c2.loc y r}):Wp e bN (exec (.AugAssign (.Name y pos') op value pos) e.env) c Q:=
 fun x ad m aa n R E p=>by refine ah (n.loc y old hv) fun v' e' r=> ?_;have k:=hx.sH hl;have e':m y=some v':=e'.Gx k.2.2;refine wpAny_AugAssign_Name (wpAny_loadName_local hx.hk k.1 (by exact k.2.1 ▸ n.F.ns) e' ?_);exact h x ad m aa n _ E fun a a' c1 h1 dF bx m1 av q1 n1 x1 r1=>q1 _ bx m1 av v' a' n1 (VR.mono x1 r) r1 _ E fun b b' c2 h2 gI bp m2 ay q2 n2 x2 r2=>cE hx hl q2 _ bp m2 ay b' n2 r2 _ E fun u u' c3 h3 jr iq m3 cn q3 n3 x3 Z=>p .next .next _ _ _ _ _ _ q3 n3 ((x1.trans x2).trans x3) rfl
theorem jZ (h:Wp e VR (eval o e.env) c fun u c1=>cP e VR u (fun v=>getAttr v attr true) c1 fun old c2=>Wp e VR (eval value e.env) c2 fun v c3=>bM e VR old v (inplaceOp op) c3 fun r c4=>bM e cD u r (fun o v=>setAttr o attr v) c4 fun(_:Unit) c5=>Q .next c5):Wp e bN (exec (.AugAssign (.Attribute o attr Lu) op value pos) e.env) c Q:=
 fun x ad m aa n R E p=>wpAny_AugAssign_AttributeAny (h x ad m aa n _ E fun a a' c1 h1 dF bx m1 av q1 n1 x1 r1=>q1 _ bx m1 av a' n1 r1 _ E fun b b' c2 h2 gI bp m2 ay q2 n2 x2 r2=>q2 _ bp m2 ay n2 _ E fun d d' c3 h3 jr iq m3 cn q3 n3 x3 r3=>q3 _ iq m3 cn b' d' n3 (VR.mono x3 r2) r3 _ E fun g g' c4 h4 Ug E1 m4 ky q4 n4 x4 r4=>q4 _ E1 m4 ky a' g' n4 (VR.mono ((x2.trans x3).trans x4) r1) r4 _ E fun u u' c5 h5 uR nY m5 dU q5 n5 x5 Z=>p .next .next _ _ _ _ _ _ q5 n5 ((((x1.trans x2).trans x3).trans x4).trans x5) rfl)
theorem yV(hi:isSlice i=false) (h:Wp e VR (eval o e.env) c fun u c1=>Wp e VR (eval i e.env) c1 fun k c2=>bM e VR u k getItem c2 fun old c3=>Wp e VR (eval value e.env) c3 fun v c4=>bM e VR old v (inplaceOp op) c4 fun r c5=> cN e cD [u,k,r] nk c5 fun(_:Unit) c6=>Q .next c6):Wp e bN (exec (.AugAssign (.Subscript o i Lu) op value pos) e.env) c Q:=
 fun x ad m aa n R E p=>wpAny_AugAssign_SubscriptAny (h x ad m aa n _ E fun a a' c1 h1 dF bx m1 av q1 n1 x1 r1=>q1 _ bx m1 av n1 _ E fun b b' c2 h2 gI bp m2 ay q2 n2 x2 r2=>q2 _ bp m2 ay a' b' n2 (VR.mono x2 r1) r2 _ E fun d d' c3 h3 jr iq m3 cn q3 n3 x3 r3=>q3 _ iq m3 cn n3 _ E fun f f' c4 h4 Ug E1 m4 ky q4 n4 x4 r4=>q4 _ E1 m4 ky d' f' n4 (VR.mono x4 r3) r4 _ E fun g g' c5 h5 uR nY m5 dU q5 n5 x5 r5=>q5 _ nY m5 dU [a',b',g'] n5 (.cons (VR.mono (((x2.trans x3).trans x4).trans x5) r1) (.cons (VR.mono ((x3.trans x4).trans x5) r2) (.cons r5 .nil))) _ E fun u u' c6 h6 yb CB m6 jC q6 n6 x6 Z=>p .next .next _ _ _ _ _ _ q6 n6 (((((x1.trans x2).trans x3).trans x4).trans x5).trans x6) rfl) (fun ov iv new=>by cases i <;> first | rfl | exact absurd hi.symm ack)
end
section
set_option backward.match.sparseCases true
abbrev lR(e:Fm)(ad:Ad)(m:Str->Option Value)(aa:Led)(σ:List AO)(h:Heap):Prop:=aU e ad m aa ⟨[],σ⟩ h
def af(e:Fm)(us:List V)(f:Value)(σ:List AO)(Q:V->List AO->Prop):Prop:=
 ∀(x:Shared) (ad:Ad) (m:Str->Option Value) (aa:Led) (vs:List Value),lR e ad m aa σ x.heap->aM (VR ad aa) us vs->∀(R:Value->Shared->Prop) (E:Value->Shared->Prop),
  (∀v v' σ' h' tk aF ag,Q v σ'->lR e aF m ag σ' h'->Ext ad aa aF ag->VR aF ag v v'->R v' {x with heap:=h',toks:=tk})->codeAny (model pw e.w) e.A (.call f ⟨vs,[]⟩) (fun r s'=>match r with | .ok (.ret v)=>R v s' | .ok _=>False | .error ex=>E ex s') x
noncomputable def fS(sc:Scope):Bool:=sc.names.all fun x=>x.2== .local||x.2== .globalImplicit
theorem te(h:fS sc=true)(x:Str):sc.names.lookup x=none\/sc.names.lookup x=some .local\/sc.names.lookup x=some .globalImplicit:=by
 rw[cj];cases q:look sc.names x with
 | none=>exact .inl rfl
 | some k=>
  have:=aaZ.mp h _ (gy q);simp only[aeg,beq_iff_eq]at this;rcases this with rfl | rfl
  ·exact .inr (.inl rfl)
  ·exact .inr (.inr rfl)
theorem fB(h:fS e.scope=true)(h1:e.env.scope=e.scope)(h2:e.env.locals=e.L)(h3:∀x,e.nv x=none):s9 e:=fun x=>by
 have hk:e.env.kindOf x=e.scope.names.lookup x:=by refine h1 ▸ ?_;rfl
 rcases te h x with q | q | q <;> rw[q] <;> rw[q]at hk
 ·trivial
 ·exact⟨hk,h2,h3 x⟩
 ·exact hk
section
variable{e:Fm}{c:St}
theorem cL.aj {ad:Ad}(n:cL w h₀ L nv ad m aa c h):cL w h₀ L nv ad m aa ⟨[],c.aj⟩ h:=
 ⟨n.F,n.N,n.nd,(fun Z Z e=>aZ e),n.len,n.fP,n.fb,n.gp,n.rep⟩
theorem cL.oY {ad aF:Ad}(n:cL w h₀ L nv ad m aa c h)(x:Ext ad aa aF ag)(n':cL w h₀ L nv aF m ag ⟨[],σ⟩ h'):cL w h₀ L nv aF m ag ⟨c.loc,σ⟩ h':=
 ⟨n'.F,n'.N,n'.nd,fun y v e=>let ⟨v',e',r⟩:=n.loc y v e;⟨v',e',VR.mono x r⟩,n'.len,n'.fP,n'.fb,n'.gp,n'.rep⟩
theorem af.op (h:af e us f c.aj fun v σ=>Q v ⟨c.loc,σ⟩):cN e VR us (fun vs=>call f vs) c Q:=
 fun x ad m aa vs n r R E p=>wpAny_call (h x ad m aa vs n.aj r R E fun v v' σ' h' tk aF ag q n' y rv=>p v v' _ h' tk aF m ag q (n.oY y n') y rv)
theorem af.gen (h:∀K:V->List AO->Prop,(∀v σ',Q v σ'->K v σ')->af e us f σ K):af e us f σ Q:=h Q fun Z Z h=>h
theorem af.mono (h:af e us f σ Q)(k:∀v σ',Q v σ'->Q' v σ'):af e us f σ Q':=
 fun x ad m aa vs n r R E p=>h x ad m aa vs n r R E fun v v' σ' h' tk aF ag q n' y rv=>p v v' σ' h' tk aF ag (k _ _ q) n' y rv
theorem af.eqs (h:af e us f σ fun v σ'=>v=U/\σ'=C)(k:Q U C):af e us f σ Q:=h.mono fun Z Z z=>z.1 ▸ z.2 ▸ k
theorem V7(hx:Cx e)(hk:e.k=k+1) (ho:(KK e.w.params).lookup f=some ⟨oc,od,.func (fnOf name qual params body scope dV kV doc pm an dS ct),V8⟩)(mY:codeIn (KK e.w.params) dS qual=true) {names:List Str}(V9:∀ad aa,aM (VR ad aa) ds dvs)(hb:∀(x:Shared) (vs:List Value),(KK e.w.params).In x.heap->vs.length=us.length->BindsTo x (fnOf name qual params body scope dV kV doc pm an dS ct) ⟨vs,[]⟩ (names.zip (vs++dvs))) (eC:names.Nodup)(kT:(names.all fun y=>decide (scope.names.lookup y=some .local))=true) (Lv:scope.isCoroutine=false)(yW:scope.isGenerator=false)(yX:scope.kind= .function)(fT:fS scope=true) (h:∀e':Fm,Cx e'->e'.w=e.w->e'.k=k->e'.scope=scope->Wp e' bN (execs body e'.env) ⟨names.zip (us++ds),σ⟩ (oW Q)):af e us (.ref f) σ Q:=by
 intro x ad m aa vs n ru R E p;refine hY hx.T fun fc mg mb T=> ?_;have lS:∀x∈scope.names,x.2≠ .cell:=fun y hy z=>by have:=aaZ.mp fT y hy;replace this:=z ▸ this;exact absurd this (by decide)
 refine(code_def hx.B n.F hx.X n.N T hx.hA rfl hx.uH ho mY (by have:=hx.dep;exact bj 757094035331352 this) (hb _ vs (hx.X.keeps n.F.keep) ru.length.symm) (fun y hy=> ?_) (fun g L' h₁ FG F' N' B' X' T'=> ?_) Lv yW yX lS)
 ·exact of_decide_eq_true (aaZ.mp kT y.1 (adO hy).1)
 ·have cx:Cx ⟨e.w,e.A.deeper (envOf qual scope L' f dS),e.A,e.base,g,e.iU::e.outer,L',qual,scope,f,dS,k,scope,[],none,fun Z=>none⟩:=⟨B',X',⟨fc,mg,mb,T'⟩,by
    show e.A.frames.map _=_;refine hx.hA ▸ ?_;rfl,yX,yX,rfl,rfl,fB fT rfl rfl (fun Z=>rfl),(hx.dn hk).1,(hx.dn hk).2,hx.hh⟩
  have now:aU ⟨e.w,e.A.deeper (envOf qual scope L' f dS),e.A,e.base,g,e.iU::e.outer,L',qual,scope,f,dS,k,scope,[],none,fun Z=>none⟩ ad (fun y=>(names.zip (vs++dvs)).reverse.lookup y) aa ⟨names.zip (us++ds),σ⟩ h₁:=
   ⟨F',N',n.nd,fun y v e'=>jz eC (ru.append (V9 ad aa)) e',n.len,n.fP,n.fb,n.gp,n.rep⟩
  refine h _ cx rfl rfl rfl ({x with heap:=h₁,toks:=x.toks+(names.zip (vs++dvs)).length}) ad _ aa now _ _ fun fl JZ c' h' tk aF m' ag q n' y r=>sG L' m' ag ⟨n'.F,n'.N,fun F0 N0=> ?_⟩;have nn:lR e aF m ag c'.aj h':=⟨F0,N0,n'.nd,(fun Z Z e=>aZ e),n'.len,n'.fP,n'.fb,n'.gp,n'.rep⟩;cases fl with
  | next=>exact r ▸ p _ _ _ _ _ _ _ q nn y rfl
  | brk=>exact r ▸ p _ _ _ _ _ _ _ q nn y rfl
  | cont=>exact r ▸ p _ _ _ _ _ _ _ q nn y rfl
  | ret v=>refine ah r fun v' Wa rv=> ?_;exact Wa ▸ p _ _ _ _ _ _ _ q nn y rv
end
noncomputable def V.bQ (ρ:Nat->Nat):V->V
 | .ref i=>.ref (ρ i)
 | v=>v
noncomputable def AO.bQ (ρ:Nat->Nat):AO->AO
 | .refs xs=>.refs (xs.map ρ)
 | .dict es=>.dict (es.map fun x=>(x.1,x.2.bQ ρ))
 | .inst C d=>.inst C (ρ d)
 | .bo ep es=>.bo ep (es.map fun x=>(x.1,x.2.bQ ρ))
 | .slot C d vs=>.slot C (ρ d) (vs.map fun x=>x.map (V.bQ ρ))
 | .bound f i=>.bound f (ρ i)
 | .da i x=>.da (i.map ρ) x
 | .cK l k=>.cK (ρ l) k
 | .wrap f i=>.wrap f (ρ i)
 | .cell v=>.cell (v.map (V.bQ ρ))
 | .ns l=>.ns (l.map fun x=>(x.1,x.2.bQ ρ))
 | o=>o
theorem AO.qP:AO.bQ ρ (.vals k xs)= .vals k xs:=rfl
theorem AO.qQ:AO.bQ ρ (.dict es)= .dict (es.map fun x=>(x.1,x.2.bQ ρ)):=rfl
theorem AO.qR {vs:List (Option V)}:AO.bQ ρ (.slot C d vs)= .slot C (ρ d) (vs.map fun x=>x.map (V.bQ ρ)):=rfl
theorem V.uS:V.bQ ρ (.ref i)= .ref (ρ i):=rfl
theorem V.yY:V.bQ ρ (.pv p)= .pv p:=rfl
noncomputable def eJ(is:List Nat)(n j:Nat):Nat:=match is[j]? with
 | some i=>i
 | none=>n+(j-is.length)
noncomputable def dq{α:Type}:List α->List Nat->List α->List α
 | σ,[],_=>σ
 | σ,i::r,os=>match os with
  | []=>σ
  | o::s=>dq (σ.set i o) r s
noncomputable def ny(is:List Nat)(σ τ:List AO):List AO:=dq σ is (τ.map (AO.bQ (eJ is σ.length)))++((τ.drop is.length).map (AO.bQ (eJ is σ.length)))
theorem bE{α:Type}(is:List Nat):∀(os σ:List α),(dq σ is os).length=σ.length:=by
 induction is with
 | nil=>exact fun os σ=>by cases os <;> rfl
 | cons i r ih=>exact fun os σ=>by cases os with
  | nil=>rfl
  | cons o s=>exact(ih s _).trans acN
theorem eD{α:Type}(is:List Nat):∀(os σ:List α) (k:Nat),k∉is->(dq σ is os)[k]? =σ[k]? :=by
 induction is with
 | nil=>exact fun os Z Z Z=>by cases os <;> rfl
 | cons i r ih=>exact fun os σ k h=>by cases os with
  | nil=>rfl
  | cons o s=>exact(ih s _ k (List.not_mem_of_not_mem_cons h)).trans (acr (Ne.symm (List.ne_of_not_mem_cons h)))
theorem gA{α:Type}(is:List Nat):∀(os σ:List α) (j i:Nat) (o:α),is.Nodup->is[j]? =some i->os[j]? =some o->i<σ.length->(dq σ is os)[i]? =some o:=by
 induction is with
 | nil=>exact fun Z Z Z Z Z Z h=>aZ h
 | cons a r ih=>
  intro os σ j i o nd h1 h2 hi;cases os with
  | nil=>exact aZ h2
  | cons b s=>
   replace nd:=acD.mp nd;cases j with
   | zero=>exact aah.inj h1 ▸ aah.inj h2 ▸ (eD r s _ _ nd.1).trans (adC (aah.inj h1 ▸ hi))
   | succ j=>exact ih s _ j i o nd.2 h1 h2 (acN.symm ▸ hi)
section
variable{w:World}{ad aF:Ad}{aa:Led}{ρ:Nat->Nat}
theorem RR.bQ (h:∀j a,aF.m[j]? =some a->ad.m[ρ j]? =some a)(r:RR aF i v):RR ad (ρ i) v:=by refine ah r fun a e Wb=>Wb ▸ ⟨a,h _ _ e,rfl⟩
theorem VR.bQ (h:∀j a,aF.m[j]? =some a->ad.m[ρ j]? =some a)(r:VR aF aa u v):VR ad aa (u.bQ ρ) v:=by
 cases u with
 | pv p=>exact r
 | ref i=>exact RR.bQ h r
 | glob g=>exact r
 | any=>exact r
theorem aM.CC {α β γ:Type}{R:α->β->Prop}{R':γ->β->Prop}{f:α->γ}(k:∀a b,R a b->R' (f a) b){l:List α}{r:List β}(h:aM R l r):aM R' (l.map f) r:=by
 induction h with
 | nil=>exact .nil
 | cons h _ ih=>exact .cons (k _ _ h) ih
theorem SR.bQ (h:∀j a,aF.m[j]? =some a->ad.m[ρ j]? =some a)(r:SR aF aa u v):SR ad aa (u.map (V.bQ ρ)) v:=by cases u <;> cases v <;> first | exact r | exact VR.bQ h r
theorem yZ{l:List (Str×V)}(h:look (l.map fun x=>(x.1,x.2.bQ ρ)) x=some v):∃u,look l x=some u/\v=u.bQ ρ:=by
 induction l with
 | nil=>exact aZ h
 | cons p r ih=>
  simp only[acu,eQ]at h ⊢;cases q:Fast.sEq p.1 x with
  | true=>replace h:=q ▸ h;exact(aah.inj h) ▸ ⟨_,rfl,rfl⟩
  | false=>rw[q]at h;exact ih h
theorem y0{l:List (Str×V)}{x:Str}(h:look l x=some u):look (l.map fun x=>(x.1,x.2.bQ ρ)) x=some (u.bQ ρ):=by
 induction l with
 | nil=>exact aZ h
 | cons p r ih=>
  simp only[acu,eQ]at h ⊢;cases q:Fast.sEq p.1 x with
  | true=>rw[q]at h;exact(aah.inj h) ▸ rfl
  | false=>rw[q]at h;exact ih h
theorem OR.bQ (h:∀j a,aF.m[j]? =some a->ad.m[ρ j]? =some a)(r:OR w aF aa o ob):OR w ad aa (o.bQ ρ) ob:=by
 cases o with
 | vals k xs=>exact r
 | refs xs=>refine bG r fun its n e k l=> ?_;exact k5 its n ⟨e,k.CC (fun Z Z z=>RR.bQ h z),by simpa using l⟩
 | dict es=>refine bG r fun fK n e k l=> ?_;exact k5 fK n ⟨e,k.CC (fun Z Z z=>⟨z.1,z.2.1,VR.bQ h z.2.2⟩),by simpa using l⟩
 | inst C d=>refine ah r fun a e k=> ?_;exact⟨a,h _ _ e,k⟩
 | bo ep es=>refine ah r fun gn e k=> ?_;exact⟨gn,e,k.CC (fun Z Z z=>⟨z.1,VR.bQ h z.2⟩)⟩
 | ig S n=>exact r
 | slot C d vs=>refine bG r fun a nR q e k=> ?_;exact k5 a nR ⟨h _ _ q,e,k.CC (fun Z Z z=>SR.bQ h z)⟩
 | bound f i=>refine ah r fun a e k=> ?_;exact⟨a,h _ _ e,k⟩
 | da i y=>
  cases i with
  | none=>exact r
  | some i=>refine dy r fun a t e k=> ?_;exact k5 a t ⟨h _ _ e,k⟩
 | cK l k=>refine ah r fun a e k=> ?_;exact⟨a,h _ _ e,k⟩
 | wrap f i=>refine ah r fun a e k=> ?_;exact⟨a,h _ _ e,k⟩
 | dK=>exact r
 | cell v=>refine ah r fun v' e k=> ?_;exact⟨v',e,SR.bQ h k⟩
 | ns l=>refine ah r fun m e k=> ?_;exact⟨m,e,fun x v q=>by refine ah (yZ q) fun u hu Wc=> ?_;subst Wc;refine ah (k x u hu) fun v' g1 g2=>⟨v',g1,VR.bQ h g2⟩⟩
 | box τ=>exact r
theorem RP.bQ (h:∀j a,aF.m[j]? =some a->ad.m[ρ j]? =some a)(r:RP w aF aa a ow ob o):RP w ad aa a ow ob (o.bQ ρ):=by cases o <;> first | exact⟨r.1,r.2.bQ h⟩ | exact r
end
end
section
section
variable{w:World}{ad aF:Ad}{aa:Led}{ρ:Nat->Nat}
theorem RR.er (h:∀j a,ad.m[ρ j]? =some a->aF.m[j]? =some a)(r:RR ad (ρ i) v):RR aF i v:=by refine ah r fun a e We=>We ▸ ⟨a,h _ _ e,rfl⟩
theorem VR.er (h:∀j a,ad.m[ρ j]? =some a->aF.m[j]? =some a)(r:VR ad aa (u.bQ ρ) v):VR aF aa u v:=by
 cases u with
 | pv p=>exact r
 | ref i=>exact RR.er h r
 | glob g=>exact r
 | any=>exact r
theorem aM.lU {α β γ:Type}{R:α->β->Prop}{R':γ->β->Prop}{f:α->γ}(k:∀a b,R' (f a) b->R a b):∀ {l:List α} {r:List β},aM R' (l.map f) r->aM R l r:=by
 intro l;induction l with
 | nil=>intro _ h;cases h;exact .nil
 | cons a l ih=>intro _ h;cases h with | cons h1 h2=>exact .cons (k _ _ h1) (ih h2)
theorem SR.er (h:∀j a,ad.m[ρ j]? =some a->aF.m[j]? =some a)(r:SR ad aa (u.map (V.bQ ρ)) v):SR aF aa u v:=by cases u <;> cases v <;> first | exact r | exact VR.er h r
theorem OR.er (h:∀j a,ad.m[ρ j]? =some a->aF.m[j]? =some a)(r:OR w ad aa (o.bQ ρ) ob):OR w aF aa o ob:=by
 cases o with
 | vals k xs=>exact r
 | refs xs=>refine bG r fun its n e k l=> ?_;exact k5 its n ⟨e,k.lU (R:=RR aF) (fun(_:Nat) _ z=>RR.er h z),by simpa using l⟩
 | dict es=>refine bG r fun fK n e k l=> ?_;exact k5 fK n ⟨e,k.lU (fun Z Z z=>⟨z.1,z.2.1,VR.er h z.2.2⟩),by simpa using l⟩
 | inst C d=>refine ah r fun a e k=> ?_;exact⟨a,h _ _ e,k⟩
 | bo ep es=>refine ah r fun gn e k=> ?_;exact⟨gn,e,k.lU (fun Z Z z=>⟨z.1,VR.er h z.2⟩)⟩
 | ig S n=>exact r
 | slot C d vs=>refine bG r fun a nR q e k=> ?_;exact k5 a nR ⟨h _ _ q,e,k.lU (R:=SR aF aa) (fun(_:Option V) _ z=>SR.er h z)⟩
 | bound f i=>refine ah r fun a e k=> ?_;exact⟨a,h _ _ e,k⟩
 | da i y=>
  cases i with
  | none=>exact r
  | some i=>refine dy r fun a t e k=> ?_;exact k5 a t ⟨h _ _ e,k⟩
 | cK l k=>refine ah r fun a e k=> ?_;exact⟨a,h _ _ e,k⟩
 | wrap f i=>refine ah r fun a e k=> ?_;exact⟨a,h _ _ e,k⟩
 | dK=>exact r
 | cell v=>refine ah r fun v' e k=> ?_;exact⟨v',e,SR.er h k⟩
 | ns l=>refine ah r fun m e k=> ?_;exact⟨m,e,fun x v q=>let ⟨v',g1,g2⟩:=k x _ (y0 q);⟨v',g1,VR.er h g2⟩⟩
 | box τ=>exact r
theorem RP.er (h:∀j a,ad.m[ρ j]? =some a->aF.m[j]? =some a)(r:RP w ad aa a ow ob (o.bQ ρ)):RP w aF aa a ow ob o:=by cases o <;> first | exact⟨r.1,r.2.er h⟩ | exact r
end
theorem gf(h:is[j]? =some i):eJ is n j=i:=by unfold eJ;exact h ▸ rfl
theorem iN(h:is.length<=j):eJ is n j=n+(j-is.length):=by unfold eJ;rw[acW h]
theorem Ad.dd {ad:Ad}:b∈ad.all↔(∃i:Nat,ad.m[i]? =some b)\/∃(i:Nat) (ow:List Addr),ad.o[i]? =some ow/\b∈ow:=by
 unfold Ad.all;rw[abn,List.mem_flatten,acb];constructor
 ·rintro(h | ⟨l,h1,h2⟩)
  ·exact .inl h
  ·obtain⟨i,hi⟩:=acb.mp h1;exact .inr ⟨i,l,hi,h2⟩
 ·rintro(h | ⟨i,ow,h1,h2⟩)
  ·exact .inl h
  ·exact .inr ⟨ow,abW h1,h2⟩
theorem fo{α:Type}{l:List α}(nd:l.Nodup){i j:Nat}{a:α}(h1:l[i]? =some a)(h2:l[j]? =some a):i=j:=by exact(List.getElem?_inj ((aab.mp h1).1) nd).mp (h1.trans h2.symm)
theorem oZ{α:Type}{is:List Nat}{l l' t:List α}(nd:is.Nodup)(qS:∀j i:Nat,is[j]? =some i->i<l.length)(hl:is.length<=l'.length){k:Nat}{a:α} (h:(dq l is l'++l'.drop is.length)[k]? =some a):(∃j:Nat,eJ is l.length j=k/\l'[j]? =some a)\/(k∉is/\k<l.length/\l[k]? =some a):=by
 by_cases hk:k<l.length
 ·rw[aaY (by simp only[bE];exact hk)]at h;by_cases hm:k∈is
  ·obtain⟨j,hj,e2⟩:=List.getElem_of_mem hm;have e3:is[j]? =some k:=by simp only[aad hj,e2]
   rw[gA is _ l j k _ nd e3 (aad (ab3 hj hl)) hk]at h;exact .inl ⟨j,gf e3,by rw[aad (ab3 hj hl)];exact h⟩
  ·replace h:=(eD is _ l k hm) ▸ h;exact .inr ⟨hm,hk,h⟩
 ·rw[abF (by simp only[bE];exact(ic hk)),bE,List.getElem?_drop]at h;exact .inl ⟨is.length+(k-l.length),by rw[iN (ab2 _ _)];exact aac (nj 0x231904943992109928 (cA ((ic hk))) (cA (ab2 _ _))) (nj 0x429034913992190928 eH eH),h⟩
theorem y1{α:Type}{l l':List α}(nd:is.Nodup)(qS:∀j i:Nat,is[j]? =some i->i<l.length)(hl:is.length<=l'.length){a:α} (h:l'[j]? =some a):(dq l is l'++l'.drop is.length)[eJ is l.length j]? =some a:=by
 by_cases hj:j<is.length
 ·have e:=aad hj;rw[gf e,aaY (by simp only[bE];exact qS _ _ e)];exact gA is _ l j _ _ nd e h (qS _ _ e)
 ·rw[iN ((ic hj)),abF (by rw[bE];exact ab2 _ _),bE,List.getElem?_drop];rw[Nat.add_sub_cancel_left,Nat.add_sub_cancel' (aeb hj)];exact h
theorem uT{α:Type}{l l':List α}(hk:k<l.length)(hm:k∉is):(dq l is l'++l'.drop is.length)[k]? =l[k]? :=by rw[aaY (by rw[bE];exact hk),eD is _ l k hm]
variable{e:Fm}
theorem af.lift (nd:is.Nodup)(hlen:τ.length=is.length) (kU:∀(j:Nat) (o:AO) (i:Nat),τ[j]? =some o->is[j]? =some i->σ[i]? =some (o.bQ (eJ is σ.length)))(h:af e us f τ Q') (k:∀v τ',Q' v τ'->Q (v.bQ (eJ is σ.length)) (ny is σ τ')):af e (us.map (V.bQ (eJ is σ.length))) f σ Q:=by
 intro x ad m aa vs n ru R E p;have yc:ad.m.length=σ.length:=n.len;have wh:ad.o.length=σ.length:=n.fP;have qS:∀(j i:Nat),is[j]? =some i->i<σ.length:=fun j i e=>by
  have hj:j<τ.length:=by simp only[hlen];exact(aab.mp e).1
  exact(aab.mp (kU j _ i (aad hj) e)).1
 refine aA (⟨_,rfl⟩:∃aF:Ad,aF=⟨is.map fun i=>ad.m.getD i 0,is.map fun i=>ad.o.getD i []⟩) fun aF uU=> ?_;have E5:aF.m.length=is.length:=by refine uU ▸ ?_;simp
 have GN:aF.o.length=is.length:=by simp only[uU];simp
 have o4:∀(j i:Nat),is[j]? =some i->aF.m[j]? =ad.m[i]? :=fun j i e=>by
  have:i<ad.m.length:=by simp only[yc];exact qS j i e
  refine uU ▸ ?_;simp only[aa0,e,acY];simp[acU,this]
 have y3:∀(j i:Nat),is[j]? =some i->aF.o[j]? =ad.o[i]? :=fun j i e=>by
  have:i<ad.o.length:=by simp only[wh];exact qS j i e
  simp only[uU];simp only[aa0,e,acY];simp[acU,this]
 have iz:∀(j:Nat) (a:Addr),aF.m[j]? =some a->∃i,is[j]? =some i/\ad.m[i]? =some a:=fun j a e=>by
  have hj:j<is.length:=by exact E5 ▸ (aab.mp e).1
  exact⟨is[j],aad hj,by exact(o4 j _ (aad hj)) ▸ e⟩
 have gB:∀(j:Nat) (a:List Addr),aF.o[j]? =some a->∃i,is[j]? =some i/\ad.o[i]? =some a:=fun j a e=>by
  have hj:j<is.length:=by exact GN ▸ (aab.mp e).1
  exact⟨is[j],aad hj,by exact(y3 j _ (aad hj)) ▸ e⟩
 have hinv:∀j a,ad.m[eJ is σ.length j]? =some a->aF.m[j]? =some a:=fun j a e1=>by
  by_cases hj:j<is.length
  ·simp only[gf (aad hj)]at e1;simp only[o4 j _ (aad hj)];exact e1
  ·rw[iN ((ic hj))]at e1;have:=(aab.mp e1).1;lia
 have ok:=n.fb;have n':lR e aF m aa τ x.heap:=by
  refine⟨n.F,n.N,n.nd,(fun Z Z e=>aZ e),by simp only[E5,hlen],by simp only[GN,hlen],⟨fun i j a h1 h2=> ?_,fun i j a ow h1 h2=> ?_,fun i j ow qD a h1 h2 h3 h4=> ?_,fun i ow h1=> ?_⟩,fun b hb=> ?_,fun j o e1=> ?_⟩
  ·refine ah (iz _ _ h1) fun i' p1 q1=>ah (iz _ _ h2) fun j' p2 q2=> ?_;have:=ok.mi _ _ _ q1 q2;subst this;exact fo nd p1 p2
  ·refine ah (iz _ _ h1) fun i' p1 q1=>ah (gB _ _ h2) fun j' p2 q2=> ?_;exact ok.mo _ _ _ _ q1 q2
  ·refine ah (gB _ _ h1) fun i' p1 q1=>ah (gB _ _ h2) fun j' p2 q2=> ?_;have:=ok.oi _ _ _ _ _ q1 q2 h3 h4;subst this;exact fo nd p1 p2
  ·refine ah (gB _ _ h1) fun i' p1 q1=>ok.on _ _ q1
  ·refine n.gp b (Ad.dd.mpr ?_);rcases Ad.dd.mp hb with⟨i,h1⟩ | ⟨i,ow,h1,h2⟩
   ·refine ah (iz _ _ h1) fun i' p1 q1=> ?_;exact .inl ⟨i',q1⟩
   ·refine ah (gB _ _ h1) fun i' p1 q1=> ?_;exact .inr ⟨i',ow,q1,h2⟩
  ·have hj:j<is.length:=by exact hlen ▸ (aab.mp e1).1
   refine cY (n.rep _ _ (kU j o _ e1 (aad hj))) fun a ow ob h1 h2 h3 h4=> ?_;exact sG a ow ob ⟨by simp only[o4 j _ (aad hj)];exact h1,by simp only[y3 j _ (aad hj)];exact h2,h3,RP.er hinv h4⟩
 refine h x aF m aa vs n' (ru.lU (R:=VR aF aa) (fun(_:V) _ z=>VR.er hinv z)) R E fun v v' τ' h' tk gQ iA q mZ y rv=> ?_;obtain⟨⟨t,et,ft⟩,yt,yk,yo⟩:=y;have nz:is.length+t.length=τ'.length:=by have:=mZ.len;simp only[et]at this;simp only[aag,E5]at this;exact this
 have qT:gQ.o.length=τ'.length:=mZ.fP;have E6:gQ.m.length=τ'.length:=mZ.len;refine aA (⟨_,rfl⟩:∃bp:Ad,bp=⟨dq ad.m is gQ.m++gQ.m.drop is.length,dq ad.o is gQ.o++gQ.o.drop is.length⟩) fun bp j4=> ?_;have GO:∀(j i:Nat),is[j]? =some i->i<ad.m.length:=fun j i e=>by simp only[yc];exact qS j i e
 have Lw:∀(j i:Nat),is[j]? =some i->i<ad.o.length:=fun j i e=>by simp only[wh];exact qS j i e
 have Lx:∀(k:Nat) (a:Addr),bp.m[k]? =some a->(∃j:Nat,eJ is σ.length j=k/\gQ.m[j]? =some a)\/(k∉is/\k<σ.length/\ad.m[k]? =some a):=fun k a e=>by replace e:=j4 ▸ e;have:=oZ (t:=t) nd GO (by refine E6 ▸ ?_;exact acE (bh nz)) e;replace this:=yc ▸ this;exact this
 have J0:∀(k:Nat) (a:List Addr),bp.o[k]? =some a->(∃j:Nat,eJ is σ.length j=k/\gQ.o[j]? =some a)\/(k∉is/\k<σ.length/\ad.o[k]? =some a):=fun k a e=>by replace e:=j4 ▸ e;have:=oZ (t:= [t]) nd Lw (by simp only[qT];exact acE (bh nz)) e;replace this:=wh ▸ this;exact this
 have Wf:∀(j:Nat) (a:Addr),gQ.m[j]? =some a->bp.m[eJ is σ.length j]? =some a:=fun j a e=>by exact j4 ▸ yc ▸ y1 nd GO (by rw[E6];exact acE (bh nz)) e
 have ino:∀(j:Nat) (a:List Addr),gQ.o[j]? =some a->bp.o[eJ is σ.length j]? =some a:=fun j a e=>by exact j4 ▸ wh ▸ y1 nd Lw (by rw[qT];exact acE (bh nz)) e
 have Wg:∀(k:Nat),k∉is->k<σ.length->bp.m[k]? =ad.m[k]? :=fun k hk bT=>by exact j4 ▸ uT (by rw[yc];exact bT) hk
 have Wh:∀(k:Nat),k∉is->k<σ.length->bp.o[k]? =ad.o[k]? :=fun k hk bT=>by simp only[j4];exact uT (by simp only[wh];exact bT) hk
 have off:∀(k:Nat) (b:Addr),k∉is->(ad.m[k]? =some b\/∃ow,ad.o[k]? =some ow/\b∈ow)->b∉aF.all:=fun k b hk hb hm=>by
  rcases Ad.dd.mp hm with⟨i,h1⟩ | ⟨i,qD,h1,h2⟩
  ·refine ah (iz _ _ h1) fun i' p1 q1=> ?_;rcases hb with hb | ⟨ow,hb,nA⟩
   ·have:=ok.mi _ _ _ q1 hb;subst this;exact hk (abW p1)
   ·exact ok.mo _ _ _ _ q1 hb nA
  ·refine ah (gB _ _ h1) fun i' p1 q1=> ?_;rcases hb with hb | ⟨ow,hb,nA⟩
   ·exact ok.mo _ _ _ _ hb q1 h2
   ·have:=ok.oi _ _ _ _ _ q1 hb h2 nA;subst this;exact hk (abW p1)
 have memo:∀(k:Nat) (b:Addr),(ad.m[k]? =some b\/∃ow,ad.o[k]? =some ow/\b∈ow)->b∈ad.all:=fun k b hb=>by
  rcases hb with hb | ⟨ow,hb,nA⟩
  ·exact Ad.bk hb
  ·exact Ad.dM hb nA
 have nB:∀(k:Nat) (b:Addr),k∉is->(ad.m[k]? =some b\/∃ow,ad.o[k]? =some ow/\b∈ow)->b∉gQ.all:=fun k b hk hb=>by refine ah (n.gp b (memo k b hb)) fun ob h1 Z=>(yo b ob h1 (off k b hk hb)).2
 have o5:∀(k:Nat) (b:Addr),k∉is->(ad.m[k]? =some b\/∃ow,ad.o[k]? =some ow/\b∈ow)->∀ob,(b,ob)∈aa->(b,ob)∈iA:=fun k b hk hb ob h1=>(yo b ob h1 (off k b hk hb)).1;have CD:=mZ.fb;have pre:bp.m=ad.m++t:=by
  simp only[j4];show dq ad.m is gQ.m++gQ.m.drop is.length=ad.m++t;refine et ▸ ?_;congr 1
  ·apply adi;intro k;by_cases hk:k∈is
   ·obtain⟨j,hj,e2⟩:=List.getElem_of_mem hk;have e3:is[j]? =some k:=by simp only[aad hj,e2]
    have iV:k<ad.m.length:=GO j k e3;refine(gA is _ ad.m j k ad.m[k] nd e3 ?_ iV).trans (aad iV).symm;simp only[aaY (by rw[E5];exact hj),o4 j k e3];exact aad iV
   ·exact eD is _ _ k hk
  ·refine E5 ▸ ?_;simp
 have ext:Ext ad aa bp iA:=by
  refine⟨⟨t,pre,ft⟩,yt,yk,fun b ob hb hn=> ?_⟩;have y4:b∉aF.all:=fun hm=>hn (by
   rcases Ad.dd.mp hm with⟨i,h1⟩ | ⟨i,qD,h1,h2⟩
   ·refine ah (iz _ _ h1) fun i' p1 q1=> ?_;exact Ad.bk q1
   ·refine ah (gB _ _ h1) fun i' p1 q1=> ?_;exact Ad.dM q1 h2)
  refine aI (yo b ob hb y4) fun q1 q2=>⟨q1,fun hm=> ?_⟩;rcases Ad.dd.mp hm with⟨i,h1⟩ | ⟨i,qD,h1,h2⟩
  ·rcases Lx _ _ h1 with⟨j,_,h3⟩ | ⟨_,_,h3⟩
   ·exact q2 (Ad.bk h3)
   ·exact hn (Ad.bk h3)
  ·rcases J0 _ _ h1 with⟨j,_,h3⟩ | ⟨_,_,h3⟩
   ·exact q2 (Ad.dM h3 h2)
   ·exact hn (Ad.dM h3 h2)
 refine p _ v' (ny is σ τ') h' tk bp iA (k v τ' q) ?_ ext (VR.bQ Wf rv);have Wi:ny is σ τ'=dq σ is (τ'.map (AO.bQ (eJ is σ.length)))++(τ'.map (AO.bQ (eJ is σ.length))).drop is.length:=by unfold ny;simp only[List.map_drop]
 refine⟨mZ.F,mZ.N,mZ.nd,(fun Z Z e=>aZ e),?_,?_,⟨fun i j a h1 h2=> ?_,fun i j a ow h1 h2 h3=> ?_,fun i j ow qD a h1 h2 h3 h4=> ?_,fun i ow h1=> ?_⟩,fun b hb=> ?_,fun i o e1=> ?_⟩
 ·refine pre ▸ ?_;unfold ny;simp only[aag,bE,aaR,aet,yc];exact aac (nj 0x349149039292109928 (bh nz) eH) (nj 0x349049319292109928 (cA (acE (bh nz))) (bl nz))
 ·simp only[j4];unfold ny;simp only[aag,bE,aaR,aet,wh];exact aac (K2 0x459059149393292109938 (cA (dZ 52993757059368 (bh nz) (bl qT))) (bh qT) eH) (K2 0x459059149393292109938 (cA (acE (bh nz))) (bl qT) eH)
 ·rcases Lx _ _ h1 with⟨j1,e3,p1⟩ | ⟨k1,_,p1⟩ <;> rcases Lx _ _ h2 with⟨j2,e4,p2⟩ | ⟨k2,_,p2⟩
  ·simp only[<-e3,<-e4,CD.mi _ _ _ p1 p2]
  ·exact absurd (Ad.bk p1) (nB _ _ k2 (.inl p2))
  ·exact absurd (Ad.bk p2) (nB _ _ k1 (.inl p1))
  ·exact ok.mi _ _ _ p1 p2
 ·rcases Lx _ _ h1 with⟨j1,e3,p1⟩ | ⟨k1,_,p1⟩ <;> rcases J0 _ _ h2 with⟨j2,e4,p2⟩ | ⟨k2,_,p2⟩
  ·exact CD.mo _ _ _ _ p1 p2 h3
  ·exact absurd (Ad.bk p1) (nB _ _ k2 (.inr ⟨_,p2,h3⟩))
  ·exact absurd (Ad.dM p2 h3) (nB _ _ k1 (.inl p1))
  ·exact ok.mo _ _ _ _ p1 p2 h3
 ·rcases J0 _ _ h1 with⟨j1,e3,p1⟩ | ⟨k1,_,p1⟩ <;> rcases J0 _ _ h2 with⟨j2,e4,p2⟩ | ⟨k2,_,p2⟩
  ·simp only[<-e3,<-e4,CD.oi _ _ _ _ _ p1 p2 h3 h4]
  ·exact absurd (Ad.dM p1 h3) (nB _ _ k2 (.inr ⟨_,p2,h4⟩))
  ·exact absurd (Ad.dM p2 h4) (nB _ _ k1 (.inr ⟨_,p1,h3⟩))
  ·exact ok.oi _ _ _ _ _ p1 p2 h3 h4
 ·rcases J0 _ _ h1 with⟨j1,e3,p1⟩ | ⟨k1,_,p1⟩
  ·exact CD.on _ _ p1
  ·exact ok.on _ _ p1
 ·have:b∈gQ.all\/∃k:Nat,k∉is/\(ad.m[k]? =some b\/∃ow,ad.o[k]? =some ow/\b∈ow):=by
   rcases Ad.dd.mp hb with⟨i,h1⟩ | ⟨i,qD,h1,h2⟩
   ·rcases Lx _ _ h1 with⟨j,_,h3⟩ | ⟨hk,_,h3⟩
    ·exact .inl (Ad.bk h3)
    ·exact .inr ⟨_,hk,.inl h3⟩
   ·rcases J0 _ _ h1 with⟨j,_,h3⟩ | ⟨hk,_,h3⟩
    ·exact .inl (Ad.dM h3 h2)
    ·exact .inr ⟨_,hk,.inr ⟨_,h3,h2⟩⟩
  rcases this with h1 | ⟨k,hk,h1⟩
  ·exact mZ.gp b h1
  ·refine ah (n.gp b (memo k b h1)) fun ob h2 h3=>⟨ob,o5 k b hk h1 ob h2,h3⟩
 ·have e1:=Wi ▸ e1;rcases oZ (t:=σ) nd qS (by simp only[aaR];exact acE (bh nz)) e1 with⟨j,e3,h1⟩ | ⟨hk,bT,h1⟩
  ·simp only[aa0,abh]at h1;obtain⟨o',h1,rfl⟩:=h1;refine cY (mZ.rep _ _ h1) fun a ow ob h2 h3 h4 h5=>sG a ow ob ⟨by exact e3 ▸ Wf _ _ h2,by rw[<-e3];exact ino _ _ h3,h4,RP.bQ Wf h5⟩
  ·refine cY (n.rep i o h1) fun a ow ob h2 h3 h4 h5=>sG a ow ob ⟨by refine(Wg _ hk bT) ▸ ?_;exact h2,by exact(Wh _ hk bT) ▸ h3,o5 i a hk (.inl h2) ob h4,RP.mono ext.gr (fun b hb ob hm=> ?_) h5⟩;rcases abi.mp hb with q | q
   ·subst q;exact o5 i b hk (.inl h2) ob hm
   ·exact o5 i b hk (.inr ⟨ow,h3,q⟩) ob hm
end
section
noncomputable def V.flat:V->Bool
 | .ref _=>false
 | _=>true
noncomputable def V.root:V->Bool
 | .ref j=>j==0
 | _=>true
theorem gR{α:Type}{l:List α}(h:∀(i j:Nat) (a:α),l[i]? =some a->l[j]? =some a->i=j):l.Nodup:=by rw[List.nodup_iff_pairwise_ne,List.pairwise_iff_getElem];intro i j hi hj qi e;have:=h i j l[i] (aad hi) (by simp only[e];exact aad hj);exact cB (ba 0xab0b19910928 (bl this) qi)
variable{e:Fm}
theorem af.box (hs:σ[i]? =some (.box τ))(hu:us.all V.root=true)(h:af e us f τ Q') (hq:∀v τ',Q' v τ'->v.flat=true/\τ'.all (fun o=> !o.eX)=true/\Q v (σ.set i (.box τ'))):af e (us.map (V.bQ fun Z=>i)) f σ Q:=by
 intro x ad m aa vs n ru R E p;have hi:i<σ.length:=(aab.mp hs).1;refine cY (n.rep i _ hs) fun a ow ob ha how hm br=> ?_;have ok:=n.fb;refine aA (⟨_,rfl⟩:∃aF:Ad,aF=⟨a::ow,τ.map fun Z=> []⟩) fun aF uU=> ?_;have fQ:aF.m=a::ow:=by exact uU ▸ rfl
 have CF:∀(j:Nat) (l:List Addr),aF.o[j]? =some l->l= []:=fun j l e=>by replace e:=uU ▸ e;simp only[aa0,abh]at e;refine ah e fun Z Z Wj=>Wj.symm
 have o6:∀b,b∈aF.all↔b∈a::ow:=fun b=>by rw[Ad.dd,<-fQ,acb];exact⟨fun h=>h.elim id fun⟨j,l,h1,h2⟩=>(by simp only[CF j l h1]at h2;exact bg h2),.inl⟩
 have qS:∀b∈a::ow,b∈ad.all:=fun b hb=>by
  rcases abi.mp hb with q | q
  ·exact q ▸ Ad.bk ha
  ·exact Ad.dM how q
 have n':lR e aF m aa τ x.heap:=by
  refine⟨n.F,n.N,n.nd,(fun Z Z e=>aZ e),by refine fQ ▸ ?_;exact br.1,by refine uU ▸ ?_;simp,⟨fun i j b h1 h2=> ?_,fun i j b l h1 h2 h3=> ?_,fun i j l l' b h1 h2 h3 h4=> ?_,fun i l h1=> ?_⟩,fun b hb=>n.gp b (qS b ((o6 b).mp hb)),fun j o e1=> ?_⟩
  ·simp only[fQ]at h1 h2;exact fo (acD.mpr ⟨ok.mo _ _ _ _ ha how,ok.on _ _ how⟩) h1 h2
  ·replace h3:=(CF _ _ h2) ▸ h3;exact bg h3
  ·replace h3:=(CF _ _ h1) ▸ h3;exact bg h3
  ·exact(CF _ _ h1) ▸ .nil
  ·refine bG (br.2 j o e1) fun b qb h1 h2 h3=>⟨b,[],qb,by exact fQ ▸ h1,?_,h2,RP.of (h3.mono ⟨⟨[],by rw[fQ];simp⟩,fun Z Z h=>h⟩)⟩;refine uU ▸ ?_;simp[e1]
 have hvr:∀(u:V) (v:Value),u.root=true->VR ad aa (u.bQ fun Z=>i) v->VR aF aa u v:=fun u v hr r=>by
  cases u with
  | pv q=>exact r
  | ref j=>obtain rfl:=(eq_of_beq (show(j==0)=true from hr)).symm;refine ah r fun b h1 Wk=> ?_;obtain rfl:=Wk.symm;replace h1:=ha ▸ h1;exact(aah.inj h1) ▸ ⟨a,by refine fQ ▸ ?_;rfl,rfl⟩
  | glob g=>exact r
  | any=>exact r
 have hru:aM (VR aF aa) us vs:=by
  clear hq h p;induction us generalizing vs with
  | nil=>cases ru;exact .nil
  | cons u r ih=>
   cases ru with
   | cons r1 r2=>simp only[acP,abD]at hu;exact .cons (hvr _ _ hu.1 r1) (ih hu.2 _ r2)
 refine h x aF m aa vs n' hru R E fun v v' τ' h' tk gQ iA q mZ y rv=>bL (hq v τ' q) fun hv nA hQ=> ?_;obtain⟨⟨t,et,ft⟩,yt,yk,yo⟩:=y;replace et:=fQ ▸ et;have E7:∀(j:Nat) (o:AO),τ'[j]? =some o->o.eX=false:=fun j o e1=>by simpa using (aaZ.mp nA o (abW e1))
 have GP:∀(j:Nat) (l:List Addr),gQ.o[j]? =some l->l= []:=fun j l e1=>by
  have hj:j<τ'.length:=by exact mZ.fP ▸ (aab.mp e1).1
  refine cY (mZ.rep j _ (aad hj)) fun b l' qb Z h2 Z h4=> ?_;replace h2:=e1 ▸ h2;exact(aah.inj h2) ▸ (h4.flat (E7 j _ (aad hj))).1
 have tf:∀b,b∈gQ.all↔b∈a::(ow++t):=fun b=>by rw[Ad.dd,show a::(ow++t)=gQ.m by simp only[et];simp,acb];exact⟨fun h=>h.elim id fun⟨j,l,h1,h2⟩=>(by simp only[GP j l h1]at h2;exact bg h2),.inl⟩
 have E8:(a::(ow++t)).Nodup:=by have:gQ.m.Nodup:=gR mZ.fb.mi;simp only[et]at this;exact this
 have hio:i<ad.o.length:=by simp only[n.fP];exact hi
 refine aA (⟨_,rfl⟩:∃bp:Ad,bp=⟨ad.m,ad.o.set i (ow++t)⟩) fun bp j4=> ?_;have em:bp.m=ad.m:=by exact j4 ▸ rfl
 have GQ:bp.o[i]? =some (ow++t):=by simp only[j4];simp[hio]
 have CG:∀(j:Nat),j≠i->bp.o[j]? =ad.o[j]? :=fun j hj=>by refine j4 ▸ ?_;simp[acK,Ne.symm hj]
 have GR:∀(k:Nat) (b:Addr),k≠i->ad.m[k]? =some b->b∉a::ow:=fun k b hk hb hm=>by
  rcases abi.mp hm with q | q
  ·obtain rfl:=q.symm;exact hk (ok.mi _ _ _ hb ha)
  ·exact ok.mo _ _ _ _ hb how q
 have GS:∀(k:Nat) (l:List Addr) (b:Addr),k≠i->ad.o[k]? =some l->b∈l->b∉a::ow:=fun k l b hk hl hb hm=>by
  rcases abi.mp hm with q | q
  ·obtain rfl:=q.symm;exact ok.mo _ _ _ _ ha hl hb
  ·exact hk (ok.oi _ _ _ _ _ hl how hb q)
 have nB:∀b∈ad.all,b∉a::ow->b∉a::(ow++t):=fun b hb hn=>by refine ah (n.gp b hb) fun ob h1 Z=>fun hm=>(yo b ob h1 (fun z=>hn ((o6 b).mp z))).2 ((tf b).mpr hm)
 have o5:∀b,b∉a::ow->∀ob,(b,ob)∈aa->(b,ob)∈iA:=fun b hn ob h1=>(yo b ob h1 (fun z=>hn ((o6 b).mp z))).1;have ext:Ext ad aa bp iA:=by
  refine⟨⟨[],by refine em ▸ ?_;simp,fun Z Z Z h=>bg h⟩,yt,yk,fun b ob hb hn=> ?_⟩;refine aI (yo b ob hb (fun z=>(fun z=>hn (qS b z)) ((o6 b).mp z))) fun q1 q2=>⟨q1,fun hm=> ?_⟩;rcases Ad.dd.mp hm with⟨j,h1⟩ | ⟨j,l,h1,h2⟩
  ·replace h1:=em ▸ h1;exact hn (Ad.bk h1)
  ·by_cases hj:j=i
   ·obtain rfl:=hj.symm;replace h1:=GQ ▸ h1;obtain rfl:=aah.inj h1;exact q2 ((tf b).mpr (.tail _ h2))
   ·simp only[CG j hj]at h1;exact hn (Ad.dM h1 h2)
 have Wl:VR bp iA v v':=by
  cases v with
  | pv q=>exact rv
  | ref j=>exact absurd hv ack
  | glob g=>exact rv
  | any=>exact rv
 refine p v v' _ h' tk bp iA hQ ?_ ext Wl;refine⟨mZ.F,mZ.N,mZ.nd,(fun Z Z e=>aZ e),by refine em ▸ ?_;simp[n.len],by refine j4 ▸ ?_;simp[n.fP],⟨fun k j b h1 h2=> ?_,fun k j b l h1 h2 h3=> ?_,fun k j l l' b h1 h2 h3 h4=> ?_,fun k l h1=> ?_⟩,fun b hb=> ?_,fun j o e1=> ?_⟩
 ·simp only[em]at h1 h2;exact ok.mi _ _ _ h1 h2
 ·replace h1:=em ▸ h1;by_cases hj:j=i
  ·refine cps fun Z zk=> ?_;subst hj;refine zk ?_;replace h2:=GQ ▸ h2;obtain rfl:=aah.inj h2;by_cases hk:k=j
   ·obtain rfl:=hk.symm;replace h1:=ha ▸ h1;obtain rfl:=aah.inj h1;exact(acD.mp E8).1 h3
   ·exact nB b (Ad.bk h1) (GR k b hk h1) (.tail _ h3)
  ·simp only[CG j hj]at h2;exact ok.mo _ _ _ _ h1 h2 h3
 ·by_cases hk:k=i <;> by_cases hj:j=i
  ·simp only[hk,hj]
  ·obtain rfl:=hk.symm;simp only[GQ]at h1;obtain rfl:=aah.inj h1;simp only[CG j hj]at h2;exact absurd (List.Mem.tail _ h3) (nB b (Ad.dM h2 h4) (GS j _ b hj h2 h4))
  ·obtain rfl:=hj.symm;simp only[GQ]at h2;obtain rfl:=aah.inj h2;simp only[CG k hk]at h1;exact absurd (List.Mem.tail _ h4) (nB b (Ad.dM h1 h3) (GS k _ b hk h1 h3))
  ·replace h1:=(CG k hk) ▸ h1;replace h2:=(CG j hj) ▸ h2;exact ok.oi _ _ _ _ _ h1 h2 h3 h4
 ·by_cases hk:k=i
  ·obtain rfl:=hk.symm;replace h1:=GQ ▸ h1;exact(aah.inj h1) ▸ (acD.mp E8).2
  ·replace h1:=(CG k hk) ▸ h1;exact ok.on _ _ h1
 ·by_cases Ly:b∈a::(ow++t)
  ·exact mZ.gp b ((tf b).mpr Ly)
  ·have hb3:b∈ad.all:=by
    rcases Ad.dd.mp hb with⟨j,h1⟩ | ⟨j,l,h1,h2⟩
    ·replace h1:=em ▸ h1;exact Ad.bk h1
    ·by_cases hj:j=i
     ·obtain rfl:=hj.symm;replace h1:=GQ ▸ h1;obtain rfl:=aah.inj h1;exact absurd (List.Mem.tail _ h2) Ly
     ·simp only[CG j hj]at h1;exact Ad.dM h1 h2
   refine ah (n.gp b hb3) fun qb h1 h2=>⟨qb,o5 b (fun z=>Ly ?_) qb h1,h2⟩;rcases abi.mp z with q | q
   ·exact q ▸ .head _
   ·exact .tail _ (abn.mpr (.inl q))
 ·by_cases hj:j=i
  ·refine cps fun Z zk=> ?_;subst hj;refine zk ?_;have:o= .box τ':=by
    have e1:(σ.set j (.box τ'))[j]? =some o:=e1;simp[hi]at e1;exact e1.symm
   obtain rfl:=this.symm;have jB:(a::(ow++t)).length=τ'.length:=by have:=mZ.len;simp only[et]at this;simpa using this
   have h0:0<τ'.length:=by simp only[<-jB];simp
   refine cY (mZ.rep 0 _ (aad h0)) fun b0 l0 Lz g1 g2 g3 g4=> ?_;replace g1:=et ▸ g1;simp at g1;refine cps fun Z zk=> ?_;subst g1;refine zk (⟨a,ow++t,Lz,by exact em ▸ ha,GQ,g3,?_⟩);refine⟨jB,fun k o' e2=>cY (mZ.rep k o' e2) fun b l qb h1 h2 h3 h4=> ?_⟩;simp only[et]at h1;exact⟨b,qb,h1,h3,(h4.flat (E7 k o' e2)).2.mono ⟨⟨[],by refine et ▸ ?_;simp⟩,fun Z Z h=>h⟩⟩
  ·have e2:σ[j]? =some o:=by
    simpa[acK,Ne.symm hj]using e1
   refine cY (n.rep j o e2) fun b l qb h1 h2 h3 h4=>⟨b,l,qb,by exact em ▸ h1,by rw[CG j hj];exact h2,o5 b (GR j b hj h1) qb h3,RP.mono ext.gr (fun z hz ob hm=> ?_) h4⟩;rcases abi.mp hz with q | q
   ·refine cps fun Z zk=> ?_;subst q;refine zk ?_;clear zk;exact o5 z (GR j z hj h1) ob hm
   ·exact o5 z (GS j l z hj h2 q) ob hm
end
def fL(b:Bool)(X Y:Prop):Prop:=match b with
 | true=>X
 | false=>Y
theorem iO{X Y:Prop}(h:fL b X Y):(b=true->X)/\(b=false->Y):=by
 cases b
 ·exact⟨(fun z=>by exact gu z),fun Z=>h⟩
 ·exact⟨fun Z=>h,(fun z=>by exact lI z)⟩
theorem o7{X F:Prop}(h:fL b X F):(b=true/\X)\/F:=by
 cases b
 ·exact .inr h
 ·exact .inl ⟨rfl,h⟩
noncomputable def subIn(a b:List Nat):Bool:= !(Builtin.Str.occurrences (SS b) (SS a) 0 (SS b).length 1).isEmpty
section
variable{e:Fm}{c:St}
theorem E9(h:Q (.pv (.bool (subIn a b))) c):bM e VR (.pv (.str a)) (.pv (.str b)) (compareOp .In) c Q:=by refine .ss fun x ad m aa t u n R E p=>P.in_str (p _ _ _ _ _ _ _ _ h n (Ext.refl ..) rfl)
theorem y5(h:Q (.pv (.bool (!decide (X=Y)))) c):bM e VR (.glob (.type X)) (.glob (.type Y)) (compareOp .IsNot) c Q:=by
 rintro x ad m aa _ _ n rfl rfl R E p;refine isnot_type (p _ _ _ _ _ _ _ _ h n (Ext.refl ..) ?_);congr 2;by_cases q:X=Y
 ·subst q;simp
 ·simp[q]
theorem GU(hx:Cx e)(h:Q (.pv (.bool false)) c):bM e VR (.pv (.tup a)) (.pv (.str b)) (compareOp .Eq) c Q:=by rintro x ad m aa _ _ n ⟨l,its,rfl,hm,hi⟩ ⟨u,rfl⟩ R E p;exact PySem.SeqAt.RcAt.tuple_str _ _ ⟨_,(n.N _ hm).1,rfl,_,rfl⟩ (by have:=hx.Cn;exact bj 757094035331352 this) _ _ _ _ (p _ _ _ _ _ _ _ _ h n (Ext.refl ..) rfl)
theorem wi(hx:Cx e)(hs:c.aj[i]? =some (.box τ))(h0:τ[0]? =some (.inst C d))(hd:τ[d]? =some (.dict es))(hk:lO e.w.params C name=some f)(hl:look es name=none) (h:Q (.ref f,[.ref i]) c):cP e MR (.ref i) (fun v=>getMethod v name pl) c Q:=by
 rintro x ad m aa u n r R E p;obtain⟨a,ha,rfl⟩:=id r;obtain⟨a',ow,ob,GV,how,hm,br⟩:=n.rep i _ hs;replace GV:=ha ▸ GV;obtain rfl:=aah.inj GV;obtain⟨b0,Lz,g1,g2,⟨dx,g3,rfl⟩⟩:=br.2 0 _ h0;simp at g1;subst g1;obtain⟨b1,Wm,g4,g5,⟨fK,k,rfl,hE,hz⟩⟩:=br.2 d _ hd;have:dx=b1:=by have g3:(a::ow)[d]? =some dx:=g3;replace g4:=g3 ▸ g4;exact(aah.inj g4)
 subst this;refine nf (fk hk) fun f' k1 k2 k3 k4=> ?_;exact method_inst n.F hx.X (InstAt.of_news n.N g2 g5) k1 k2 k3 (gz hE hl) (p _ _ _ _ _ _ _ _ h n (Ext.refl ..) ⟨aah.inj k4 ▸ rfl,.cons r .nil⟩)
end
theorem cP.mono {α β:Type}{aJ:Ad->Led->α->β->Prop}{t:Value->Sem β}{Q Q':α->St->Prop}(h:cP e aJ a t c Q)(k:∀a c',Q a c'->Q' a c'):cP e aJ a t c Q':=
 fun x ad m aa v n r R E p=>h x ad m aa v n r R E fun a b c' h' tk aF m' ag q n' y r=>p a b c' h' tk aF m' ag (k _ _ q) n' y r
theorem bM.mono {α β:Type}{aJ:Ad->Led->α->β->Prop}{t:Value->Value->Sem β}{Q Q':α->St->Prop}(h:bM e aJ a b t c Q)(k:∀a c',Q a c'->Q' a c'):bM e aJ a b t c Q':=
 fun x ad m aa v v' n r r' R E p=>h x ad m aa v v' n r r' R E fun a b c' h' tk aF m' ag q n' y r=>p a b c' h' tk aF m' ag (k _ _ q) n' y r
theorem cN.mono {α β:Type}{aJ:Ad->Led->α->β->Prop}{t:List Value->Sem β}{Q Q':α->St->Prop}(h:cN e aJ us t c Q)(k:∀a c',Q a c'->Q' a c'):cN e aJ us t c Q':=
 fun x ad m aa vs n r R E p=>h x ad m aa vs n r R E fun a b c' h' tk aF m' ag q n' y r=>p a b c' h' tk aF m' ag (k _ _ q) n' y r
structure SF(F:Prop)(T:Fm->Prop) where
 p:Prop
 ok:∀ {e},Cx e->(F->T e)->p->T e
noncomputable abbrev SF.no {F:Prop}{T:Fm->Prop}:SF F T:=⟨F,fun Z k h=>k h⟩
noncomputable def kW{α:Sort 1}:(b:Bool)->(b=true->α)->(b=false->α)->α
 | true,t,_=>t rfl
 | false,_,f=>f rfl
noncomputable def gq{β:Type}{α:Sort 1}:(o:Option β)->(∀b,o=some b->α)->α->α
 | some b,k,_=>k b rfl
 | none,_,n=>n
section
variable{e:Fm}{c:St}
noncomputable def y6(k:Const)(i:Nat)(pos:Pos)(c:St)(Q:V->St->Prop)(F:Prop):SF F fun e=>Wp e VR (eval (.Constant k i pos) e.env) c Q:=match k with
 | .int i=>⟨Q (.pv (.int i)) c,fun Z Z h=>EZ h⟩
 | .str x=>⟨Q (.pv (.str x.cps.toList)) c,fun Z Z h=>qG h⟩
 | .none=>⟨Q (.pv .none) c,fun Z Z h=>ta h⟩
 | .bool b=>⟨Q (.pv (.bool b)) c,fun Z Z h=>Gy h⟩
 | _=>.no
abbrev NT'(P:Params)(sc:Scope)(x:Str)(c:St)(Q:V->St->Prop)(F:Prop):={p:Prop // ∀ {e pos},Cx e->e.w.params=P->e.scope=sc->(F->Wp e VR (eval (.Name x pos) e.env) c Q)->p->Wp e VR (eval (.Name x pos) e.env) c Q}
def Fb(P:Params)(sc:Scope)(x:Str)(c:St)(Q:V->St->Prop)(F:Prop)(q:NameKind)(hd:Fast.sEq x (s "__debug__")=false)(hl:look sc.names x=some q)(hq:q= .cell\/q= .free):NT' P sc x c Q F:=
 kW (Fast.sEq x (s "__classdict__")) (fun Z=>⟨F,fun Z Z Z k h=>k h⟩) fun hc=>
  gq (look c.loc x) (fun v hv=>match v,hv with
   | .ref i,hv=>gq c.aj[i]? (fun o ho=>match o,ho with
    | .cell (some v),hs=>⟨Q v c,fun hx Z e2 Z h=>by subst e2;exact Gz hx hd hc hl hq hv hs h⟩
    | _,_=>⟨F,fun Z Z Z k h=>k h⟩) ⟨F,fun Z Z Z k h=>k h⟩
   | _,_=>⟨F,fun Z Z Z k h=>k h⟩) ⟨F,fun Z Z Z k h=>k h⟩
def uV(P:Params)(sc:Scope)(x:Str)(c:St)(Q:V->St->Prop)(F:Prop):NT' P sc x c Q F:=
 kW (Fast.sEq x (s "__debug__")) (fun Z=>⟨F,fun Z Z Z k h=>k h⟩) fun hd=>
  gq (look sc.names x) (fun k hl=>match k,hl with
   | .local,hl=>gq (look c.loc x) (fun v hv=>⟨Q v c,fun hx Z e2 Z h=>by subst e2;exact uI hx hd hl hv h⟩) ⟨F,fun Z Z Z k h=>k h⟩
   | .globalImplicit,hl=>gq (nsIn (KK P) mainGlobals x) (fun o ho=>match o,ho with
    | some v,hv=>⟨Q (gv v) c,fun hx e1 e2 Z h=>by subst e1;subst e2;exact yH hx hd hl hv h⟩
    | none,hg=>gq (look tb x) (fun v hv=>kW (Fast.sEq x (s "__name__")) (fun Z=>⟨F,fun Z Z Z k h=>k h⟩) fun hn=>⟨Q (.glob v) c,fun hx e1 e2 Z h=>by subst e1;subst e2;exact v5 hx hd hn hl hg hv h⟩) ⟨F,fun Z Z Z k h=>k h⟩) ⟨F,fun Z Z Z k h=>k h⟩
   | .cell,hl=>Fb P sc x c Q F .cell hd hl (.inl rfl)
   | .free,hl=>Fb P sc x c Q F .free hd hl (.inr rfl)
   | .globalExplicit,hl=>gq (look c.loc x) (fun v hv=>match v,hv with
    | .ref i,hv=>gq c.aj[i]? (fun o ho=>match o,ho with
     | .ns l,hs=>gq (look l x) (fun v hy=>⟨Q v c,fun hx Z e2 Z h=>by subst e2;exact yG hx hd hl hv hs hy h⟩) ⟨F,fun Z Z Z k h=>k h⟩
     | _,_=>⟨F,fun Z Z Z k h=>k h⟩) ⟨F,fun Z Z Z k h=>k h⟩
    | _,_=>⟨F,fun Z Z Z k h=>k h⟩) ⟨F,fun Z Z Z k h=>k h⟩) ⟨F,fun Z Z Z k h=>k h⟩
abbrev cM(P:Params)(sc:Scope)(x:Str)(c:St)(Q:V->St->Prop)(F:Prop):Prop:=(uV P sc x c Q F).1
theorem cu(hx:Cx e){F:Prop}(hF:F->Wp e VR (eval (.Name y pos) e.env) c Q)(h:cM e.w.params e.scope y c Q F):Wp e VR (eval (.Name y pos) e.env) c Q:=(uV _ _ y c Q F).2 hx rfl rfl hF h
noncomputable def bwS(op:Operator)(a b:V)(c:St)(Q:V->St->Prop)(F:Prop):SF F fun e=>bM e VR a b (binaryOp op) c Q:=match a,b,op with
 | .pv (.int i),.pv (.int j),.Add=>⟨Q (.pv (.int (i+j))) c,fun Z Z h=>Lc h⟩
 | .pv (.int i),.pv (.int j),.Sub=>⟨Q (.pv (.int (i-j))) c,fun Z Z h=>Ld h⟩
 | .pv (.int i),.pv (.int j),.Mult=>⟨fL (decide (Builtin.Int.intBits i<=64)) (Q (.pv (.int (i*j))) c) F,fun Z k h=>(o7 h).elim (fun h=>Ln (of_decide_eq_true h.1) h.2) k⟩
 | .pv (.int i),.pv (.int j),.FloorDiv=>⟨fL (decide (j≠0/\j.natAbs<1000000)) (Q (.pv (.int (i.fdiv j))) c) F,fun Z k h=>(o7 h).elim (fun h=>GH (of_decide_eq_true h.1).1 (of_decide_eq_true h.1).2 h.2) k⟩
 | .pv (.int i),.pv (.int j),.Mod=>⟨fL (decide (j≠0)) (Q (.pv (.int (i.fmod j))) c) F,fun Z k h=>(o7 h).elim (fun h=>GI (of_decide_eq_true h.1) h.2) k⟩
 | .pv (.int i),.pv (.int j),.RShift=>⟨fL (decide (j=1)) (0<=i/\Q (.pv (.int (i / 2))) c) F,fun Z k h=>(o7 h).elim (fun h=>by cases of_decide_eq_true h.1;exact GJ h.2.1 h.2.2) k⟩
 | .pv (.str i),.pv (.str j),.Add=>⟨i.length+j.length<=100000/\Q (.pv (.str (i++j))) c,fun Z Z h=>jX h.1 h.2⟩
 | _,_,_=>.no
abbrev bw(op:Operator)(a b:V)(c:St)(Q:V->St->Prop)(F:Prop):Prop:=(bwS op a b c Q F).p
noncomputable def Uj(op:Operator)(a b:V)(c:St)(Q:V->St->Prop)(F:Prop):SF F fun e=>bM e VR a b (inplaceOp op) c Q:=match a,b,op with
 | .pv (.int i),.pv (.int j),.Add=>⟨Q (.pv (.int (i+j))) c,fun Z Z h=>yK h⟩
 | .pv (.int i),.pv (.int j),.Sub=>⟨Q (.pv (.int (i-j))) c,fun Z Z h=>yL h⟩
 | .pv (.str i),.pv (.str j),.Add=>⟨i.length+j.length<=100000/\Q (.pv (.str (i++j))) c,fun Z Z h=>Cv h.1 h.2⟩
 | _,_,_=>.no
abbrev iw(op:Operator)(a b:V)(c:St)(Q:V->St->Prop)(F:Prop):Prop:=(Uj op a b c Q F).p
structure SC(Q:V->St->Prop)(F:Prop)(T:Fm->(V->St->Prop)->Prop) where
 p:Prop
 ok:∀ {e Q'},Cx e->(∀v c',Q v c'->Q' v c')->(F->T e Q')->p->T e Q'
noncomputable abbrev SC.no {Q:V->St->Prop}{F:Prop}{T:Fm->(V->St->Prop)->Prop}:SC Q F T:=⟨F,fun Z Z k h=>k h⟩
noncomputable def Wn(op:CmpOp)(a b:V)(c:St)(Q:V->St->Prop)(F:Prop):SC Q F fun e Q=>bM e VR a b (compareOp op) c Q:=match op,b,a with
 | .Lt,.pv (.int j),.pv (.int i)=>⟨Q (.pv (.bool (decide (i<j)))) c,fun Z k Z h=>VK (k _ _ h)⟩
 | .Lt,.pv (.tup j),.pv (.tup i)=>⟨Q (.pv (.bool (lexLt i j))) c,fun hx k Z h=>Lm hx (k _ _ h)⟩
 | .LtE,.pv (.int j),.pv (.int i)=>⟨Q (.pv (.bool (decide (i<=j)))) c,fun Z k Z h=>VL (k _ _ h)⟩
 | .Gt,.pv (.int j),.pv (.int i)=>⟨Q (.pv (.bool (decide (j<i)))) c,fun Z k Z h=>VM (k _ _ h)⟩
 | .GtE,.pv (.int j),.pv (.int i)=>⟨Q (.pv (.bool (decide (j<=i)))) c,fun Z k Z h=>VN (k _ _ h)⟩
 | .Eq,.pv (.int j),.pv (.int i)=>⟨Q (.pv (.bool (i==j))) c,fun Z k Z h=>GK (k _ _ h)⟩
 | .Eq,.pv (.str j),.pv (.str i)=>⟨Q (.pv (.bool (i==j))) c,fun Z k Z h=>Lp (k _ _ h)⟩
 | .Eq,.pv (.str _),.pv (.tup _)=>⟨Q (.pv (.bool false)) c,fun hx k Z h=>GU hx (k _ _ h)⟩
 | .NotEq,.pv (.int j),.pv (.int i)=>⟨Q (.pv (.bool (i != j))) c,fun Z k Z h=>VO (k _ _ h)⟩
 | .NotEq,.pv (.str j),.pv (.str i)=>⟨Q (.pv (.bool (i != j))) c,fun Z k Z h=>Lq (k _ _ h)⟩
 | .In,.pv (.str j),.pv (.str i)=>⟨Q (.pv (.bool (subIn i j))) c,fun Z k Z h=>E9 (k _ _ h)⟩
 | .Is,.pv .none,.pv .none=>⟨Q (.pv (.bool true)) c,fun Z k Z h=>yN (k _ _ h)⟩
 | .Is,.pv .none,a=>kW (iM a) (fun hn=>⟨Q (.pv (.bool false)) c,fun Z k Z h=>yM hn (k _ _ h)⟩) fun Z=>.no
 | .IsNot,.pv .none,.pv .none=>⟨Q (.pv (.bool false)) c,fun Z k Z h=>wb (k _ _ h)⟩
 | .IsNot,.pv .none,a=>kW (iM a) (fun hn=>⟨Q (.pv (.bool true)) c,fun Z k Z h=>yO hn (k _ _ h)⟩) fun Z=>.no
 | .IsNot,.glob (.type Y),.glob (.type X)=>⟨Q (.pv (.bool (!decide (X=Y)))) c,fun Z k Z h=>y5 (k _ _ h)⟩
 | _,_,_=>.no
abbrev cw(op:CmpOp)(a b:V)(c:St)(Q:V->St->Prop)(F:Prop):Prop:=(Wn op a b c Q F).p
noncomputable def GW(v:V)(c:St)(Q:Bool->St->Prop)(F:Prop):SF F fun e=>cP e cD v truthy c Q:=match v with
 | .pv (.bool b)=>⟨Q b c,fun Z Z h=>cG h⟩
 | .pv (.int i)=>⟨Q (i != 0) c,fun Z Z h=>yQ h⟩
 | .pv .none=>⟨Q false c,fun Z Z h=>yR h⟩
 | .pv (.str a)=>⟨a.length<=100000/\Q (!a.isEmpty) c,fun Z Z h=>yP h.1 h.2⟩
 | .ref i=>gq c.aj[i]? (fun o ho=>match o,ho with
  | .vals _ xs,hs=>⟨Q (!xs.isEmpty) c,fun Z Z h=>qJ hs h⟩
  | _,_=>.no) .no
 | _=>.no
abbrev CH(v:V)(c:St)(Q:Bool->St->Prop)(F:Prop):Prop:=(GW v c Q F).p
theorem o8{α:Type}{d:α}{xs:List α}{k:Int}(h0:0<=k)(h1:k<xs.length):xs[k.toNat]? =some (xs.getD k.toNat d):=by simp[acU,(show k.toNat<xs.length from lx [_,_] [_] 0x1b0918b091008128 (ij (abC h0)) h1)]
def swS(y sl:Expr)(mX:isSlice sl=false)(a b:V)(c:St)(Q:V->St->Prop)(F:Prop):SF F fun e=>bM e VR a b (subscriptTail y sl) c Q:=match b,a with
 | .pv (.int k),.ref i=>gq c.aj[i]? (fun o ho=>match o,ho with
  | .vals kd xs,hs=>⟨(0<=k/\k<xs.length)/\Q (.pv (kd.inj (xs.getD k.toNat kd.dflt))) c,fun Z Z h=>o_item mX hs h.1.1 (o8 h.1.1 h.1.2) h.2⟩
  | .refs xs,hs=>match k with
   | .ofNat n=>gq xs[n]? (fun j hj=>⟨Q (.ref j) c,fun Z Z h=>Cp mX hs (aa1 _) hj h⟩) .no
   | _=>.no
  | _,_=>.no) .no
 | .pv (.int k),.pv (.tup ns)=>⟨(0<=k/\k<ns.length/\ns.length<=100000)/\Q (.pv (.int (ns.getD k.toNat 0))) c,fun Z Z h=>Cu mX h.1.1 h.1.2.2 (o8 h.1.1 h.1.2.1) h.2⟩
 | .pv (.str k),.ref i=>gq c.aj[i]? (fun o ho=>match o,ho with
  | .dict es,hs=>gq (look es (SS k)) (fun v hl=>⟨Q v c,fun Z Z h=>uO mX hs hl h⟩) .no
  | _,_=>.no) .no
 | _,_=>.no
def qU(name:Str):Option String:=look [(s "append","list.append"),(s "pop","list.pop")] name
theorem kz{id:String}(h:qU name=some id):Slot "list" name id/\typeOf (.builtin id)=pure (.type "method_descriptor"):=by
 have:=gy h;simp only[abi,Prod.mk.injEq,acS,or_false]at this;rcases this with⟨rfl,rfl⟩ | ⟨rfl,rfl⟩
 ·exact⟨PySem.F.slot_list_append,PySem.F.type_list_append⟩
 ·exact⟨PySem.F.slot_list_pop,PySem.F.type_list_pop⟩
structure SP(P:Params)(F:Prop)(T:Fm->Prop) where
 p:Prop
 ok:∀ {e},Cx e->e.w.params=P->(F->T e)->p->T e
noncomputable abbrev SP.no {P:Params}{F:Prop}{T:Fm->Prop}:SP P F T:=⟨F,fun Z Z k h=>k h⟩
def mwS(P:Params)(u:V)(name:Str)(c:St)(Q:Value×List V->St->Prop)(F:Prop):SP P F fun e=>∀pl,cP e MR u (fun v=>getMethod v name pl) c Q:=match u with
 | .ref i=>gq c.aj[i]? (fun o ho=>match o,ho with
  | .vals _ _,hs=>gq (qU name) (fun id hm=>⟨Q (.builtin id,[.ref i]) c,fun Z Z Z h Z=>gP hs (.inl ⟨_,_,rfl⟩) (kz hm).1 (kz hm).2 h⟩) .no
  | .inst C d,hs=>gq c.aj[d]? (fun o ho=>match o,ho with
   | .dict es,hd=>gq (lO P C name) (fun f hm=>match hl:look es name with
    | none=>⟨Q (.ref f,[.ref i]) c,fun hx e1 Z h Z=>by subst e1;exact qO hx hs hd hm hl h⟩
    | some _=>.no) .no
   | _,_=>.no) .no
  | .box τ,hs=>gq (τ[0]? :Option AO) (fun o ho=>match o,ho with
   | .inst C d,h0=>gq (τ[d]? :Option AO) (fun o ho=>match o,ho with
    | .dict es,hd=>gq (lO P C name) (fun f hm=>match hl:look es name with
     | none=>⟨Q (.ref f,[.ref i]) c,fun hx e1 Z h Z=>by subst e1;exact wi hx hs h0 hd hm hl h⟩
     | some _=>.no) .no
    | _,_=>.no) .no
   | _,_=>.no) .no
  | _,_=>.no) .no
 | _=>.no
def Wo(P:Params)(u:V)(name:Str)(c:St)(Q:V->St->Prop)(F:Prop):SP P F fun e=>cP e VR u (fun v=>getAttr v name true) c Q:=match u with
 | .ref i=>gq c.aj[i]? (fun o ho=>match o,ho with
  | .inst C d,hs=>gq c.aj[d]? (fun o ho=>match o,ho with
   | .dict es,hd=>gq (look es name) (fun v hl=>kW (uN P C name&&lb v) (fun hk=>⟨Q v c,fun hx e1 Z h=>by subst e1;rw[abD]at hk;exact nW hx hs hd hk.1 hl hk.2 h⟩) fun Z=>.no) .no
   | _,_=>.no) .no
  | _,_=>.no) .no
 | _=>.no
abbrev gaW(P:Params)(u:V)(name:Str)(c:St)(Q:V->St->Prop)(F:Prop):Prop:=(Wo P u name c Q F).p
def Wq(P:Params)(u:V)(name:Str)(v:V)(c:St)(Q:Unit->St->Prop)(F:Prop):SP P F fun e=>bM e cD u v (fun o v=>setAttr o name v) c Q:=match u with
 | .ref i=>gq c.aj[i]? (fun o ho=>match o,ho with
  | .inst C d,hs=>gq c.aj[d]? (fun o ho=>match o,ho with
   | .dict es,hd=>kW (setOk P C name&&decide (es.length<900)) (fun hk=>⟨Q () {c with aj:=c.aj.set d (.dict (put es name v))},fun hx e1 Z h=>by subst e1;rw[abD,decide_eq_true_eq]at hk;exact fj hx hs hd hk.1 hk.2 h⟩) fun Z=>.no
   | _,_=>.no) .no
  | _,_=>.no) .no
 | _=>.no
abbrev Fc(P:Params)(u:V)(name:Str)(v:V)(c:St)(Q:Unit->St->Prop)(F:Prop):Prop:=(Wq P u name v c Q F).p
end
noncomputable def Fd(f:Expr->St->(V->St->Prop)->Prop):List Expr->St->(List V->St->Prop)->Prop
 | [],c,Q=>Q [] c
 | y::r,c,Q=>f y c fun a c1=>Fd f r c1 fun as c2=>Q (a::as) c2
noncomputable def iB(y:Expr):Bool:=adp 8 y.ctorIdx&&adp y.ctorIdx 10
noncomputable def nZ(y:Expr):Bool:= [16,19,20,21,23].any (ac1 y.ctorIdx)
noncomputable def J1(f:Expr->St->(Bool->St->Prop)->Prop)(op:BoolOp):List Expr->St->(Bool->St->Prop)->Prop
 | [],c,Q=>Q (match op with | .And=>true | .Or=>false) c
 | y::r,c,Q=>f y c fun b c1=>match op with
  | .And=>fL b (J1 f op r c1 Q) (Q false c1)
  | .Or=>fL b (Q true c1) (J1 f op r c1 Q)
section
variable{e:Fm}{c:St}
theorem lV(hf:∀y c Q,f y c Q->Wp e VR (eval y e.env) c Q):∀(l:List Expr) (c:St) (Q:List V->St->Prop),bK l=true->Fd f l c Q->Wp e qj (spliced (backTo pos (starEach l e.env))) c Q:=by
 intro l;induction l with
 | nil=>exact fun c Q Z h=>aN h
 | cons y r ih=>intro c Q hp h;simp only[bK,acP,abD,ac6]at hp;refine aS (aE hp.1 _ _) ((hf y c _ h).mono fun a c1 h1=>ih c1 _ hp.2 h1)
theorem y7{vs:List Expr}(h:Wp e cD (allTrue op vs e.env) c Q):Wp e cD (isTrue (.BoolOp op vs pos) e.env whole) c Q:=
 fun x ad m aa n R E p=>wpAny_isTrue_BoolOp (h x ad m aa n R E p)
theorem GX(hf:∀y c Q,f y c Q->Wp e cD (isTrue y e.env (eval y e.env)) c Q):∀(l:List Expr) (c:St) (Q:Bool->St->Prop),J1 f op l c Q->Wp e cD (allTrue op l e.env) c Q:=by
 intro l;induction l with
 | nil=>
  intro c Q h;intro x ad m aa n R E p;cases op
  ·exact wpAny_allTrue_And_nil (p _ _ _ _ _ _ _ _ h n (Ext.refl ..) rfl)
  ·exact wpAny_allTrue_Or_nil (p _ _ _ _ _ _ _ _ h n (Ext.refl ..) rfl)
 | cons y r ih=>
  intro c Q h;intro x ad m aa n R E p;cases op
  ·refine wpAny_allTrue_And_cons ((hf y c _ h) x ad m aa n _ E fun b b' c1 h1 dF bx m1 av q1 n1 x1 r1=> ?_);subst r1;cases b
   ·exact p _ _ _ _ _ _ _ _ q1 n1 x1 rfl
   ·exact ih c1 Q q1 _ bx m1 av n1 R E (p.ext x1)
  ·refine wpAny_allTrue_Or_cons ((hf y c _ h) x ad m aa n _ E fun b b' c1 h1 dF bx m1 av q1 n1 x1 r1=> ?_);subst r1;cases b
   ·exact ih c1 Q q1 _ bx m1 av n1 R E (p.ext x1)
   ·exact p _ _ _ _ _ _ _ _ q1 n1 x1 rfl
theorem lX(h:nZ y=true)(env:Env):isTrue y env (eval y env)=(do let v <-eval y env;standAt y.pos;holding [v] (truthy v)):=by cases y <;> first | rfl | exact absurd h ack
end
abbrev TS(e:Fm)(ev:Expr->St->(V->St->Prop)->Prop)(y:Expr):={f:St->(Bool->St->Prop)->Prop // Cx e->(∀y c Q,ev y c Q->Wp e VR (eval y e.env) c Q)->∀c Q,f c Q->Wp e cD (isTrue y e.env (eval y e.env)) c Q}
noncomputable def twF(e:Fm)(ev:Expr->St->(V->St->Prop)->Prop)(ih:∀y,TS e ev y):∀y,TS e ev y
 | .Compare l [op] [r] p=>kW (behindInMarks op r) (fun Z=>⟨_,fun Z Z Z Z h=>h⟩) fun hm=>
   ⟨fun c Q=>ev l c fun a c1=>ev r c1 fun b c2=>cw op a b c2 (fun v c3=>CH v c3 Q (cP e cD v truthy c3 Q)) (bM e VR a b (compareOp op) c2 fun v c3=>cP e cD v truthy c3 Q),
    fun hx hf c Q h=>eB hm ((hf _ _ _ h).mono fun a c1 h1=>(hf _ _ _ h1).mono fun b c2 h2=>(Wn op a b c2 _ _).ok hx (fun v c3 h3=>(GW v c3 Q _).ok hx id h3) id h2)⟩
 | .UnaryOp .Not x _=>⟨fun c Q=>(ih x).1 c fun b c1=>Q (!b) c1,fun hx hf c Q h=>tc ((ih x).2 hx hf _ _ h)⟩
 | .BoolOp op vs _=>⟨J1 (fun y=>(ih y).1) op vs,fun hx hf c Q h=>y7 (GX (fun y=>(ih y).2 hx hf) vs c Q h)⟩
 | y=>kW (nZ y) (fun hp=>⟨fun c Q=>ev y c fun v c1=>CH v c1 Q (cP e cD v truthy c1 Q),fun hx hf c Q h=>jw (lX hp _) ((hf _ _ _ h).mono fun v c1 h1=>(GW v c1 Q _).ok hx id h1)⟩) fun Z=>⟨_,fun Z Z Z Z h=>h⟩
noncomputable def Wr(e:Fm)(ev:Expr->St->(V->St->Prop)->Prop)(n:Nat):∀y,TS e ev y:=Nat.rec (fun Z=>⟨_,fun Z Z Z Z h=>h⟩) (fun Z ih=>twF e ev ih) n
abbrev tw(e:Fm)(ev:Expr->St->(V->St->Prop)->Prop)(n:Nat)(y:Expr):St->(Bool->St->Prop)->Prop:=(Wr e ev n y).1
inductive Bi where
 | len
 | append
 | pop
 | o9
 | max
 | min
noncomputable def Bi.id:Bi->String
 | .len=> "len"
 | .append=> "list.append"
 | .pop=> "list.pop"
 | .o9=> "isinstance"
 | .max=> "max"
 | .min=> "min"
noncomputable def pf(id:String):List Bi->Option Bi
 | []=>none
 | b::r=>cond (decide (id=b.id)) (some b) (pf id r)
noncomputable def LA(id:String):Option Bi:=pf id [.len,.append,.pop,.o9,.max,.min]
theorem qV{id:String}:∀ {l:List Bi},pf id l=some b->id=b.id:=by
 intro l;induction l with
 | nil=>intro h;exact aZ h
 | cons x r ih=>
  intro h;replace h:cond (decide (id=x.id)) (some x) (pf id r)=some b:=h;cases q:decide (id=x.id)with
  | true=>exact aah.inj (q ▸ h:) ▸ of_decide_eq_true q
  | false=>exact ih (q ▸ h:)
theorem wj{id:String}(h:LA id=some b):id=b.id:=qV h
noncomputable def fC:List Int->Int
 | []=>0
 | [a]=>a
 | a::r=>if a<=fC r then a else fC r
theorem jD:∀ {xs:List Int},(∀a∈xs,fC xs<=a)/\(xs≠ []->fC xs∈xs):=by
 intro xs;induction xs with
 | nil=>exact⟨fun Z h=>bg h,fun h=>absurd rfl h⟩
 | cons b r ih=>
  cases r with
  | nil=>exact⟨fun a h=>abH.mp h ▸ acd _,fun Z=>.head _⟩
  | cons c r=>
   rw[show fC (b::c::r)=if b<=fC (c::r)then b else fC (c::r) from rfl];by_cases q:b<=fC (c::r)
   ·rw[if_pos q];exact⟨fun a h=>(abi.mp h).elim (fun z=>z ▸ acd _) fun h=>acC q (ih.1 a h),fun Z=>.head _⟩
   ·rw[if_neg q];exact⟨fun a h=>(abi.mp h).elim (fun z=>z ▸ ac0 (Int.not_le.mp q)) (ih.1 a),fun Z=>.tail _ (ih.2 (List.cons_ne_nil _ _))⟩
theorem wk(h:M∈xs)(k:∀a∈xs,M<=a):fC xs=M:=ace (jD.1 M h) (k _ (jD.2 (List.ne_nil_of_mem h)))
theorem uW{α:Type}{d:α}:∀ {xs:List α},0<xs.length->xs=xs.take (xs.length-1)++ [xs.getD (xs.length-1) d]:=by
 intro xs h;have h1:xs.length-1<xs.length:=ba 1857870141720 (cA (bY 2965018904 h));rw[(show xs.getD (xs.length-1) d=xs[xs.length-1] from by simp[acU,h1])]
 conv=>lhs;rw[<-(List.take_append_drop (xs.length-1) xs)]
 simp only[acs h1];congr 2;rw[ac2 eH]
theorem GY(hz:a.length<=100000)(h:Q (.pv (.int a.length)) c):cN e VR [.pv (.str a)] (fun vs=>call (.builtin "len") vs) c Q:=by refine .x7 (.s fun x ad m aa t n R E q=> ?_);refine P.len_str (by rw[eR];lia) (q _ _ _ x.heap (x.toks+1+1) _ _ _ h n (Ext.refl ..) ⟨x.toks+1,?_⟩);rw[eR]
theorem ints_of:∀ {xs:List Int} {its:List Value},aM (VP aa) (xs.map (Kd.inj .int)) its->IntsAre its xs:=by
 intro xs;induction xs with
 | nil=>intro _ h;cases h;exact .nil
 | cons x xs ih=>
  intro _ h;cases h with
  | cons h1 h2=>obtain⟨t,rfl⟩:=h1;exact .cons x t (ih h2)
section
variable{e:Fm}{c:St}
theorem wm{xs:List kd.ty}{q':kd.ty}(hs:c.aj[i]? =some (.vals kd xs))(hq:kd.Gu q=some q')(h:xs.length<100000/\Q (.pv .none) {c with aj:=c.aj.set i (.vals kd (xs++ [q']))}):cN e VR [.ref i,.pv q] (fun dc=>call (.builtin Bi.append.id) dc) c Q:=by exact(Kd.uG hq) ▸ ed hs h.1 h.2
theorem y8(hd:decide (T= "str")=true)(h:Q (.pv (.bool true)) c):cN e VR [.pv (.str x),.glob (.type T)] (fun dc=>call (.builtin Bi.o9.id) dc) c Q:=by cases of_decide_eq_true hd;rintro x ad m aa _ n (_ | ⟨⟨t,rfl⟩,_ | ⟨rfl,_ | _⟩⟩) R E q;exact IsiPair.str_str (q _ _ _ _ _ _ _ _ h n (Ext.refl ..) rfl)
theorem LB(hx:Cx e)(h:Q (.pv (.int (if b > a then b else a))) c):cN e VR [.pv (.int a),.pv (.int b)] (fun dc=>call (.builtin Bi.max.id) dc) c Q:=by
 refine .of2 (.ii fun x ad m aa t u n R E q=>max_two_ints hx.hh fun h' tk hk=> ?_);have nn:=n.heap (n.F.grownK hk) (n.N.grown hk);split
 ·rename_i hg;rw[if_pos hg]at h;exact q _ _ _ _ _ _ _ _ h nn (Ext.refl ..) ⟨_,rfl⟩
 ·rename_i hg;rw[if_neg hg]at h;exact q _ _ _ _ _ _ _ _ h nn (Ext.refl ..) ⟨_,rfl⟩
theorem LC(hx:Cx e)(hs:c.aj[i]? =some (.vals .int xs))(h:0<xs.length/\Q (.pv (.int (fC xs))) c):cN e VR [.ref i] (fun dc=>call (.builtin Bi.min.id) dc) c Q:=by refine .x7 fun x ad m aa Z n r R E q=> ?_;obtain⟨a,ob,rfl,ha,hm,⟨its,k',rfl,hi,hz⟩,ho⟩:=n.at hs r;refine min_list_N hx.hh n.F n.N (aO ho) (ints_of hi) h.1 fun h' M t tk F' N' hM hle=> ?_;rw[wk hM hle]at h;exact q _ _ _ _ _ _ _ _ h.2 (n.heap F' N') (Ext.refl ..) ⟨_,rfl⟩
noncomputable def biS(b:Bi)(vs:List V)(c:St)(Q:V->St->Prop)(F:Prop):SF F fun e=>cN e VR vs (fun dc=>call (.builtin b.id) dc) c Q:=match b,vs with
 | .len,[.ref i]=>gq c.aj[i]? (fun o ho=>match o,ho with
  | .vals _ xs,hs=>⟨Q (.pv (.int xs.length)) c,fun Z Z h=>uL hs (.inl ⟨_,_,rfl,rfl⟩) h⟩
  | .refs xs,hs=>⟨Q (.pv (.int xs.length)) c,fun Z Z h=>uL hs (.inr ⟨_,rfl,rfl⟩) h⟩
  | _,_=>.no) .no
 | .len,[.pv (.str a)]=>⟨a.length<=100000/\Q (.pv (.int a.length)) c,fun Z Z h=>GY h.1 h.2⟩
 | .append,[.ref i,.pv q]=>gq c.aj[i]? (fun o ho=>match o,ho with
  | .vals kd xs,hs=>gq (kd.Gu q) (fun q' hq=>⟨xs.length<100000/\Q (.pv .none) {c with aj:=c.aj.set i (.vals kd (xs++ [q']))},fun Z Z h=>wm hs hq h⟩) .no
  | _,_=>.no) .no
 | .pop,[.ref i]=>gq c.aj[i]? (fun o ho=>match o,ho with
  | .vals kd xs,hs=>⟨0<xs.length/\Q (.pv (kd.inj (xs.getD (xs.length-1) kd.dflt))) {c with aj:=c.aj.set i (.vals kd (xs.take (xs.length-1)))},fun Z Z h=>E3 (by rw[hs];exact congrArg (fun l=>some (AO.vals _ l)) (uW h.1)) h.2⟩
  | _,_=>.no) .no
 | .o9,[.pv (.str _),.glob (.type T)]=>kW (decide (T= "str")) (fun hd=>⟨Q (.pv (.bool true)) c,fun Z Z h=>y8 hd h⟩) fun Z=>.no
 | .max,[.pv (.int a),.pv (.int b)]=>⟨Q (.pv (.int (if b > a then b else a))) c,fun hx Z h=>LB hx h⟩
 | .min,[.ref i]=>gq c.aj[i]? (fun o ho=>match o,ho with
  | .vals .int xs,hs=>⟨0<xs.length/\Q (.pv (.int (fC xs))) c,fun hx Z h=>LC hx hs h⟩
  | _,_=>.no) .no
 | _,_=>.no
abbrev biW(b:Bi)(vs:List V)(c:St)(Q:V->St->Prop)(F:Prop):Prop:=(biS b vs c Q F).p
noncomputable def LD(T:String)(vs:List V)(c:St)(Q:V->St->Prop)(F:Prop):SF F fun e=>cN e VR vs (fun dc=>call (.type T) dc) c Q:=
 kW (decide (T= "type")) (fun hd=>match vs with
  | [.pv (.int _)]=>⟨Q (.glob (.type "int")) c,fun Z Z h=>by cases of_decide_eq_true hd;rintro x ad m aa _ n (_ | ⟨⟨t,rfl⟩,_ | _⟩) R E q;exact call_type_of (typeIs_int _ _ _) (by decide) (q _ _ _ _ _ _ _ _ h n (Ext.refl ..) rfl)⟩
  | [.pv (.str _)]=>⟨Q (.glob (.type "str")) c,fun Z Z h=>by cases of_decide_eq_true hd;rintro x ad m aa _ n (_ | ⟨⟨t,rfl⟩,_ | _⟩) R E q;exact call_type_of (typeIs_str _ _ _) (by decide) (q _ _ _ _ _ _ _ _ h n (Ext.refl ..) rfl)⟩
  | _=>.no) fun Z=>kW (decide (T= "int")) (fun hd=>match vs with
  | [.pv (.int i)]=>⟨Q (.pv (.int i)) c,fun Z Z h=>by cases of_decide_eq_true hd;rintro x ad m aa _ n (_ | ⟨⟨t,rfl⟩,_ | _⟩) R E q;exact call_int_int (q _ _ _ _ _ _ _ _ h n (Ext.refl ..) ⟨_,rfl⟩)⟩
  | _=>.no) fun Z=>.no
noncomputable def Fe(e:Fm)(f:Value)(vs:List V)(c:St)(Q:V->St->Prop):{p:Prop // Cx e->p->cN e VR vs (fun dc=>call f dc) c Q}:=match f with
 | .ref a=>⟨af e vs (.ref a) c.aj fun v σ=>Q v ⟨c.loc,σ⟩,fun Z h=>af.op h⟩
 | .builtin id=>gq (LA id) (fun b hb=>⟨biW b vs c Q (cN e VR vs (fun dc=>call (.builtin id) dc) c Q),fun hx h=>by cases wj hb;exact(biS b vs c Q _).ok hx (fun z=>z) h⟩) ⟨_,fun Z h=>h⟩
 | .type T=>⟨(LD T vs c Q (cN e VR vs (fun dc=>call (.type T) dc) c Q)).p,fun hx h=>(LD T vs c Q _).ok hx (fun z=>z) h⟩
 | _=>⟨_,fun Z h=>h⟩
abbrev gD(e:Fm)(f:Value)(vs:List V)(c:St)(Q:V->St->Prop):Prop:=(Fe e f vs c Q).1
theorem lY(hx:Cx e)(f:Value)(vs:List V)(c:St)(Q:V->St->Prop)(h:gD e f vs c Q):cN e VR vs (fun dc=>call f dc) c Q:=(Fe e f vs c Q).2 hx h
end
abbrev ES(e:Fm)(P:Params)(sc:Scope)(y:Expr):={f:St->(V->St->Prop)->Prop // Cx e->e.w.params=P->e.scope=sc->∀c Q,f c Q->Wp e VR (eval y e.env) c Q}
def LF(P:Params)(f:Value)(X:Prop):Prop:=match eY P f with
 | true=>X
 | false=>False
theorem pg{X:Prop}(h:LF P f X):eY P f=true/\X:=by
 unfold LF at h;cases k:eY P f
 ·rw[k]at h;exact h.elim
 ·rw[k]at h;exact⟨rfl,h⟩
def ewF(e:Fm)(P:Params)(sc:Scope)(n:Nat)(ih:∀y,ES e P sc y):∀y,ES e P sc y
 | .Constant k i pos=>⟨fun c Q=>(y6 k i pos c Q (Wp e VR (eval (.Constant k i pos) e.env) c Q)).p,fun hx Z Z c Q h=>(y6 k i pos c Q _).ok hx (fun z=>z) h⟩
 | .Name x pos=>⟨fun c Q=>cM P sc x c Q (Wp e VR (eval (.Name x pos) e.env) c Q),fun hx e1 e2 c Q h=>(uV P sc x c Q _).2 hx e1 e2 (fun z=>z) h⟩
 | .BinOp l op r _=>⟨fun c Q=>(ih l).1 c fun a c1=>(ih r).1 c1 fun b c2=>bw op a b c2 Q (bM e VR a b (binaryOp op) c2 Q),
  fun hx e1 e2 c Q h=>fR (((ih l).2 hx e1 e2 _ _ h).mono fun a c1 h1=>((ih r).2 hx e1 e2 _ _ h1).mono fun b c2 h2=>(bwS op a b c2 Q _).ok hx (fun z=>z) h2)⟩
 | .UnaryOp .USub x _=>⟨fun c Q=>(ih x).1 c fun a c1=>(match a with
   | .pv (.int i)=>Q (.pv (.int (-i))) c1
   | a=>cP e VR a (unaryOp .USub) c1 Q),
  fun hx e1 e2 c Q h=>uJ (((ih x).2 hx e1 e2 _ _ h).mono fun a c1 h1=>match a,h1 with
   | .pv (.int i),h1=>Lo h1
   | .pv .none,h1=>h1
   | .pv (.bool _),h1=>h1
   | .pv (.str _),h1=>h1
   | .pv (.tup _),h1=>h1
   | .ref _,h1=>h1
   | .glob _,h1=>h1
   | .any,h1=>h1)⟩
 | .Compare l [op] [r] pos=>kW (behindInMarks op r) (fun Z=>⟨_,fun Z Z Z Z Z h=>h⟩) fun hm=>⟨fun c Q=>(ih l).1 c fun a c1=>(ih r).1 c1 fun b c2=>cw op a b c2 Q (bM e VR a b (compareOp op) c2 Q),
  fun hx e1 e2 c Q h=>v7 hm (((ih l).2 hx e1 e2 _ _ h).mono fun a c1 h1=>((ih r).2 hx e1 e2 _ _ h1).mono fun b c2 h2=>(Wn op a b c2 Q _).ok hx (fun Z Z z=>z) (fun z=>z) h2)⟩
 | .Subscript v sl pos=>kW (isSlice sl) (fun Z=>⟨_,fun Z Z Z Z Z h=>h⟩) fun hs=>⟨fun c Q=>(ih v).1 c fun a c1=>(ih sl).1 c1 fun b c2=>(swS v sl hs a b c2 Q (bM e VR a b (subscriptTail v sl) c2 Q)).p,
  fun hx e1 e2 c Q h=>dj (((ih v).2 hx e1 e2 _ _ h).mono fun a c1 h1=>((ih sl).2 hx e1 e2 _ _ h1).mono fun b c2 h2=>(swS v sl hs a b c2 Q _).ok hx (fun z=>z) h2)⟩
 | .IfExp t a b _=>⟨fun c Q=>tw e (fun y=>(ih y).1) n t c fun d c1=>fL d ((ih a).1 c1 Q) ((ih b).1 c1 Q),
  fun hx e1 e2 c Q h=>uQ (((Wr e _ n t).2 hx (fun y=>(ih y).2 hx e1 e2) _ _ h).mono fun d c1 h1=>⟨fun z=>(ih a).2 hx e1 e2 _ _ ((iO h1).1 z),fun z=>(ih b).2 hx e1 e2 _ _ ((iO h1).2 z)⟩)⟩
 | .Attribute o name pos=>kW (cS o) (fun hs=>⟨fun c Q=>(ih o).1 c fun u c1=>gaW P u name c1 Q (cP e VR u (fun v=>getAttr v name true) c1 Q),
  fun hx e1 e2 c Q h=>b6 hs (((ih o).2 hx e1 e2 _ _ h).mono fun u c1 h1=>(Wo P u name c1 Q _).ok hx e1 (fun z=>z) h1)⟩) fun Z=>⟨_,fun Z Z Z Z Z h=>h⟩
 | .List elts pos=>kW (bK elts) (fun hp=>⟨fun c Q=>Fd (fun y=>(ih y).1) elts c fun vs c1=>(match lQ vs with
    | some o=>vs.length<=100000/\Q (.ref c1.aj.length) {c1 with aj:=c1.aj++ [o]}
    | none=>False),
  fun hx e1 e2 c Q h=>yU ((lV (fun y=>(ih y).2 hx e1 e2) _ _ _ hp h).mono fun vs c1 h1=>by
   cases ho:lQ vs with
   | none=>rw[ho]at h1;exact h1.elim
   | some o=>rw[ho]at h1;exact⟨o,rfl,h1⟩)⟩) fun Z=>⟨_,fun Z Z Z Z Z h=>h⟩
 | .Tuple elts k pos=>kW (bK elts) (fun hp=>⟨fun c Q=>Fd (fun y=>(ih y).1) elts c fun vs c1=>(match iy vs with
    | some ns=>vs.length<=100000/\Q (.pv (.tup ns)) c1
    | none=>False),
  fun hx e1 e2 c Q h=>Cy ((lV (fun y=>(ih y).2 hx e1 e2) _ _ _ hp h).mono fun vs c1 h1=>by
   cases ho:iy vs with
   | none=>rw[ho]at h1;exact h1.elim
   | some o=>rw[ho]at h1;exact⟨o,rfl,h1⟩)⟩) fun Z=>⟨_,fun Z Z Z Z Z h=>h⟩
 | .Call (.Name x p) args [] pos=>kW (bK args) (fun ph=>⟨fun c Q=>cM P sc x c (fun gg c1=>(match gg with
    | .glob f=>LF P f (Fd (fun y=>(ih y).1) args c1 fun vs c2=>gD e f vs c2 Q)
    | _=>False)) False,
  fun hx e1 e2 c Q h=>dm hx ph (((uV P sc x c _ _).2 hx e1 e2 False.elim h).mono fun g c1 h1=>match g,h1 with
   | .glob f,h1=>⟨f,rfl,by rw[e1];exact(pg h1).1,(lV (fun y=>(ih y).2 hx e1 e2) _ _ _ ph (pg h1).2).mono fun vs c2 h2=>lY hx _ _ _ _ h2⟩)⟩) fun Z=>⟨_,fun Z Z Z Z Z h=>h⟩
 | .Call (.Attribute o name apos) args [] pos=>kW (bK args&&(cS o&&decide (args.length<30)&&(apos.endLine==pos.line))) (fun hc=>⟨fun c Q=>(ih o).1 c fun u c1=>
   (mwS P u name c1 (fun fm c2=>LF P fm.1 (Fd (fun y=>(ih y).1) args c2 fun vs c3=>gD e fm.1 (fm.2++vs) c3 Q)) (∀pl,cP e MR u (fun v=>getMethod v name pl) c1 fun fm c2=>LF P fm.1 (Fd (fun y=>(ih y).1) args c2 fun vs c3=>gD e fm.1 (fm.2++vs) c3 Q))).p,
  fun hx e1 e2 c Q h=>by simp only[abD,decide_eq_true_eq]at hc;exact dp hx hc.2.1.1 hc.1 hc.2.1.2 hc.2.2 (((ih o).2 hx e1 e2 _ _ h).mono fun u c1 h1 pl=>((mwS P u name c1 _ _).ok hx e1 (fun z=>z) h1 pl).mono fun fm c2 q=>⟨by rw[e1];exact(pg q).1,(lV (fun y=>(ih y).2 hx e1 e2) _ _ _ hc.1 (pg q).2).mono fun vs c3 h3=>lY hx _ _ _ _ h3⟩)⟩) fun Z=>⟨_,fun Z Z Z Z Z h=>h⟩
 | _=>⟨_,fun Z Z Z Z Z h=>h⟩
def Ws(e:Fm)(P:Params)(sc:Scope)(n:Nat):∀y,ES e P sc y:=Nat.rec (fun Z=>⟨_,fun Z Z Z Z Z h=>h⟩) (fun n ih=>ewF e P sc n ih) n
abbrev ew(e:Fm)(P:Params)(sc:Scope)(n:Nat)(y:Expr):St->(V->St->Prop)->Prop:=(Ws e P sc n y).1
section
variable{e:Fm}{c:St}
theorem Ff(hx:Cx e)(hf:∀y c Q,ev y c Q->Wp e VR (eval y e.env) c Q)(n:Nat)(y:Expr)(c:St)(Q:Bool->St->Prop)(h:tw e ev n y c Q):Wp e cD (isTrue y e.env (eval y e.env)) c Q:=(Wr e ev n y).2 hx hf c Q h
theorem iC(hx:Cx e)(n:Nat)(y:Expr)(c:St)(Q:V->St->Prop)(h:ew e e.w.params e.scope n y c Q):Wp e VR (eval y e.env) c Q:=(Ws e _ _ n y).2 hx rfl rfl c Q h
end
noncomputable def cZ(f:Stmt->St->(AF->St->Prop)->Prop):List Stmt->St->(AF->St->Prop)->Prop
 | [],c,Q=>Q .next c
 | y::r,c,Q=>f y c fun fl c1=>match fl with
  | .next=>cZ f r c1 Q
  | fl=>Q fl c1
section
variable{e:Fm}{c:St}
theorem aH(h:iB v=false)(t:Option Expr)(l:Nat)(env:Env):swapsWith v t l env=pure false:=by cases v <;> first | rfl | exact absurd h.symm ack
theorem tg(hf:∀y c Q,f y c Q->Wp e bN (exec y e.env) c Q):∀(l:List Stmt) (c:St) (Q:AF->St->Prop),cZ f l c Q->Wp e bN (execs l e.env) c Q:=by
 intro l;induction l with
 | nil=>exact fun c Q h=>cQ h
 | cons y r ih=>
  exact fun c Q h=>aT ((hf y c _ h).mono fun fl c1 h1=>by
  cases fl with
  | next=>exact ih c1 Q h1
  | brk=>exact h1
  | cont=>exact h1
  | ret v=>exact h1)
theorem y9(hs:c.aj[i]? =some (.refs xs))(h1:n<xs.length)(h:Q () {c with aj:=c.aj.set i (.refs (xs.set n j))}):cN e cD [.ref i,.pv (.int (.ofNat n)),.ref j] nk c Q:=by
 refine .VJ fun x ad m aa _ _ _ nw r Lg rv R E q=> ?_;obtain⟨t,rfl⟩:=Lg;rename_i v;obtain⟨a,ob,rfl,ha,hm,⟨its,k',rfl,hi,hz⟩,ho⟩:=nw.at hs r;refine ki_setAt ho (aa1 _) (by simp;exact ba 0x8000000000000000efb089186a05f191b09920 h1 hz) (by simp;exact ab3 h1 (bh hi.length)) (q () () _ _ _ _ _ _ h (nw.upd (ob':=listOf (its.set n v).toArray k') hs ha hm (by simp) ?_ ?_ ?_) (cf nw.nd (Ad.bk ha) hm (by simp)) rfl)
 ·exact nw.F.change (Heap.SameBut.update ..) (nw.N _ hm).2.1 (nw.N _ hm).2.2
 ·obtain⟨pre,post,e1,e2,a1,b1⟩:=(cJ (o':=listOf (its.set n v).toArray k') nw.nd hm).split;simp only[e2];have N:=nw.N;simp only[e1]at N;refine ki_turn _ N a1 b1 ?_ ?_
  ·apply Array.toList_inj.mp;simp
  ·simp
 ·have x':Ext ad aa ad (bB aa a (listOf (its.set n v).toArray k')):=cf nw.nd (Ad.bk ha) hm (by simp);exact⟨_,_,rfl,(hi.mono fun _ _=>RR.mono x'.gr).set _ (RR.mono x'.gr rv),by simpa using hz⟩
theorem th{k:Int}{xs:List kd.ty}{q':kd.ty}(hs:c.aj[i]? =some (.vals kd xs))(hq:kd.Gu q=some q')(h:(0<=k/\k<xs.length)/\Q () {c with aj:=c.aj.set i (.vals kd (xs.set k.toNat q'))}):cN e cD [.ref i,.pv (.int k),.pv q] nk c Q:=by exact(Kd.uG hq) ▸ v8 hs h.1.1 h.1.2 h.2
noncomputable def GZ(a b v:V)(c:St)(Q:Unit->St->Prop)(F:Prop):SF F fun e=>cN e cD [a,b,v] nk c Q:=match a,b,v with
 | .ref i,.pv (.int k),.pv q=>gq c.aj[i]? (fun o ho=>match o,ho with
  | .vals kd xs,hs=>gq (kd.Gu q) (fun q' hq=>⟨(0<=k/\k<xs.length)/\Q () {c with aj:=c.aj.set i (.vals kd (xs.set k.toNat q'))},fun Z Z h=>th hs hq h⟩) .no
  | _,_=>.no) .no
 | .ref i,.pv (.int (.ofNat n)),.ref j=>gq c.aj[i]? (fun o ho=>match o,ho with
  | .refs xs,hs=>kW (decide (n<xs.length)) (fun hd=>⟨Q () {c with aj:=c.aj.set i (.refs (xs.set n j))},fun Z Z h=>y9 hs (of_decide_eq_true hd) h⟩) fun Z=>.no
  | _,_=>.no) .no
 | _,_,_=>.no
abbrev LG(a b v:V)(c:St)(Q:Unit->St->Prop)(F:Prop):Prop:=(GZ a b v c Q F).p
theorem wo(hs:c.aj[i]? =some (.vals kd xs))(h:(0<=k/\k<xs.length)/\Q (.pv (kd.inj (xs.getD k.toNat kd.dflt))) c):bM e VR (.ref i) (.pv (.int k)) getItem c Q:=by refine .ai fun x ad m aa Z t n r R E q=> ?_;obtain⟨a,ob,rfl,ha,hm,⟨its,k',rfl,hi,hz⟩,ho⟩:=n.at hs r;obtain⟨v,hv,rv⟩:=hi.get (by rw[aa0,o8 (d:=kd.dflt) h.1.1 h.1.2];rfl);exact wpAny_getItem_list (aO ho) h.1.1 (by have:=h.1.2;lia) (by simpa using hv) (q _ _ _ _ _ _ _ _ h.2 n (Ext.refl ..) rv)
noncomputable def giS(a b:V)(c:St)(Q:V->St->Prop)(F:Prop):SF F fun e=>bM e VR a b getItem c Q:=match a,b with
 | .ref i,.pv (.int k)=>gq c.aj[i]? (fun o ho=>match o,ho with
  | .vals kd xs,hs=>⟨(0<=k/\k<xs.length)/\Q (.pv (kd.inj (xs.getD k.toNat kd.dflt))) c,fun Z Z h=>wo hs h⟩
  | _,_=>.no) .no
 | _,_=>.no
abbrev giW(a b:V)(c:St)(Q:V->St->Prop)(F:Prop):Prop:=(giS a b c Q F).p
def LH(sc:Scope)(x:Str)(hl:look sc.names x=some .cell)(v:V)(c:St)(Q:Unit->St->Prop):{p:Prop // ∀ {e},Cx e->e.scope=sc->p->cP e cD v (storeName e.env x) c Q}:=
 gq (look c.loc x) (fun u hv=>match u,hv with
  | .ref i,hv=>gq c.aj[i]? (fun o ho=>match o,ho with
   | .cell _,hs=>⟨Q () {c with aj:=c.aj.set i (.cell (some v))},fun hx e2 h=>jy hx (by rw[e2];exact hl) hv hs h⟩
   | _,_=>⟨False,fun Z Z h=>h.elim⟩) ⟨False,fun Z Z h=>h.elim⟩
  | _,_=>⟨False,fun Z Z h=>h.elim⟩) ⟨False,fun Z Z h=>h.elim⟩
abbrev XS(e:Fm)(P:Params)(sc:Scope)(y:Stmt):={f:St->(AF->St->Prop)->Prop // Cx e->e.w.params=P->e.scope=sc->∀c Q,f c Q->Wp e bN (exec y e.env) c Q}
noncomputable abbrev XS.no {e:Fm}{P:Params}{sc:Scope}{y:Stmt}:XS e P sc y:=⟨fun c Q=>Wp e bN (exec y e.env) c Q,fun Z Z Z Z Z h=>h⟩
abbrev sI{e:Fm}(hx:Cx e){P:Params}(e1:e.w.params=P){sc:Scope}(e2:e.scope=sc){n:Nat}{y:Expr}{c:St}{Q:V->St->Prop}(h:ew e P sc n y c Q):Wp e VR (eval y e.env) c Q:=(Ws e P sc n y).2 hx e1 e2 c Q h
def xwF(e:Fm)(P:Params)(sc:Scope)(n:Nat)(ih:∀y,XS e P sc y):∀y,XS e P sc y
 | .Assign [.Name x p] value pos=>kW (iB value) (fun Z=>.no) fun hc=>gq (look sc.names x) (fun k hl=>match k,hl with
   | .local,hl=>⟨fun c Q=>ew e P sc n value c fun v c1=>Q .next {c1 with loc:=put c1.loc x v},fun hx e1 e2 c Q h=>cR (aH hc _ _ _) ((sI hx e1 e2 h).mono fun v c1 h1=>cE hx (by rw[e2];exact hl) h1)⟩
   | .cell,hl=>⟨fun c Q=>ew e P sc n value c fun v c1=>(LH sc x hl v c1 fun Z c2=>Q .next c2).1,fun hx e1 e2 c Q h=>cR (aH hc _ _ _) ((sI hx e1 e2 h).mono fun v c1 h1=>(LH sc x hl v c1 _).2 hx e2 h1)⟩
   | _,_=>.no) .no
 | .Assign [.Subscript o i p] value pos=>kW (iB value) (fun Z=>.no) fun hc=>
   ⟨fun c Q=>ew e P sc n value c fun v c1=>ew e P sc n o c1 fun a c2=>ew e P sc n i c2 fun b c3=>LG a b v c3 (fun Z c4=>Q .next c4) (cN e cD [a,b,v] nk c3 fun(_:Unit) c4=>Q .next c4),
    fun hx e1 e2 c Q h=>kx (aH hc _ _ _) ((sI hx e1 e2 h).mono fun v c1 h1=>(sI hx e1 e2 h1).mono fun a c2 h2=>(sI hx e1 e2 h2).mono fun b c3 h3=>(GZ a b v c3 _ _).ok hx (fun z=>z) h3)⟩
 | .Assign [.Attribute o name p] value pos=>kW (iB value) (fun Z=>.no) fun hc=>
   ⟨fun c Q=>ew e P sc n value c fun v c1=>ew e P sc n o c1 fun u c2=>Fc P u name v c2 (fun Z c3=>Q .next c3) (bM e cD u v (fun o v=>setAttr o name v) c2 fun(_:Unit) c3=>Q .next c3),
    fun hx e1 e2 c Q h=>cq (aH hc _ _ _) ((sI hx e1 e2 h).mono fun v c1 h1=>(sI hx e1 e2 h1).mono fun u c2 h2=>(Wq P u name v c2 _ _).ok hx e1 (fun z=>z) h2)⟩
 | .AugAssign (.Name x p) op value pos=>match hl:look sc.names x with
   | some .local=>⟨fun c Q=>(match look c.loc x with
    | some old=>ew e P sc n value c fun v c1=>iw op old v c1 (fun r c2=>Q .next {c2 with loc:=put c2.loc x r}) (bM e VR old v (inplaceOp op) c1 fun r c2=>Q .next {c2 with loc:=put c2.loc x r})
    | none=>False),fun hx e1 e2 c Q h=>by
     cases hv:look c.loc x with
     | none=>dsimp only at h;rw[hv]at h;exact h.elim
     | some old=>dsimp only at h;rw[hv]at h;exact wg hx (by rw[e2];exact hl) hv ((sI hx e1 e2 h).mono fun v c1 h1=>(Uj op old v c1 _ _).ok hx (fun z=>z) h1)⟩
   | _=>.no
 | .AugAssign (.Attribute o name p) op value pos=>
   ⟨fun c Q=>ew e P sc n o c fun u c1=>gaW P u name c1 (fun old c2=>ew e P sc n value c2 fun v c3=>iw op old v c3 (fun r c4=>Fc P u name r c4 (fun Z c5=>Q .next c5) (bM e cD u r (fun o v=>setAttr o name v) c4 fun(_:Unit) c5=>Q .next c5))
    (bM e VR old v (inplaceOp op) c3 fun r c4=>Fc P u name r c4 (fun Z c5=>Q .next c5) (bM e cD u r (fun o v=>setAttr o name v) c4 fun(_:Unit) c5=>Q .next c5)))
    (cP e VR u (fun v=>getAttr v name true) c1 fun old c2=>ew e P sc n value c2 fun v c3=>iw op old v c3 (fun r c4=>Fc P u name r c4 (fun Z c5=>Q .next c5) (bM e cD u r (fun o v=>setAttr o name v) c4 fun(_:Unit) c5=>Q .next c5))
    (bM e VR old v (inplaceOp op) c3 fun r c4=>Fc P u name r c4 (fun Z c5=>Q .next c5) (bM e cD u r (fun o v=>setAttr o name v) c4 fun(_:Unit) c5=>Q .next c5))),
    fun hx e1 e2 c Q h=>jZ ((sI hx e1 e2 h).mono fun u c1 h1=>((Wo P u name c1 _ _).ok hx e1 (fun z=>z) h1).mono fun old c2 h2=>(sI hx e1 e2 h2).mono fun v c3 h3=>((Uj op old v c3 _ _).ok hx (fun z=>z) h3).mono fun r c4 h4=>(Wq P u name r c4 _ _).ok hx e1 (fun z=>z) h4)⟩
 | .AugAssign (.Subscript o i p) op value pos=>kW (isSlice i) (fun Z=>.no) fun hs=>
   ⟨fun c Q=>ew e P sc n o c fun u c1=>ew e P sc n i c1 fun k c2=>giW u k c2 (fun old c3=>ew e P sc n value c3 fun v c4=>iw op old v c4 (fun r c5=>LG u k r c5 (fun Z c6=>Q .next c6) (cN e cD [u,k,r] nk c5 fun(_:Unit) c6=>Q .next c6)) False) False,
    fun hx e1 e2 c Q h=>yV hs ((sI hx e1 e2 h).mono fun u c1 h1=>(sI hx e1 e2 h1).mono fun k c2 h2=>((giS u k c2 _ _).ok hx False.elim h2).mono fun old c3 h3=>(sI hx e1 e2 h3).mono fun v c4 h4=>((Uj op old v c4 _ _).ok hx False.elim h4).mono fun r c5 h5=>(GZ u k r c5 _ _).ok hx (fun z=>z) h5)⟩
 | .Expr v pos=>kW (iB v) (fun Z=>.no) fun hc=>⟨fun c Q=>ew e P sc n v c fun Z c1=>Q .next c1,fun hx e1 e2 c Q h=>gO hx.hk (aH hc _ _ _) (sI hx e1 e2 h)⟩
 | .Return (some v) _=>⟨fun c Q=>ew e P sc n v c fun v c1=>Q (.ret v) c1,fun hx e1 e2 c Q h=>ix (sI hx e1 e2 h)⟩
 | .If t b o _=>⟨fun c Q=>tw e (ew e P sc n) n t c fun d c1=>fL d (cZ (fun y=>(ih y).1) b c1 Q) (cZ (fun y=>(ih y).1) o c1 Q),
   fun hx e1 e2 c Q h=>oX ((Ff hx (fun Z Z Z=>sI hx e1 e2) n _ _ _ h).mono fun d c1 h1=>⟨fun z=>tg (fun y=>(ih y).2 hx e1 e2) _ _ _ ((iO h1).1 z),fun z=>tg (fun y=>(ih y).2 hx e1 e2) _ _ _ ((iO h1).2 z)⟩)⟩
 | .Break _=>⟨fun c Q=>Q .brk c,fun Z Z Z Z Z h=>uK h⟩
 | .Continue _=>⟨fun c Q=>Q .cont c,fun Z Z Z Z Z h=>lK h⟩
 | .Pass _=>⟨fun c Q=>Q .next c,fun Z Z Z Z Z h=>GG h⟩
 | _=>.no
def xwS(e:Fm)(P:Params)(sc:Scope)(n:Nat):∀y,XS e P sc y:=Nat.rec (fun Z=>.no) (fun n ih=>xwF e P sc n ih) n
abbrev xw(e:Fm)(P:Params)(sc:Scope)(n:Nat)(y:Stmt):St->(AF->St->Prop)->Prop:=(xwS e P sc n y).1
theorem uX(hx:Cx e)(n:Nat)(y:Stmt)(c:St)(Q:AF->St->Prop)(h:xw e e.w.params e.scope n y c Q):Wp e bN (exec y e.env) c Q:=(xwS e _ _ n y).2 hx rfl rfl c Q h
theorem iD(hx:Cx e)(h:cZ (xw e e.w.params e.scope 40) l c Q):Wp e bN (execs l e.env) c Q:=tg (uX hx 40) l c Q h
theorem iP(hx:Cx e)(h:tw e (ew e e.w.params e.scope 40) 40 y c Q):Wp e cD (isTrue y e.env (eval y e.env)) c Q:=Ff hx (iC hx 40) 40 _ _ _ h
theorem bJ(hx:Cx e)(hs:e.scope=sc)(h:cZ (xw e e.w.params sc 40) l c Q):Wp e bN (execs l e.env) c Q:=by subst hs;exact iD hx h
theorem jE(hx:Cx e)(hs:e.scope=sc)(h:tw e (ew e e.w.params sc 40) 40 y c Q):Wp e cD (isTrue y e.env (eval y e.env)) c Q:=by subst hs;exact iP hx h
end
theorem j5{α:Type}{l:List α}(h:l.length=n+1):∃a t,l=a::t/\t.length=n:=by
 cases l with
 | nil=>exact KY h
 | cons a t=>exact⟨a,t,rfl,Nat.succ.inj h⟩
theorem je{α:Type}{l:List α}(h:l.length=1):∃a,l= [a]:=dy (j5 h) fun a Z e h=>⟨a,by exact e ▸ (acT h) ▸ rfl⟩
theorem iW{α:Type}{l:List α}(h:l.length=2):∃a b,l= [a,b]:=dy (j5 h) fun a Z e h=>aA (je h) fun b e2=>⟨a,b,by exact e ▸ e2 ▸ rfl⟩
theorem G0{α:Type}{l:List α}(h:l.length=3):∃a b c,l= [a,b,c]:=dy (j5 h) fun a Z e h=>eP (iW h) fun b c e2=>⟨a,b,c,by exact e ▸ e2 ▸ rfl⟩
def at_(l:List Stmt)(n:Nat):Stmt:=(l[n]?).getD Cf
def FnAt(P:Params)(f:Addr)(x:Stmt)(qual:Str)(dV:Value):Prop:=
 ∃kV doc pm an dS ct,(KK P).lookup f=some ⟨.type "function",none,.func (fnOf (fnName x) qual (fy x) (ar x) (au x) dV kV doc pm an dS ct),#[]⟩/\codeIn (KK P) dS qual=true/\
  ((au x).isCoroutine||(au x).isGenerator||(au x).kind != .function|| !fS (au x))=false
theorem Wt(P:Params):FnAt P 923 (st 34) (s "_law_word") .none:=⟨.none,.none,(vs "law_om0195_01" 1428),none,(.ref 922),.none,by kernel_rfl,by kernel_rfl,by kernel_rfl⟩
theorem Wu(P:Params):FnAt P 928 (st 35) (s "_law_written") .none:=⟨.none,.none,(vs "law_om0195_01" 1428),none,(.ref 927),.none,by kernel_rfl,by kernel_rfl,by kernel_rfl⟩
theorem Wv(P:Params):FnAt P 935 (st 36) (s "_law_send") .none:=⟨.none,.none,(vs "law_om0195_01" 1428),none,(.ref 934),.none,by kernel_rfl,by kernel_rfl,by kernel_rfl⟩
theorem LI(P:Params):FnAt P 942 (st 37) (s "_law_take") .none:=⟨.none,.none,(vs "law_om0195_01" 1428),none,(.ref 941),.none,by kernel_rfl,by kernel_rfl,by kernel_rfl⟩
theorem Ww(P:Params):FnAt P 954 (st 39) (s "_law_empty_lines") .none:=⟨.none,.none,(vs "law_om0195_01" 1428),none,(.ref 953),.none,by kernel_rfl,by kernel_rfl,by kernel_rfl⟩
theorem Wx(P:Params):FnAt P 208 (st 11) (s "heappush") .none:=⟨.none,.none,(vs "cpy313.heapq" 528),none,(.ref 207),.none,by kernel_rfl,by kernel_rfl,by kernel_rfl⟩
theorem Wy(P:Params):FnAt P 215 (st 12) (s "heappop") .none:=⟨.none,.none,(vs "cpy313.heapq" 528),none,(.ref 214),.none,by kernel_rfl,by kernel_rfl,by kernel_rfl⟩
theorem Wz(P:Params):FnAt P 222 (st 13) (s "_siftdown") .none:=⟨.none,.none,(vs "cpy313.heapq" 528),none,(.ref 221),.none,by kernel_rfl,by kernel_rfl,by kernel_rfl⟩
theorem WA(P:Params):FnAt P 229 (st 14) (s "_siftup") .none:=⟨.none,.none,(vs "cpy313.heapq" 528),none,(.ref 228),.none,by kernel_rfl,by kernel_rfl,by kernel_rfl⟩
theorem WB(P:Params):FnAt P 243 (st 17) (s "_index") .none:=⟨.none,.none,(vs "io" 572),none,(.ref 242),.none,by kernel_rfl,by kernel_rfl,by kernel_rfl⟩
theorem f53(P:Params):FnAt P 53 (cst 3 0) (s "_netrclex.__init__") .none:=⟨.none,.none,(vs "cpy313.netrc" 286),none,(.ref 52),.none,by kernel_rfl,by kernel_rfl,by kernel_rfl⟩
theorem f60(P:Params):FnAt P 60 (cst 3 1) (s "_netrclex._read_char") .none:=⟨.none,.none,(vs "cpy313.netrc" 286),none,(.ref 59),.none,by kernel_rfl,by kernel_rfl,by kernel_rfl⟩
theorem WC(P:Params):FnAt P 67 (cst 3 2) (s "_netrclex.get_token") .none:=⟨.none,.none,(vs "cpy313.netrc" 286),none,(.ref 66),.none,by kernel_rfl,by kernel_rfl,by kernel_rfl⟩
theorem f74(P:Params):FnAt P 74 (cst 3 3) (s "_netrclex.push_token") .none:=⟨.none,.none,(vs "cpy313.netrc" 286),none,(.ref 73),.none,by kernel_rfl,by kernel_rfl,by kernel_rfl⟩
theorem f96(P:Params):FnAt P 96 (cst 7 1) (s "_NodeInfo.__init__") .none:=⟨.none,.none,(vs "cpy313.graphlib" 346),none,(.ref 95),.none,by kernel_rfl,by kernel_rfl,by kernel_rfl⟩
theorem WD(P:Params):FnAt P 133 (cst 9 0) (s "TopologicalSorter.__init__") (.ref 126):=⟨.none,.none,(vs "cpy313.graphlib" 346),none,(.ref 132),.none,by kernel_rfl,by kernel_rfl,by kernel_rfl⟩
theorem LJ(P:Params):FnAt P 140 (cst 9 1) (s "TopologicalSorter._get_nodeinfo") .none:=⟨.none,.none,(vs "cpy313.graphlib" 346),none,(.ref 139),.none,by kernel_rfl,by kernel_rfl,by kernel_rfl⟩
theorem WE(P:Params):FnAt P 147 (cst 9 2) (s "TopologicalSorter.add") .none:=⟨.none,.none,(vs "cpy313.graphlib" 346),none,(.ref 146),.none,by kernel_rfl,by kernel_rfl,by kernel_rfl⟩
theorem WG(P:Params):FnAt P 152 (cst 9 3) (s "TopologicalSorter.prepare") .none:=⟨.none,.none,(vs "cpy313.graphlib" 346),none,(.ref 151),.none,by kernel_rfl,by kernel_rfl,by kernel_rfl⟩
theorem WH(P:Params):FnAt P 159 (cst 9 4) (s "TopologicalSorter.get_ready") .none:=⟨.none,.none,(vs "cpy313.graphlib" 346),none,(.ref 158),.none,by kernel_rfl,by kernel_rfl,by kernel_rfl⟩
theorem WI(P:Params):FnAt P 166 (cst 9 5) (s "TopologicalSorter.is_active") .none:=⟨.none,.none,(vs "cpy313.graphlib" 346),none,(.ref 165),.none,by kernel_rfl,by kernel_rfl,by kernel_rfl⟩
theorem WJ(P:Params):FnAt P 180 (cst 9 7) (s "TopologicalSorter.done") .none:=⟨.none,.none,(vs "cpy313.graphlib" 346),none,(.ref 179),.none,by kernel_rfl,by kernel_rfl,by kernel_rfl⟩
theorem WK(P:Params):FnAt P 187 (cst 9 8) (s "TopologicalSorter._find_cycle") .none:=⟨.none,.none,(vs "cpy313.graphlib" 346),none,(.ref 186),.none,by kernel_rfl,by kernel_rfl,by kernel_rfl⟩
theorem WL(P:Params):FnAt P 270 (cst 19 1) (s "IOBase.__new__") .none:=⟨.none,.none,(vs "io" 572),none,(.ref 269),.none,by kernel_rfl,by kernel_rfl,by kernel_rfl⟩
theorem WM(P:Params):FnAt P 547 (cst 23 1) (s "StringIO.__init__") (.ref 540):=⟨.none,.none,(vs "io" 572),none,(.ref 546),.none,by kernel_rfl,by kernel_rfl,by kernel_rfl⟩
theorem WN(P:Params):FnAt P 554 (cst 23 2) (s "StringIO.__translated") .none:=⟨.none,.none,(vs "io" 572),none,(.ref 553),.none,by kernel_rfl,by kernel_rfl,by kernel_rfl⟩
theorem WO(P:Params):FnAt P 561 (cst 23 3) (s "StringIO.__check") .none:=⟨.none,.none,(vs "io" 572),none,(.ref 560),.none,by kernel_rfl,by kernel_rfl,by kernel_rfl⟩
theorem WQ(P:Params):FnAt P 723 (cst 23 25) (s "StringIO.read") (.ref 716):=⟨.none,.none,(vs "io" 572),none,(.ref 722),.none,by kernel_rfl,by kernel_rfl,by kernel_rfl⟩
theorem WR(P:Params):FnAt P 836 (cst 32 0) (s "shlex.__init__") (.ref 829):=⟨.none,.none,(vs "cpy313.shlex" 1287),none,(.ref 835),.none,by kernel_rfl,by kernel_rfl,by kernel_rfl⟩
theorem of_eq{X Y:Prop}(h:X=Y)(y:Y):X:=h ▸ y
theorem lZ(hx:Cx e)(hk:e.k=k+1)(hf:FnAt e.w.params f x qual dV){names:List Str}(V9:∀ad aa,aM (VR ad aa) ds dvs) (hb:∀(kV doc pm dS ct:Value) an (x':Shared) (vs:List Value),(KK e.w.params).In x'.heap->vs.length=us.length->BindsTo x' (fnOf (fnName x) qual (fy x) (ar x) (au x) dV kV doc pm an dS ct) ⟨vs,[]⟩ (names.zip (vs++dvs))) (eC:(decide names.Nodup&&names.all fun y=>decide ((au x).names.lookup y=some .local))=true) (h:∀e':Fm,Cx e'->e'.w=e.w->e'.k=k->e'.scope=au x->Wp e' bN (execs (ar x) e'.env) ⟨names.zip (us++ds),σ⟩ (oW Q)):af e us (.ref f) σ Q:=by refine sW hf fun kV doc pm an dS ct ho mY hs=> ?_;simp only[ac5]at hs;refine aI hs fun WS h4=> ?_;obtain⟨⟨h1,h2⟩,h3⟩:=WS;simp only[abD,decide_eq_true_eq]at eC;exact V7 hx hk ho mY V9 (fun x' vs hX hv=>hb _ _ _ _ _ _ x' vs hX hv) eC.1 eC.2 h1 h2 (by simpa using h3) (by simpa using h4) h
theorem df(hx:Cx e)(hk:e.k=k+1)(hf:FnAt e.w.params f x qual dV){names:List Str} (hb:∀(kV doc pm dS ct:Value) an (vs:List Value),vs.length=us.length->bindArgs (fnOf (fnName x) qual (fy x) (ar x) (au x) dV kV doc pm an dS ct) ⟨vs,[]⟩=pure (names.zip vs)) (eC:(decide names.Nodup&&names.all fun y=>decide ((au x).names.lookup y=some .local))=true) (h:∀e':Fm,Cx e'->e'.w=e.w->e'.k=k->e'.scope=au x->Wp e' bN (execs (ar x) e'.env) ⟨names.zip us,σ⟩ (oW Q)):af e us (.ref f) σ Q:=
 lZ hx hk hf (fun Z Z=>.nil) (fun kV doc pm dS ct an x' vs Z hv=>by simp only[ab5];exact BindsTo.of_eq (hb kV doc pm dS ct an vs hv)) eC (by rw[ab5];exact h)
theorem sJ{X Y:Prop}(h:X):fL true X Y:=h
theorem qk{X Y:Prop}(h:Y):fL false X Y:=h
noncomputable def sel:List Str->List (Str×V)->Option (List (Str×V))
 | [],_=>some []
 | x::r,l=>(look l x).bind fun v=>(sel r l).map ((x,v):: ·)
theorem qW:∀ {names:List Str} {l l':List (Str×V)},sel names l=some l'->∀ {x:Str} {v:V},look l' x=some v->look l x=some v:=by
 intro names;induction names with
 | nil=>intro l l' h x v e;obtain rfl:=aah.inj h;exact aZ e
 | cons y r ih=>
  intro l l' h x v e;refine ah (acJ.mp h) fun w hv h=>ah (abh.mp h) fun l2 h2 zs=> ?_
  ·subst zs;simp only[eQ]at e;cases q:Fast.sEq y x with
   | true=>replace e:=q ▸ e;obtain rfl:=aah.inj e;exact(Fast.sEq_iff.mp q) ▸ hv
   | false=>replace e:=q ▸ e;exact ih h2 e
structure Le(c' c:St):Prop where
 aj:c'.aj=c.aj
 loc:∀(x:Str) (v:V),look c'.loc x=some v->look c.loc x=some v
theorem Le.za (h:sel names l=some l'):Le ⟨l',σ⟩ ⟨l,σ⟩:=⟨rfl,fun Z Z e=>qW h e⟩
theorem Le.refl (c:St):Le c c:=⟨rfl,fun Z Z h=>h⟩
section
variable{e:Fm}{c c':St}
theorem cL.le {ad:Ad}(n:aU e ad m aa c h)(k:Le c' c):aU e ad m aa c' h:=
 ⟨n.F,n.N,n.nd,fun x v e=>n.loc x v (k.loc x v e),by rw[k.aj];exact n.len,by rw[k.aj];exact n.fP,n.fb,n.gp,by exact k.aj ▸ n.rep⟩
theorem Wp.conv {α β:Type}{aJ:Ad->Led->α->β->Prop}{t:Sem β}{Q:α->St->Prop}(k:∀ad m aa h,aU e ad m aa c h->aU e ad m aa c' h)(h:Wp e aJ t c' Q):Wp e aJ t c Q:=
 fun x ad m aa n R E p=>h x ad m aa (k _ _ _ _ n) R E p
theorem Wp.le {α β:Type}{aJ:Ad->Led->α->β->Prop}{t:Sem β}{Q:α->St->Prop}(k:Le c' c)(h:Wp e aJ t c' Q):Wp e aJ t c Q:=h.conv fun Z Z Z Z n=>n.le k
def qX(e:Fm)(P:Params)(sc:Scope)(test:Expr)(body:List Stmt)(c:St)(QB:AF->St->Prop)(QE:St->Prop):Prop:=
 tw e (ew e P sc 40) 40 test c fun b c1=>fL b (cZ (xw e P sc 40) body c1 QB) (QE c1)
theorem jF(hx:Cx e){α:Type}(st:α->St)(I:Nat->α->Prop) (turn:∀n a,I n a->qX e e.w.params e.scope test body (st a) (jx (fun c2=>∃m a',m<n/\I m a'/\Le (st a') c2) Q) (fun c1=>Q .next c1)) (n:Nat)(a:α)(h:I n a)(hc:Le (st a) c):Wp e bN (exec (.While test body [] pos) e.env) c Q:=by
 refine Cr (fun n c=>∃a,I n a/\Le (st a) c) (fun n c hI=> ?_) n ⟨a,h,hc⟩;refine ah hI fun a hI hle=>Wp.le hle ((iP hx (turn n a hI)).mono fun b c1 h1=>⟨fun z=> ?_,fun z=>cQ ((iO h1).2 z)⟩);refine(iD hx ((iO h1).1 z)).mono fun f c2 h2=> ?_;cases f with
 | next=>refine bG h2 fun m a' h3 h4 h5=> ?_;exact⟨m,h3,a',h4,h5⟩
 | cont=>refine bG h2 fun m a' h3 h4 h5=> ?_;exact⟨m,h3,a',h4,h5⟩
 | brk=>exact h2
 | ret v=>exact h2
end
section
abbrev sL(e:Fm)(P:Params)(x:Stmt)(c:St)(Q:AF->St->Prop):Prop:=cZ (xw e P (au x) 40) (ar x) c Q
abbrev dN(e:Fm)(P:Params)(x:Stmt)(n:Nat)(Q:AF->St->Prop):AF->St->Prop:=fun fl c1=>match fl with
 | .next=>cZ (xw e P (au x) 40) ((ar x).drop n) c1 Q
 | fl=>Q fl c1
noncomputable def uY(t:List Int):Nat->List (List Int)->Nat->List (List Int)
 | 0,xs,p=>xs.set p t
 | n+1,xs,p=>if p=0 then xs.set p t else if lexLt t (xs.getD ((p-1) / 2) [])then uY t n (xs.set p (xs.getD ((p-1) / 2) [])) ((p-1) / 2)else xs.set p t
noncomputable def sup(end_:Nat):Nat->List (List Int)->Nat->List (List Int)×Nat
 | 0,xs,p=>(xs,p)
 | n+1,xs,p=>if 2*p+1<end_ then
   let ch:=if 2*p+2<end_/\¬lexLt (xs.getD (2*p+1) []) (xs.getD (2*p+2) [])=true then 2*p+2 else 2*p+1
   sup end_ n (xs.set p (xs.getD ch [])) ch
  else(xs,p)
theorem oa{xs:List (List Int)}:uY t (n+1) xs p=if p=0 then xs.set p t else if lexLt t (xs.getD ((p-1) / 2) [])then uY t n (xs.set p (xs.getD ((p-1) / 2) [])) ((p-1) / 2)else xs.set p t:=rfl
noncomputable abbrev nC(k:Nat)(xs:List (List Int))(p:Nat):Nat:=if 2*p+2<k/\¬lexLt (xs.getD (2*p+1) []) (xs.getD (2*p+2) [])=true then 2*p+2 else 2*p+1
theorem oe:sup k (n+1) xs p=if 2*p+1<k then sup k n (xs.set p (xs.getD (nC k xs p) [])) (nC k xs p)else(xs,p):=rfl
section
variable(P:Params)(e:Fm)(Q:AF->St->Prop)
theorem CI(xs:List (List Int))(t:List Int):sL e P (st 11) ⟨[(s "heap",.ref 0),(s "item",.pv (.tup t))],[.vals .tup xs]⟩ Q= (xs.length<100000/\af e [.ref 0,.pv (.int 0),.pv (.int ((xs++ [t]).length-1))] (.ref 222) [.vals .tup (xs++ [t])] fun Z σ=>Q .next ⟨[(s "heap",.ref 0),(s "item",.pv (.tup t))],σ⟩):=by kernel_rfl
abbrev CJ(t:List Int)(xs:List (List Int))(p:Int):St:=⟨[(s "heap",.ref 0),(s "startpos",.pv (.int 0)),(s "pos",.pv (.int p)),(s "newitem",.pv (.tup t))],[.vals .tup xs]⟩
theorem WT(xs:List (List Int))(p:Int):sL e P (st 13) ⟨[(s "heap",.ref 0),(s "startpos",.pv (.int 0)),(s "pos",.pv (.int p))],[.vals .tup xs]⟩ Q= ((0<=p/\p<xs.length)/\Wp e bN (exec (at_ (ar (st 13)) 1) e.env) (CJ (xs.getD p.toNat []) xs p) (dN e P (st 13) 2 Q)):=by kernel_rfl
theorem WU:at_ (ar (st 13)) 1= .While (bU (at_ (ar (st 13)) 1)) (ax (at_ (ar (st 13)) 1)) [] (yy (at_ (ar (st 13)) 1)):=by kernel_rfl
theorem CK(t:List Int)(xs:List (List Int))(p:Int)(QB:AF->St->Prop)(QE:St->Prop):qX e P (au (st 13)) (bU (at_ (ar (st 13)) 1)) (ax (at_ (ar (st 13)) 1)) (CJ t xs p) QB QE= fL (decide (0<p)) (0<=p-1/\(0<=(p-1) / 2/\(p-1) / 2<xs.length)/\fL (lexLt t (xs.getD ((p-1) / 2).toNat [])) ((0<=p/\p<xs.length)/\QB .cont ⟨[(s "heap",.ref 0),(s "startpos",.pv (.int 0)),(s "pos",.pv (.int ((p-1) / 2))),(s "newitem",.pv (.tup t)),(s "parentpos",.pv (.int ((p-1) / 2))),(s "parent",.pv (.tup (xs.getD ((p-1) / 2).toNat [])))],[.vals .tup (xs.set p.toNat (xs.getD ((p-1) / 2).toNat []))]⟩) (QB .brk ⟨[(s "heap",.ref 0),(s "startpos",.pv (.int 0)),(s "pos",.pv (.int p)),(s "newitem",.pv (.tup t)),(s "parentpos",.pv (.int ((p-1) / 2))),(s "parent",.pv (.tup (xs.getD ((p-1) / 2).toNat [])))],[.vals .tup xs]⟩)) (QE (CJ t xs p)):=by kernel_rfl
theorem zb(t:List Int)(xs:List (List Int))(p:Int)(ex:List (Str×V)):dN e P (st 13) 2 Q .next ⟨(s "heap",.ref 0)::(s "startpos",.pv (.int 0))::(s "pos",.pv (.int p))::(s "newitem",.pv (.tup t))::ex,[.vals .tup xs]⟩= ((0<=p/\p<xs.length)/\Q .next ⟨(s "heap",.ref 0)::(s "startpos",.pv (.int 0))::(s "pos",.pv (.int p))::(s "newitem",.pv (.tup t))::ex,[.vals .tup (xs.set p.toNat t)]⟩):=by kernel_rfl
end
variable{e:Fm}
theorem Fg{xs:List (List Int)}:uY t n xs 0=xs.set 0 t:=by cases n <;> rfl
theorem zc(t:List Int)(n:Nat):∀(m:Nat) (xs:List (List Int)) (p:Nat),p<=n->p<=m->uY t n xs p=uY t m xs p:=by
 induction n with
 | zero=>
  intro m xs p h _;cases p with
  | zero=>exact Fg.symm
  | succ p=>exact absurd h (aef _)
 | succ n ih=>
  intro m xs p h1 h2;cases m with
  | zero=>cases p with
   | zero=>exact Fg
   | succ p=>exact absurd h2 (aef _)
  | succ m=>rw[oa,oa,ih m (xs.set p (xs.getD ((p-1) / 2) [])) ((p-1) / 2) (dZ 0x30b39292191009939 qh (adI _ _) h1) (dZ 0x30b39292191009939 qh (adI _ _) h2)]
theorem zd(p:Nat):(((p:Int)-1) / 2).toNat=(p-1) / 2:=by
 cases p with
 | zero=>rfl
 | succ n=>refine(show((n+1:Nat):Int)-1=(n:Int) from Int.add_sub_cancel (n:Int) 1) ▸ ?_;rfl
theorem Fh(hx:Cx e){k:Nat}(hk:e.k=k+1){xs:List (List Int)}(hp:p<xs.length):af e [.ref 0,.pv (.int 0),.pv (.int p)] (.ref 222) [.vals .tup xs] fun v σ=>v= .pv .none/\σ= [.vals .tup (uY (xs.getD p []) p xs p)]:=by
 refine df hx hk (Wz _) (names:= [s "heap",s "startpos",s "pos"]) (fun Z Z Z Z Z Z vs hv=>by refine hY (G0 hv) fun Z Z Z WV=> ?_;subst WV;kernel_rfl) (by kernel_rfl) fun e' aL hw cH hs=>bJ aL hs ?_;refine of_eq (WT _ e' _ xs p) ⟨⟨aa1 _,ba 434343896979728 hp⟩,?_⟩;rw[WU];generalize ht:xs.getD (p:Int).toNat []=t;simp only[acw]at ht;rw[ht];refine jF aL (fun a:List (List Int)×Nat=>CJ t a.1 a.2) (fun n a=>n=a.2/\a.2<a.1.length/\uY t a.2 a.1 a.2=uY t p xs p) (fun q a hI=> ?_) p (xs,p) ⟨rfl,hp,rfl⟩ (Le.refl _);obtain⟨ys,q'⟩:=a;obtain⟨hqq,hq,Uk⟩:=hI;dsimp only at hqq;subst hqq;refine hs ▸ (of_eq (CK _ e' t ys (q:Nat) _ _) ?_);dsimp only at hq Uk ⊢;by_cases h0:q=0
 ·subst h0;refine of_eq (zb _ e' _ t ys ((0:Nat):Int) []) ⟨⟨aa1 _,bY 0x8ba890ba9910 hq⟩,rfl,?_⟩;simp only[<-Uk];rfl
 ·have bT:(0:Int)<(q:Int):=bY 9597385087248 (adm h0);simp only[decide_eq_true bT];refine⟨bY 0xb08ea08ba9110 bT,⟨by lia,by lia⟩,?_⟩;rw[zd];refine aA (⟨q-1,aac eH ((cA (bY 47391084824 bT)))⟩:∃r,q=r+1) fun r WW=> ?_;subst WW;cases hl:lexLt t (ys.getD ((r+1-1) / 2) [])with
  | true=>
   refine⟨⟨aa1 _,ba 0x18bb09891bb099910 hq⟩,(r+1-1) / 2,(ys.set (r+1) (ys.getD ((r+1-1) / 2) []),(r+1-1) / 2),ba 0xb19b091009918 qh,⟨rfl,?_,?_⟩,?_⟩
   ·simp;exact bj 0x2b092bb19991009928 qh hq
   ·rw[<-Uk]
    conv=>rhs;rw[oa]
    rw[if_neg h0,if_pos hl];exact zc t _ _ _ _ (abE _) (by lia)
   ·have eh:(((r+1:Nat):Int)-1) / 2=(((r+1-1) / 2:Nat):Int):=by lia
    exact eh ▸ Le.za (names:= [s "heap",s "startpos",s "pos",s "newitem"]) (by kernel_rfl)
  | false=>
   refine of_eq (zb _ e' _ t ys ((r+1:Nat):Int) _) ⟨⟨aa1 _,ba 0x18bb09891bb099910 hq⟩,rfl,?_⟩;simp only[<-Uk]
   conv=>rhs;rw[oa]
   rw[if_neg h0,if_neg (by refine hl ▸ ?_;simp)];rfl
end
section
section
variable(P:Params)(e:Fm)(Q:AF->St->Prop)
abbrev qY(t:List Int)(xs:List (List Int))(p ep ch:Int)(ex:List (Str×V)):St:=⟨(s "heap",.ref 0)::(s "pos",.pv (.int p))::(s "endpos",.pv (.int ep))::(s "startpos",.pv (.int 0))::(s "newitem",.pv (.tup t))::(s "childpos",.pv (.int ch))::ex,[.vals .tup xs]⟩
theorem WX(xs:List (List Int)):sL e P (st 14) ⟨[(s "heap",.ref 0),(s "pos",.pv (.int 0))],[.vals .tup xs]⟩ Q= (((0:Int)<=0/\(0:Int)<xs.length)/\Wp e bN (exec (at_ (ar (st 14)) 4) e.env) (qY (xs.getD 0 []) xs 0 xs.length 1 []) (dN e P (st 14) 5 Q)):=by kernel_rfl
theorem WY:at_ (ar (st 14)) 4= .While (bU (at_ (ar (st 14)) 4)) (ax (at_ (ar (st 14)) 4)) [] (yy (at_ (ar (st 14)) 4)):=by kernel_rfl
abbrev Ul(t:List Int)(xs:List (List Int))(p ep ch rp:Int)(QB:AF->St->Prop):Prop:=
 (0<=ch/\ch<xs.length)/\(0<=p/\p<xs.length)/\QB .next (qY t (xs.set p.toNat (xs.getD ch.toNat [])) ch ep (2*ch+1) [(s "rightpos",.pv (.int rp))])
theorem CL(t:List Int)(xs:List (List Int))(p ep ch:Int)(QB:AF->St->Prop)(QE:St->Prop):qX e P (au (st 14)) (bU (at_ (ar (st 14)) 4)) (ax (at_ (ar (st 14)) 4)) (qY t xs p ep ch []) QB QE= fL (decide (ch<ep)) (fL (decide (ch+1<ep)) ((0<=ch/\ch<xs.length)/\(0<=ch+1/\ch+1<xs.length)/\fL (!lexLt (xs.getD ch.toNat []) (xs.getD (ch+1).toNat [])) (Ul t xs p ep (ch+1) (ch+1) QB) (Ul t xs p ep ch (ch+1) QB)) (Ul t xs p ep ch (ch+1) QB)) (QE (qY t xs p ep ch [])):=by kernel_rfl
theorem G1(t:List Int)(xs:List (List Int))(p ep ch:Int)(ex:List (Str×V)):dN e P (st 14) 5 Q .next (qY t xs p ep ch ex)= ((0<=p/\p<xs.length)/\af e [.ref 0,.pv (.int 0),.pv (.int p)] (.ref 222) [.vals .tup (xs.set p.toNat t)] fun Z σ=>Q .next ⟨(qY t xs p ep ch ex).loc,σ⟩):=by kernel_rfl
theorem G2(xs:List (List Int)):sL e P (st 12) ⟨[(s "heap",.ref 0)],[.vals .tup xs]⟩ Q= (0<xs.length/\fL (!(xs.take (xs.length-1)).isEmpty) (((0:Int)<=0/\(0:Int)<(xs.take (xs.length-1)).length)/\((0:Int)<=0/\(0:Int)<(xs.take (xs.length-1)).length)/\ af e [.ref 0,.pv (.int 0)] (.ref 229) [.vals .tup ((xs.take (xs.length-1)).set 0 (xs.getD (xs.length-1) []))] fun Z σ=>Q (.ret (.pv (.tup ((xs.take (xs.length-1)).getD 0 [])))) ⟨[(s "heap",.ref 0),(s "lastelt",.pv (.tup (xs.getD (xs.length-1) []))),(s "returnitem",.pv (.tup ((xs.take (xs.length-1)).getD 0 [])))],σ⟩) (Q (.ret (.pv (.tup (xs.getD (xs.length-1) [])))) ⟨[(s "heap",.ref 0),(s "lastelt",.pv (.tup (xs.getD (xs.length-1) [])))],[.vals .tup (xs.take (xs.length-1))]⟩)):=by kernel_rfl
end
variable{e:Fm}
noncomputable def i7(xs:List (List Int))(t:List Int):List (List Int):=uY t xs.length (xs++ [t]) xs.length
noncomputable def qZ(xs:List (List Int)):List (List Int):=
 let t:=xs.getD 0 []
 let r:=sup xs.length xs.length xs 0
 uY t r.2 (r.1.set r.2 t) r.2
noncomputable def eS(xs:List (List Int)):List Int×List (List Int):=
 let l:=xs.getD (xs.length-1) []
 let r:=xs.take (xs.length-1)
 if r.isEmpty then(l,r)else(r.getD 0 [],qZ (r.set 0 l))
theorem uZ(hx:Cx e)(hk:e.k=k+2)(hz:xs.length<100000):af e [.ref 0,.pv (.tup t)] (.ref 208) [.vals .tup xs] fun v σ=>v= .pv .none/\σ= [.vals .tup (i7 xs t)]:=by refine df hx hk (Wx _) (names:= [s "heap",s "item"]) (fun Z Z Z Z Z Z vs hv=>by refine eP (iW hv) fun Z Z WZ=> ?_;subst WZ;kernel_rfl) (by kernel_rfl) fun e' aL hw cH hs=>bJ aL hs ?_;refine of_eq (CI _ e' _ xs t) ⟨hz,?_⟩;rw[(show(((xs++ [t]).length:Int)-1)=((xs.length:Nat):Int) from by simp)];refine(Fh aL cH (by simp)).mono fun v σ h=>⟨rfl,?_⟩;simp only[h.2];simp[i7]
theorem CM(n f:Nat):∀(xs:List (List Int)) (p:Nat),(sup n f xs p).1.length=xs.length:=by
 induction f with
 | zero=>exact fun Z Z=>rfl
 | succ f ih=>
  intro xs p;rw[oe];by_cases h:2*p+1<n
  ·rw[if_pos h,ih,acN]
  ·rw[if_neg h]
theorem pj(h:2*p+1<k):p<nC k xs p/\nC k xs p<k:=by
 by_cases q:2*p+2<k/\¬lexLt (xs.getD (2*p+1) []) (xs.getD (2*p+2) [])=true
 ·rw[nC,if_pos q];exact⟨by lia,q.1⟩
 ·rw[nC,if_neg q];exact⟨by lia,h⟩
theorem G3(n f:Nat):∀(xs:List (List Int)) (p:Nat),p<n->(sup n f xs p).2<n:=by
 induction f with
 | zero=>exact fun Z p h=>h
 | succ f ih=>
  intro xs p h;rw[oe];by_cases q:2*p+1<n
  ·rw[if_pos q];exact ih _ _ (pj q).2
  ·rw[if_neg q];exact h
theorem ze(k n:Nat):∀(m:Nat) (xs:List (List Int)) (p:Nat),k<=n+p->k<=m+p->sup k n xs p=sup k m xs p:=by
 induction n with
 | zero=>
  intro m xs p h _;cases m with
  | zero=>rfl
  | succ m=>exact(if_neg (by lia)).symm
 | succ n ih=>
  intro m xs p h1 h2;by_cases q:2*p+1<k
  ·cases m with
   | zero=>lia
   | succ m=>have:=(pj (xs:=xs) q).1;rw[oe,oe,if_pos q,if_pos q,ih m (xs.set p (xs.getD (nC k xs p) [])) (nC k xs p) (by lia) (by lia)]
  ·cases m with
   | zero=>exact if_neg q
   | succ m=>exact(if_neg q).trans (if_neg q).symm
theorem LK(hx:Cx e)(hk:e.k=k+2)(hp:0<xs.length):af e [.ref 0,.pv (.int 0)] (.ref 229) [.vals .tup xs] fun v σ=>v= .pv .none/\σ= [.vals .tup (qZ xs)]:=by
 refine df hx hk (WA _) (names:= [s "heap",s "pos"]) (fun Z Z Z Z Z Z vs hv=>by refine eP (iW hv) fun Z Z W0=> ?_;subst W0;kernel_rfl) (by kernel_rfl) fun e' aL hw cH hs=>bJ aL hs ?_;refine of_eq (WX _ e' _ xs) ⟨⟨acd _,bY 9597385087248 hp⟩,WY ▸ ?_⟩;generalize ht:xs.getD 0 []=t;have hh:qZ xs=uY t (sup xs.length xs.length xs 0).2 ((sup xs.length xs.length xs 0).1.set (sup xs.length xs.length xs 0).2 t) (sup xs.length xs.length xs 0).2:=by refine ht ▸ ?_;rfl
 refine jF aL (fun a:List (List Int)×Nat=>qY t a.1 (a.2:Nat) xs.length ((2*a.2+1:Nat):Int) []) (fun n a=>n=xs.length-a.2/\a.2<a.1.length/\a.1.length=xs.length/\sup xs.length n a.1 a.2=sup xs.length xs.length xs 0) (fun n a hI=> ?_) xs.length (xs,0) ⟨rfl,hp,rfl,rfl⟩ (Le.refl _);obtain⟨ys,q⟩:=a;obtain⟨hn,hq,hl,CN⟩:=hI;refine hs ▸ (of_eq (CL _ e' t ys _ _ _ _ _) ?_);by_cases h1:2*q+1<xs.length
 ·have bT:(((2*q+1:Nat):Int))<(xs.length:Int):=ba 0x18bb09891bb099910 h1;simp only[decide_eq_true bT];refine aA (⟨n-1,aac eH ((cA (dZ 0x3b08bb202ff98913192190938 eH (bl hn) bT)))⟩:∃r,n=r+1) fun r hr=> ?_;subst hr;have fin:∀(ch:Nat) (QB:AF->St->Prop),(∀c2,(∃(m:Nat) (a':List (List Int)×Nat),m<r+1/\(m=xs.length-a'.2/\a'.2<a'.1.length/\a'.1.length=xs.length/\sup xs.length m a'.1 a'.2=sup xs.length xs.length xs 0)/\Le (qY t a'.1 (a'.2:Nat) xs.length ((2*a'.2+1:Nat):Int) []) c2)->QB .next c2)->
    ch<xs.length->q<ch->sup xs.length r (ys.set q (ys.getD ch [])) ch=sup xs.length (r+1) ys q->Ul t ys (q:Nat) xs.length (ch:Nat) ((2*q+1:Nat)+1:Int) QB:=fun ch QB hQB h2 h3 h4=>by
    refine⟨⟨aa1 _,bj 0x28b0892191b09920 h2 (bl hl)⟩,⟨aa1 _,ba 434343896979728 hq⟩,hQB _ ?_⟩;simp only[acw,acw];refine⟨xs.length-ch,(ys.set q (ys.getD ch []),ch),K2 0xb59b09b59391b499439292109948 (cA (aco h2)) eH h3 (bl hn),⟨rfl,by simp;exact ab3 h2 (bl hl),by simpa using hl,?_⟩,?_⟩
    ·exact CN ▸ h4 ▸ ze _ _ _ _ _ eH (nj 0x3490b49193b2992190938 eH h3 (bl hn))
    ·rw[(show((2*ch+1:Nat):Int)=2*(ch:Int)+1 from rfl)];exact Le.za (names:= [s "heap",s "pos",s "endpos",s "startpos",s "newitem",s "childpos"]) (by kernel_rfl)
  have step:sup xs.length (r+1) ys q=sup xs.length r (ys.set q (ys.getD (if 2*q+2<xs.length/\¬lexLt (ys.getD (2*q+1) []) (ys.getD (2*q+2) [])=true then 2*q+2 else 2*q+1) [])) (if 2*q+2<xs.length/\¬lexLt (ys.getD (2*q+1) []) (ys.getD (2*q+2) [])=true then 2*q+2 else 2*q+1):=by exact if_pos h1
  by_cases h2:2*q+2<xs.length
  ·have zf:((2*q+1:Nat):Int)+1<(xs.length:Int):=ba 0x18bbb098991bc099910 h2;simp only[decide_eq_true zf];refine⟨⟨aa1 _,bj 0x28bb098921918bbb09899120 zf (bl hl)⟩,⟨bY 50207431168,bj 0x28bbb0989921918bbb09899120 zf (bl hl)⟩,?_⟩;rw[(show(((2*q+1:Nat):Int)+1).toNat=2*q+2 from aac (ba 0xc102ff90bb102ff98908118 (ij (abC (bY 0xbb002ff989a00)))) (ba 0x1c002ff918bb002ff989118 (jv (abC (bY 0xbb002ff989a00))))),acw];cases hc:lexLt (ys.getD (2*q+1) []) (ys.getD (2*q+2) [])with
   | true=>rw[if_neg (by simp only[hc];simp)]at step;refine qk (fin (2*q+1) _ ?_ h1 (bY 0xb002ff9b0908) step.symm);exact fun c2 h=>h
   | false=>rw[if_pos ⟨h2,by refine hc ▸ ?_;simp⟩]at step;have:=fin (2*q+2);rw[<-(rfl:((2*q+1:Nat):Int)+1=((2*q+2:Nat):Int))]at this;refine sJ (this _ ?_ h2 (bY 0xc002ff9b0908) step.symm);exact fun c2 h=>h
  ·have zf:¬((2*q+1:Nat):Int)+1<(xs.length:Int):=adx (ba 0xbb198908c190910 (ic h2));simp only[decide_eq_false zf];rw[if_neg (by lia)]at step;refine sJ (qk (fin (2*q+1) _ ?_ h1 (bY 0xb002ff9b0908) step.symm));exact fun c2 h=>h
 ·have bT:¬(((2*q+1:Nat):Int))<(xs.length:Int):=adx (acF.mpr (ic h1));simp only[decide_eq_false bT];refine of_eq (G1 _ e' _ t ys _ _ _ []) ⟨⟨aa1 _,ba 434343896979728 hq⟩,?_⟩;have hr:sup xs.length n ys q=(ys,q):=by
   cases n with
   | zero=>rfl
   | succ n=>exact if_neg h1
  simp only[acw];refine(Fh aL cH (by simpa using hq)).mono fun v σ h=>⟨rfl,?_⟩;simp only[h.2,hh,<-CN,hr];simp[hq]
theorem G4(hx:Cx e)(hk:e.k=k+3)(hp:0<xs.length):af e [.ref 0] (.ref 215) [.vals .tup xs] fun v σ=>v= .pv (.tup (eS xs).1)/\σ= [.vals .tup (eS xs).2]:=by
 refine af.gen fun K9 jf=> ?_;refine df hx hk (Wy _) (names:= [s "heap"]) (fun Z Z Z Z Z Z vs hv=>by refine aA (je hv) fun Z W2=> ?_;subst W2;kernel_rfl) (by kernel_rfl) fun e' aL hw cH hs=>bJ aL hs ?_;refine of_eq (G2 _ e' _ xs) ⟨hp,?_⟩;have hd:eS xs=if(xs.take (xs.length-1)).isEmpty=true then(xs.getD (xs.length-1) [],xs.take (xs.length-1))else((xs.take (xs.length-1)).getD 0 [],qZ ((xs.take (xs.length-1)).set 0 (xs.getD (xs.length-1) []))):=rfl;cases hb:(xs.take (xs.length-1)).isEmpty with
 | true=>rw[if_pos hb]at hd;exact jf _ _ (⟨by rw[hd],by rw[hd]⟩)
 | false=>
  rw[if_neg (by rw[hb];simp)]at hd;have hlen:0<(xs.take (xs.length-1)).length:=by rw[adj];intro z;rw[z]at hb;exact lI hb
  refine⟨⟨acd _,bY 9597385087248 hlen⟩,⟨acd _,bY 9597385087248 hlen⟩,(LK aL cH (by simpa using hlen)).mono fun v σ h=> ?_⟩;exact jf _ _ (⟨by rw[hd],by rw[hd];exact h.2⟩)
end
section
set_option backward.match.sparseCases true
theorem gS:Slot "callable_iterator" "__next__" "callable_iterator.__next__" :=
 Slot.of (owner:= "callable_iterator") (n:= "__next__") (by rw[typeLookup_type,builtinLookup_eq_fast];kernel_rfl) (by decide +kernel) (by decide +kernel) (by decide +kernel) (by first | exact .inl (by decide +kernel) | exact .inr (by decide +kernel)) (by rw[isSubtype_type];kernel_rfl)
theorem jG:Slot "callable_iterator" "__iter__" "callable_iterator.__iter__" :=
 Slot.of (owner:= "callable_iterator") (n:= "__iter__") (by rw[typeLookup_type,builtinLookup_eq_fast];kernel_rfl) (by decide +kernel) (by decide +kernel) (by decide +kernel) (by first | exact .inl (by decide +kernel) | exact .inr (by decide +kernel)) (by rw[isSubtype_type];kernel_rfl)
theorem nD:entryFor table "callable_iterator.__iter__" =some Builtin.«dict_keyiterator.__iter__»:=entryFor_alias (id':= "dict_keyiterator.__iter__") (by kernel_rfl) rfl (by decide +kernel) (by kernel_rfl)
theorem pq(a:Value):argsOk "callable_iterator.__iter__" ⟨[a],[]⟩:=by unfold argsOk;kernel_rfl
theorem nE:entryFor table "callable_iterator.__next__" =some Builtin.«callable_iterator.__next__»:=entryFor_of_tree (by kernel_rfl)
theorem pz(a:Value):argsOk "callable_iterator.__next__" ⟨[a],[]⟩:=by unfold argsOk;kernel_rfl
noncomputable def Fm.in1 (e:Fm):Fm:={e with A:=e.A.in1,k:=e.k-1}
theorem Cx.in1 (hx:Cx e)(hk:0<e.k):Cx e.in1:=⟨hx.B,hx.X,hx.T,hx.hA,hx.uH,hx.hk,hx.gl,hx.bu,hx.kd,by show e.A.depth+(e.k-1)<_;have:=hx.dep;exact dZ 0x2b30991b3992b1099928 this (cA (bY 2965018904 hk)),by show e.A.units+1+20*(e.k-1)<cLine;have:=hx.Cn;lia,hx.hh⟩
def LL(ad:Ad)(aa:Led)(a:Option V)(b:Option Value):Prop:=match a,b with
 | none,none=>True
 | some u,some v=>VR ad aa u v
 | _,_=>False
section
variable{e:Fm}{c:St}
theorem rb{s:Shared} (hc:codeAny M A (.call f ⟨pos,[]⟩) (fun r s'=>match r with | .ok (.ret v)=>Q v s' | .ok _=>False | .error e=>E e s') s):wpAny M A (callBorrowed f pos) Q E s:=fun Γ p hΓ=>by
 unfold callBorrowed;simp only[Sem.wp_call];refine wpCode_mono (fun r s' h'=> ?_) (hc _ p rfl (hΓ.enter (.call f ⟨pos,[]⟩) none p (by intro x;exact aZ x)));cases r with
 | ok fl=>cases fl <;> first | exact h'.elim | exact h'
 | error e=>exact h'
theorem CO{s:Shared}{fd:FuncData}(hh:A.handled=none) (ho:s.heap.get? it=some (bI "callable_iterator" [.ref b,.str (SS []) t,.bool false]))(hb:s.heap.get? b=some (methodObj (.ref f) self))(hf:s.heap.get? f=some of)(LM:of.data= .func fd) (hc:codeAny (model prog w) A.in1 (.call (.ref f) ⟨[self],[]⟩) (fun r s'=>match r with
   | .ok (.ret v)=>∃a u t',v= .str (SS a) u/\s'.heap.get? it=some (bI "callable_iterator" [.ref b,.str (SS []) t',.bool false])/\s'.heap.get? b=some (methodObj (.ref f) self)/\s'.heap.get? f=some of/\
    (a≠ []->P (some v) s')/\(a= []->∀h1 o1 o2,h1.get? it=some (bI "callable_iterator" [.none,.none,.bool true])->Heap.SameBut it s'.heap h1->o1.isFreed=false->o2.isFreed=false->P none {s' with heap:=(h1.push o1).push o2})
   | .ok _=>False
   | .error _=>False) s):wpAny (model prog w) A (pyNext (.ref it)) P E s:=by
 have borrow:∀s':Shared,s'.heap.get? b=some (methodObj (.ref f) self)->s'.heap.get? f=some of->∀(Q:Bool->Shared->Prop) (E:Value->Shared->Prop),Q true s'->wpAny (model prog w) A.in1 (borrowsExactly (.ref b)) Q E s':=fun s' g1 g2 Q E q=>by
  refine wpAny_bind (wpAny_load g1 ?_);show wpAny _ _ (do
   match(<-load f).data with
   | .func _=>pure true
   | _=>pure false) _ _ s'
  refine wpAny_bind (wpAny_load g2 (LM ▸ wpAny_pure q))
 refine wpAny_bind (wpAny_attempt (wpAny_callSpecial?_slot ⟨_,ho,rfl⟩ gS (wpAny_call_entry gS ⟨_,ho,rfl⟩ nE ?_ (pz _))));show wpAny _ _ (field (.ref it) 2 >>= _) _ _ s;refine wpAny_bind (wpAny_field ho rfl rfl (wpAny_bind (wpAny_field ho rfl (x:=.ref b) rfl ?_)));refine wpAny_bind (wpAny_attempt (wpAny_bind (borrow s hb hf _ _ ?_)));refine rb (ks_codeAny_call_bound hb (codeAny_mono hc fun r s' hr=> ?_));cases r with
 | error _=>exact False.elim hr
 | ok f=>
  cases f with
  | ret v=>
   refine B3 hr fun a u t' hv h1 h2 h3 h4 h5=> ?_;subst hv;refine wpAny_bind (wpAny_field h1 rfl rfl (wpAny_bind (wpAny_field h1 rfl (x:=.str (SS []) t') rfl ?_)));refine wpAny_bind (wpAny_holding (wpAny_eqBool_str ?_));by_cases ha:a= []
   ·subst ha;simp only[decide_eq_true rfl];refine wpAny_bind (wpAny_rule (wpAny_bind ?_));refine wpAny_bind (wpAny_field h1 rfl rfl (wpAny_bind ?_));refine wpAny_bind (borrow s' h2 h3 _ _ (wpAny_pure ?_));refine wpAny_bind (wpAny_setField h1 rfl (by simp) ?_);have g1:=Heap.get?_update_self (Obj.mapFields (·.setIfInBounds 0 .none)) h1 rfl;refine wpAny_bind (wpAny_setField g1 rfl (by simp) ?_);have g2:=Heap.get?_update_self (Obj.mapFields (·.setIfInBounds 1 .none)) g1 rfl;refine(wpAny_setField g2 rfl (by simp) (wpAny_bind ?_));refine wpAny_bind (wpAny_newObj_type ?_ (by size_fits));refine wpAny_bind (wpAny_of_eq (by first | rfl | (simp only[firstArgMember];rfl)) (wpAny_newObj_type ?_ (by size_fits)));refine wpAny_bind (wpAny_handled ?_);rw[show A.in1.handled=none from hh];refine wpAny_bind (wpAny_pure (wpAny_throw ?_));refine wpAny_bind (wpAny_isInstance ⟨_,Heap.get?_push_size _ rfl,rfl⟩ isSubtype_stop ?_);exact wpAny_pure (h5 rfl _ _ _ (Heap.get?_update_self (Obj.mapFields (·.setIfInBounds 2 (.bool true))) g2 rfl) (((Heap.SameBut.update ..).trans (Heap.SameBut.update ..)).trans (Heap.SameBut.update ..)) rfl rfl)
   ·have:decide (SS []=SS a)=false:=by
     apply decide_eq_false;intro q;apply ha;simpa using (congrArg (fun x:Str=>x.cps.toList) q).symm
    exact this ▸ wpAny_pure ⟨_,rfl,wpAny_pure (h4 ha)⟩
  | _=>exact False.elim hr
theorem cL.in1 {ad:Ad}(n:aU e ad m aa c h):aU e.in1 ad m aa c h:=n
theorem CP(hx:Cx e){fd:FuncData}(hs:c.aj[i]? =some (.da (some b) (SS [])))(hb:c.aj[b]? =some (.bound (.ref f) sf))(hf:(KK e.w.params).lookup f=some of)(LM:of.data= .func fd) (h:af e.in1 [.ref sf] (.ref f) c.aj fun v σ=>∃a,v= .pv (.str a)/\σ[i]? =some (.da (some b) (SS []))/\σ[b]? =some (.bound (.ref f) sf)/\(a≠ []->Q (some (.pv (.str a))) ⟨c.loc,σ⟩)/\(a= []->Q none ⟨c.loc,σ.set i (.da none (SS []))⟩)):cP e LL (.ref i) pyNext c Q:=by
 refine .r fun x ad m aa ai n Fi R E p=>bD (n.nq hs Fi) fun ob Fj W3 Um=> ?_;obtain⟨ab,t,Cq,rfl⟩:=W3;refine bD (n.nq hb Cq) fun ob' ya W4 LN=> ?_;obtain⟨Fl,zh,rfl⟩:=W4;refine CO hx.hh Um LN ((hx.X.keeps n.F.keep) f of hf) LM ?_;refine codeAny_mono (h x ad m aa [.ref Fl] n.aj (.cons ⟨Fl,zh,rfl⟩ .nil) (fun v' s'=>∃a u t',v'= .str (SS a) u/\s'.heap.get? ai=some (bI "callable_iterator" [.ref ab,.str (SS []) t',.bool false])/\s'.heap.get? ab=some (methodObj (.ref f) (.ref Fl))/\s'.heap.get? f=some of/\
    (a≠ []->R (some v') s')/\(a= []->∀h1 o1 o2,h1.get? ai=some (bI "callable_iterator" [.none,.none,.bool true])->Heap.SameBut ai s'.heap h1->o1.isFreed=false->o2.isFreed=false->R none {s' with heap:=(h1.push o1).push o2})) (fun Z Z=>False) fun v v' σ' h' tk aF ag q n' y rv=> ?_) fun r s' hr=> ?_
 ·refine Vb q fun a W5 h1 h2 h3 h4=> ?_;subst W5;refine aA rv fun u W6=> ?_;subst W6;have n2:aU e aF m ag ⟨c.loc,σ'⟩ h':=n.oY y n';have G5:=bq y.gr Fi;refine bD (n2.nq h1 G5) fun Wm zi W7 LO=>aA (show ∃t',Wm=bI "callable_iterator" [.ref ab,.str (SS []) t',.bool false] from dy W7 fun ab1 t' q1 e=>⟨t',by rw[e,aah.inj (q1.symm.trans (bq y.gr Cq))]⟩) fun t' e1=> ?_;rw[e1]at LO;refine bD (n2.nq h2 (bq y.gr Cq)) fun ob2 Z W8 LP=> ?_;rw[(ah W8 fun Z q1 e=>by rw[e,aah.inj (q1.symm.trans (bq y.gr zh))]:ob2=methodObj (.ref f) (.ref Fl))]at LP;refine⟨a,u,t',rfl,LO,LP,(hx.X.keeps n'.F.keep) f of hf,fun ha=> ?_,fun ha td o1 o2 g1 g2 f1 f2=> ?_⟩
  ·exact p _ _ _ _ _ _ _ _ (h3 ha) n2 y ⟨u,rfl⟩
  ·
   have N1:News e.h₀ e.L td (bB ag ai (bI "callable_iterator" [.none,.none,.bool true])):=by exact dA n2.nd zi n2.N g2 g1
   have n3:=n2.upd (o':=.da none (SS [])) h1 G5 zi (by rw[e1];simp) (n2.F.change g2 (n2.N _ zi).2.1 (n2.N _ zi).2.2) N1 rfl;refine bL (Fr.en n3.F n3.N o1 f1) fun F4 N4 hl4=>aI (n3.more hl4 F4 N4) fun n4 x4=> ?_;refine bL (Fr.en n4.F n4.N o2 f2) fun F5 N5 hl5=>aI (n4.more hl5 F5 N5) fun n5 x5=> ?_;exact p none none _ _ _ _ _ _ (h4 ha) n5 (((y.trans (cf n2.nd (Ad.bk G5) zi (by rw[e1];simp))).trans x4).trans x5) trivial
 ·cases r with
  | ok f=>cases f <;> exact hr
  | error _=>exact hr
end
end
theorem j6:typeLookup (.type "method") "__call__" =pure (some (.builtin "method.__call__")):=by rw[typeLookup_type,builtinLookup_eq_fast];kernel_rfl
theorem ti(a b:Value):argsOk "iter" ⟨[a,b],[]⟩:=by unfold argsOk;kernel_rfl
section
variable{e:Fm}{c:St}
theorem cL.push {ad:Ad}(n:aU e ad m aa c h)(hf:ob.isFreed=false)(ho:∀l,(∀p∈aa,p.1<l)->OR e.w (ad.snoc l) ((l,ob)::aa) o ob):aU e (ad.snoc h.objs.size) m ((h.objs.size,ob)::aa) {c with aj:=c.aj++ [o]} (h.push ob)/\Ext ad aa (ad.snoc h.objs.size) ((h.objs.size,ob)::aa)/\RR (ad.snoc h.objs.size) c.aj.length (.ref h.objs.size):=by refine bL (Fr.en n.F n.N ob hf) fun F' N' hl=>aI (n.new hl F' N' (ho _ hl)) fun n2 x2=> ?_;exact⟨n2,x2,h.objs.size,by show(ad.m++ [h.objs.size])[_]? =_;refine n.len ▸ ?_;simp,rfl⟩
theorem jH{ad:Ad}:Gr ad aa (ad.snoc l) ((l,ob)::aa):=⟨⟨[l],rfl⟩,fun Z Z h=>.tail _ h⟩
theorem gT{ad:Ad}{i:Nat}(h:ad.m[i]? =some a):(ad.snoc l).m[i]? =some a:=bq (aa:= []) (jH (ob:=default)) h
theorem CQ(hs:c.aj[i]? =some (.bound f sf))(h:Q (.ref c.aj.length) {c with aj:=c.aj++ [.da (some i) (SS [])]}):cN e VR [.ref i,.pv (.str [])] (fun vs=>call (.builtin "iter") vs) c Q:=by refine .of2 (.rs fun x ad m aa a t n ha R E p=>bD (n.nq hs ha) fun ob hm W9 ho=> ?_);obtain⟨Fl,zh,rfl⟩:=W9;refine call_function_entry (by decide +kernel) (by decide +kernel) kdk_entry_iter (ti _ _) ?_;refine wpAny_bind (wpAny_of_eq (by first | rfl | kernel_rfl!) ?_);refine wpAny_bind (wpAny_specialOf ⟨_,ho,rfl⟩ j6 (wpAny_bind (wpAny_rule ?_)));refine wpAny_bind (wpAny_newObj_type ?_);refine bL (n.push (o:=.da (some i) (SS [])) rfl fun l hl=>⟨a,t,gT ha,rfl⟩) fun n2 x2 r2=>wpAny_pure ⟨_,rfl,p _ _ _ _ _ _ _ _ h n2 x2 r2⟩
def lg(P:Params)(C:Addr)(name:Str):Option Addr:=yS (plainGet (KK P) C name&&hasDictIn (KK P) C&& !(copiedNames.contains name)) (findIn (KK P) (.ref C) name) (fun f=>isFn (KK P) (.ref f)&&(specialIn (KK P) (.ref f) "__get__" ==some (some (.builtin "function.__get__")))&&(takesIn (KK P) (.ref f)==some false)) some
theorem rf(hx:Cx e)(hs:c.aj[i]? =some (.inst C d))(hd:c.aj[d]? =some (.dict es))(hk:lg e.w.params C name=some f)(hl:look es name=none) (h:Q (.ref c.aj.length) {c with aj:=c.aj++ [.bound (.ref f) i]}):cP e VR (.ref i) (fun o=>getAttr o name ex) c Q:=by rintro x ad m aa u n r R E p;refine yr (n.inst hs hd r) fun a dx fK k Xa ha qN hm fQ hE hz I=> ?_;obtain rfl:=Xa.symm;refine nf (fk hk) fun f' k1 k2 k3 k4=> ?_;obtain rfl:=aah.inj k4;simp only[abD,beq_iff_eq,ac6]at k1 k3;refine kbm_bound n.F hx.X n.N I k1.1.1 k1.1.2 k2 k3.1.1 k3.1.2 k3.2 k1.2 (gz hE hl) fun q h' F' N' jB=>aI (n.new (o:=.bound (.ref f') i) jB F' N' ⟨a,gT ha,rfl⟩) fun n2 x2=> ?_;exact p _ _ _ _ _ _ _ _ h n2 x2 ⟨q,by show(ad.m++ [q])[_]? =_;refine n.len ▸ ?_;simp,rfl⟩
theorem CR(hs:c.aj[i]? =some (.da b y))(h:Q (.ref i) c):cP e VR (.ref i) pyIter c Q:=by
 rintro x ad m aa u n r R E p;refine cI (n.at hs r) fun a ob Xb ha hm hO ho=> ?_;subst Xb;have hc:ob.cls= .type "callable_iterator" :=by
  cases b with
  | none=>exact(show ob=_ from hO) ▸ rfl
  | some b=>refine dy hO fun Z Z Z Xc=> ?_;exact Xc ▸ rfl
 refine wpAny_pyIter_slot ⟨_,ho,hc⟩ jG (wpAny_call_entry jG ⟨_,ho,hc⟩ nD ?_ (pq _));exact wpAny_pure ⟨_,rfl,"callable_iterator",_,⟨_,ho,hc⟩,gS.lookup,p _ _ _ _ _ _ _ _ h n (Ext.refl ..) r⟩
theorem ma(hx:Cx e)(hl:look e.scope.names y=some .local)(h:Q () {c with loc:=put c.loc y v}):cP e cD v (assign (.Name y pos) e.env) c Q:=
 fun x ad m aa v' n r R E p=>wpAny_assign_Name (cE hx hl h x ad m aa v' n r R E p)
theorem LQ(hx:Cx e)(hl:look e.scope.names y=some .local)(G6:∀x,foldedSetIterable iter e.env x=pure x) (h:Wp e VR (eval iter e.env) c fun u c1=>cP e VR u pyIter c1 fun it c2=>∃(I:Nat->St->Prop) (n:Nat),I n c2/\∀n c,I n c->cP e LL it pyNext c fun r c1=>match r with
   | none=>Q .next c1
   | some v=>Wp e bN (execs body e.env) {c1 with loc:=put c1.loc y v} (jx (fun c2=>∃m,m<n/\I m c2) Q)):Wp e bN (exec (.For (.Name y px) iter body [] pos) e.env) c Q:=by
 intro x ad m aa nw R E p;refine wpAny_For (h x ad m aa nw _ E fun u u' c1 h1 dF bx m1 av q1 n1 x1 r1=>q1 _ bx m1 av u' n1 r1 _ E fun it it' c2 h2 gI bp m2 ay q2 n2 x2 r2=> ?_) G6;refine dy q2 fun I k hI turn=>codeAny_forLoop (Uh e x bp ay I) ?_ k (Ge c2 bp m2 ay h2 gI ⟨hI,rfl,n2,Ext.refl ..⟩);intro n s hJ;refine Gd hJ fun c3 iq m3 cn h3 jr Xd es n3 x3=> ?_;subst es;refine turn n c3 Xd _ iq m3 cn it' n3 (VR.mono x3 r2) _ _ fun r r' c4 h4 Ug E1 m4 ky q4 n4 x4 r4=> ?_;cases r with
 | none=>
  cases r' with
  | some _=>exact r4.elim
  | none=>exact wpAny_execs_nil (p .next .next _ _ _ _ _ _ q4 n4 (((x1.trans x2).trans x3).trans x4) rfl)
 | some v=>
  cases r' with
  | none=>exact r4.elim
  | some v'=>
   refine ma (Q:=fun Z c'=>c'={c4 with loc:=put c4.loc y v}) hx hl rfl _ E1 m4 ky v' n4 r4 _ _ fun Z Z c5 h5 uR nY m5 dU q5 n5 x5 Z=> ?_;subst q5;refine q4 _ nY m5 dU n5 _ _ fun f f' c6 h6 yb CB m6 jC q6 n6 x6 r6=> ?_;have xx:=((x3.trans x4).trans x5).trans x6;have nx:(∃j,j<n/\I j c6)->∃j,j<n/\Uh e x bp ay I j {x with heap:=h6,toks:=yb}:=fun q=>ah q fun k hk Li=>⟨k,hk,Ge c6 CB m6 jC h6 yb ⟨Li,rfl,n6,xx⟩⟩;cases f with
   | next=>cases r6;exact nx q6
   | cont=>cases r6;exact nx q6
   | brk=>cases r6;exact p .next .next _ _ _ _ _ _ q6 n6 ((x1.trans x2).trans xx) rfl
   | ret v=>refine ah r6 fun v' Xe rv=> ?_;exact Xe ▸ p (.ret v) (.ret v') _ _ _ _ _ _ q6 n6 ((x1.trans x2).trans xx) ⟨v',rfl,rv⟩
end
def jI:Option Expr->Expr
 | some x=>x
 | none=>z0
noncomputable def strOf:Expr->List Nat
 | .Constant (.str x) _ _=>x.cps.toList
 | _=> []
section
variable{e:Fm}{c:St}
theorem zj{v lo up:Expr} (h:Wp e VR (eval v e.env) c fun a c1=>Wp e VR (eval lo e.env) c1 fun i c2=>Wp e VR (eval up e.env) c2 fun j c3=>∃s i' j',a= .pv (.str s)/\i= .pv (.int i')/\j= .pv (.int j')/\(0<=i'/\i'<=j'/\j'<=s.length/\s.length<=100000)/\Q (.pv (.str ((s.drop i'.toNat).take (j'-i').toNat))) c3):Wp e VR (eval (.Subscript v (.Slice (some lo) (some up) none p) pos) e.env) c Q:=
 fun x ad m aa n R E pp=>Subscript_ (h x ad m aa n _ E fun a a' c1 h1 dF bx m1 av q1 n1 x1 r1=>wpAny_Slice (q1 _ bx m1 av n1 _ E fun b b' c2 h2 gI bp m2 ay q2 n2 x2 r2=>q2 _ bp m2 ay n2 _ E fun d d' c3 h3 jr iq m3 cn q3 n3 x3 r3=>by
  refine nh q3 fun s i' j' Xf Xg Xh hb q=> ?_;subst Xf;subst Xg;subst Xh;refine aA r1 fun t1 Xi=> ?_;subst Xi;refine aA r2 fun t2 Xj=> ?_;subst Xj;refine aA r3 fun t3 Xk=> ?_;subst Xk;refine wpAny_pure ?_;refine slice_strN_ss n3.F n3.N (fun h' t' k F' N'=> ?_) rfl (fun r=>by cases v <;> rfl) (by show(SS s).length<=sizeLine;rw[eR];have:=aD;lia);have mX:Txt.slice (SS s) (some i') (some j')=SS ((s.drop i'.toNat).take (j'-i').toNat):=by have:=slice_closes (x:=SS s) ⟨hb.1,hb.2.1,by simpa using hb.2.2.1⟩;rw[beq_iff_eq]at this;simpa using this
  exact mX ▸ pp _ _ _ _ _ _ _ _ q (n3.heap F' N') ((x1.trans x2).trans x3) ⟨t',rfl⟩))
def onStr(a:V)(T:List Nat->Prop):Prop:=match a with
 | .pv (.str x)=>T x
 | _=>False
def zl(a:V)(T:Int->Prop):Prop:=match a with
 | .pv (.int x)=>T x
 | _=>False
theorem zm(h:onStr a T):∃x,a= .pv (.str x)/\T x:=by
 cases a with
 | pv p=>cases p <;> first | exact⟨_,rfl,h⟩ | exact h.elim
 | _=>exact h.elim
theorem rh(h:zl a T):∃x,a= .pv (.int x)/\T x:=by
 cases a with
 | pv p=>cases p <;> first | exact⟨_,rfl,h⟩ | exact h.elim
 | _=>exact h.elim
def u0(e:Fm)(P:Params)(sc:Scope)(y:Expr)(c:St)(Q:V->St->Prop):Prop:=
 ew e P sc 40 (dh y) c fun a c1=>ew e P sc 40 (jI (yA y)) c1 fun i c2=>ew e P sc 40 (jI (oT y)) c2 fun j c3=>onStr a fun s=>zl i fun i'=>zl j fun j'=>(0<=i'/\i'<=j'/\j'<=s.length/\s.length<=100000)/\Q (.pv (.str ((s.drop i'.toNat).take (j'-i').toNat))) c3
theorem tj(hx:Cx e)(hy:y= .Subscript (dh y) (.Slice (some (jI (yA y))) (some (jI (oT y))) none (nQ y)) (yz y))(h:u0 e e.w.params e.scope y c Q):Wp e VR (eval y e.env) c Q:=by rw[hy];refine zj ((iC hx _ _ _ _ h).mono fun a c1 h1=>(iC hx _ _ _ _ h1).mono fun i c2 h2=>(iC hx _ _ _ _ h2).mono fun j c3 h3=>ah (zm h3) fun x e1 h3=>ah (rh h3) fun y e2 h3=>ah (rh h3) fun z e3 h3=>⟨x,y,z,e1,e2,e3,h3⟩)
end
abbrev Xl(ln:Int):List (Str×V):= [(s "lineno",.pv (.int ln)),(s "instream",.ref 2),(s "whitespace",.pv (.str [10,9,13,32])),(s "pushback",.ref 4)]
abbrev Xm(buf:List Nat)(pos:Int):List (Str×V):= [(s "_StringIO__newline",.pv (.str [10])),(s "_StringIO__buf",.pv (.str buf)),(s "_StringIO__pos",.pv (.int pos))]
abbrev b4(ln:Int)(buf:List Nat)(pos:Int)(ps:List (List Int))(ex:List AO):List AO:=.inst 77 1:: .dict (Xl ln):: .inst 777 3:: .dict (Xm buf pos):: .vals .tup ps::ex
section
variable(P:Params)(e:Fm)(Q:AF->St->Prop)
theorem Xn(w:List Nat)(σ:List AO):sL e P (st 17) ⟨[(s "n",.pv (.int 1)),(s "what",.pv (.str w))],σ⟩ Q=Q (.ret (.pv (.int 1))) ⟨[(s "n",.pv (.int 1)),(s "what",.pv (.str w))],σ⟩:=by kernel_rfl
theorem Xo(ln:Int)(buf:List Nat)(pos:Int)(ps:List (List Int))(ex:List AO):sL e P (cst 23 3) ⟨[(s "self",.ref 2)],b4 ln buf pos ps ex⟩ Q=Q .next ⟨[(s "self",.ref 2)],b4 ln buf pos ps ex⟩:=by kernel_rfl
theorem Xp(ln:Int)(buf:List Nat)(pos:Int)(ps:List (List Int))(ex:List AO):sL e P (cst 23 25) ⟨[(s "self",.ref 2),(s "size",.pv (.int 1))],b4 ln buf pos ps ex⟩ Q= af e [.pv (.int 1),.pv (.str (strOf (az 1 (ak (at_ (ar (cst 23 25)) 1)))))] (.ref 243) (b4 ln buf pos ps ex) fun v σ=>dN e P (cst 23 25) 2 Q .next ⟨[(s "self",.ref 2),(s "size",v)],σ⟩:=by kernel_rfl
theorem Xq(ln:Int)(buf:List Nat)(pos:Int)(ps:List (List Int))(ex:List AO):dN e P (cst 23 25) 2 Q .next ⟨[(s "self",.ref 2),(s "size",.pv (.int 1))],b4 ln buf pos ps ex⟩= af e [.ref 2] (.ref 561) (b4 ln buf pos ps ex) fun Z σ=>dN e P (cst 23 25) 3 Q .next ⟨[(s "self",.ref 2),(s "size",.pv (.int 1))],σ⟩:=by kernel_rfl
abbrev BM:Expr:=ak (at_ (ar (cst 23 25)) 8)
theorem Xr(ln:Int)(buf:List Nat)(pos:Int)(ps:List (List Int))(ex:List AO):dN e P (cst 23 25) 3 Q .next ⟨[(s "self",.ref 2),(s "size",.pv (.int 1))],b4 ln buf pos ps ex⟩= (buf.length<=100000/\fL (decide ((buf.length:Int)<=pos)) (Q (.ret (.pv (.str []))) ⟨[(s "self",.ref 2),(s "size",.pv (.int 1)),(s "start",.pv (.int pos)),(s "stop",.pv (.int buf.length))],b4 ln buf pos ps ex⟩) (fL (decide (pos+1<buf.length)) (Wp e VR (eval BM e.env) ⟨[(s "self",.ref 2),(s "size",.pv (.int 1)),(s "start",.pv (.int pos)),(s "stop",.pv (.int (pos+1)))],b4 ln buf (pos+1) ps ex⟩ fun v c=>Q (.ret v) c) (Wp e VR (eval BM e.env) ⟨[(s "self",.ref 2),(s "size",.pv (.int 1)),(s "start",.pv (.int pos)),(s "stop",.pv (.int buf.length))],b4 ln buf buf.length ps ex⟩ fun v c=>Q (.ret v) c))):=by kernel_rfl
theorem Xs:BM= .Subscript (dh BM) (.Slice (some (jI (yA BM))) (some (jI (oT BM))) none (nQ BM)) (yz BM):=by kernel_rfl
theorem Xu(ln:Int)(buf:List Nat)(a b p:Int)(ps:List (List Int))(ex:List AO)(K:V->St->Prop):u0 e P (au (cst 23 25)) BM ⟨[(s "self",.ref 2),(s "size",.pv (.int 1)),(s "start",.pv (.int a)),(s "stop",.pv (.int b))],b4 ln buf p ps ex⟩ K= ((0<=a/\a<=b/\b<=buf.length/\buf.length<=100000)/\K (.pv (.str ((buf.drop a.toNat).take (b-a).toNat))) ⟨[(s "self",.ref 2),(s "size",.pv (.int 1)),(s "start",.pv (.int a)),(s "stop",.pv (.int b))],b4 ln buf p ps ex⟩):=by kernel_rfl
end
noncomputable def V.under (n:Nat):V->Bool
 | .ref i=>decide (i<n)
 | _=>true
noncomputable def AO.under (n:Nat):AO->Bool
 | .refs is=>is.all fun i=>decide (i<n)
 | .dict es=>es.all fun x=>x.2.under n
 | .inst _ d=>decide (d<n)
 | .bo _ es=>es.all fun x=>x.2.under n
 | .slot _ d vs=>decide (d<n)&&vs.all fun x=>match x with | some v=>v.under n | none=>true
 | .bound _ i=>decide (i<n)
 | .da i _=>match i with | some i=>decide (i<n) | none=>true
 | .cK l _=>decide (l<n)
 | .wrap _ i=>decide (i<n)
 | .cell v=>match v with | some v=>v.under n | none=>true
 | .ns l=>l.all fun x=>x.2.under n
 | _=>true
theorem AO.mc:AO.under n (.vals k xs)=true:=rfl
theorem AO.tl {vs:List (Option V)}:AO.under n (.slot C d vs)=(decide (d<n)&&vs.all fun x=>match x with | some v=>v.under n | none=>true):=rfl
theorem AO.tn:AO.under n (.inst C d)=decide (d<n):=rfl
theorem AO.md:AO.under n (.dict es)=es.all fun x=>x.2.under n:=rfl
theorem AO.rj:AO.under n (.bo ep es)=es.all fun x=>x.2.under n:=rfl
theorem AO.zo:AO.under n (.ns es)=es.all fun x=>x.2.under n:=rfl
theorem V.j7:V.under n (.ref i)=decide (i<n):=rfl
theorem V.me:V.under n (.pv p)=true:=rfl
noncomputable def Ad.take (ad:Ad)(n:Nat):Ad:=⟨ad.m.take n,ad.o.take n⟩
section
variable{w:World}{ad:Ad}{aa:Led}{n:Nat}
theorem fU(hi:i<n)(h:ad.m[i]? =some a):(ad.take n).m[i]? =some a:=by show(ad.m.take n)[i]? =some a;rw[ac9,if_pos hi];exact h
theorem RR.take (hi:i<n)(r:RR ad i v):RR (ad.take n) i v:=by refine ah r fun a h Xv=>Xv ▸ ⟨a,fU hi h,rfl⟩
theorem VR.take (hu:u.under n=true)(r:VR ad aa u v):VR (ad.take n) aa u v:=by
 cases u with
 | pv p=>exact r
 | ref i=>exact RR.take (of_decide_eq_true hu) r
 | glob g=>exact r
 | any=>exact r
theorem aM.with{α β:Type}{R R':α->β->Prop}{l:List α}{r:List β}(h:aM R l r){p:α->Bool}(hp:l.all p=true)(k:∀a b,p a=true->R a b->R' a b):aM R' l r:=by
 induction h with
 | nil=>exact .nil
 | cons h _ ih=>simp only[acP,abD]at hp;exact .cons (k _ _ hp.1 h) (ih hp.2)
theorem OR.take (hb:o.under n=true)(r:OR w ad aa o ob):OR w (ad.take n) aa o ob:=by
 cases o with
 | vals k xs=>exact r
 | refs xs=>refine bG r fun its q e k l=> ?_;exact⟨its,q,e,k.with hb fun a b h z=>RR.take (of_decide_eq_true h) z,l⟩
 | dict es=>refine bG r fun fK q e k l=> ?_;exact⟨fK,q,e,k.with hb fun a b h z=>⟨z.1,z.2.1,VR.take h z.2.2⟩,l⟩
 | inst C d=>refine ah r fun a e k=> ?_;exact⟨a,fU (of_decide_eq_true hb) e,k⟩
 | bo ep es=>refine ah r fun gn e k=> ?_;exact⟨gn,e,k.with hb fun a b h z=>⟨z.1,VR.take h z.2⟩⟩
 | ig S n=>exact r
 | slot C d vs=>replace hb:=acA.mp (show(decide (d<n)&&_)=true from hb);refine bG r fun a nR q e k=> ?_;exact⟨a,nR,fU (of_decide_eq_true hb.1) q,e,k.with hb.2 fun a b h z=>by cases a <;> cases b <;> first | exact z | exact VR.take h z⟩
 | bound f i=>refine ah r fun a e k=> ?_;exact⟨a,fU (of_decide_eq_true hb) e,k⟩
 | da i y=>
  cases i with
  | none=>exact r
  | some i=>refine dy r fun a t e k=> ?_;exact⟨a,t,fU (of_decide_eq_true hb) e,k⟩
 | cK l k=>refine ah r fun a e k=> ?_;exact⟨a,fU (of_decide_eq_true hb) e,k⟩
 | wrap f i=>refine ah r fun a e k=> ?_;exact⟨a,fU (of_decide_eq_true hb) e,k⟩
 | dK=>exact r
 | cell v=>refine ah r fun v' e k=> ?_;exact⟨v',e,by cases v <;> cases v' <;> first | exact k | exact VR.take hb k⟩
 | ns l=>refine ah r fun m e k=> ?_;exact⟨m,e,fun x v q=>let ⟨v',g1,g2⟩:=k x v q;⟨v',g1,VR.take (aaZ.mp hb _ (gy q)) g2⟩⟩
 | box τ=>exact r
theorem take_all(h:b∈(ad.take n).all):b∈ad.all:=by
 rcases Ad.dd.mp h with⟨i,h1⟩ | ⟨i,ow,h1,h2⟩
 ·have h1:(ad.m.take n)[i]? =some b:=h1;simp only[ac9]at h1;split at h1
  ·exact Ad.bk h1
  ·exact aZ h1
 ·have h1:(ad.o.take n)[i]? =some ow:=h1;simp only[ac9]at h1;split at h1
  ·exact Ad.dM h1 h2
  ·exact aZ h1
theorem mf{i:Nat}(h:(ad.take n).m[i]? =some a):ad.m[i]? =some a:=by
 have h:(ad.m.take n)[i]? =some a:=h;rw[ac9]at h;split at h
 ·exact h
 ·exact aZ h
theorem j8{i:Nat}(h:(ad.take n).o[i]? =some a):ad.o[i]? =some a:=by
 have h:(ad.o.take n)[i]? =some a:=h;rw[ac9]at h;split at h
 ·exact h
 ·exact aZ h
end
section
variable{e:Fm}
theorem cL.take {ad:Ad}(n:cL w h₀ L nv ad m aa ⟨l,σ++g⟩ h)(hb:σ.all (AO.under σ.length)=true)(hl:l.all (fun x=>x.2.under σ.length)=true):cL w h₀ L nv (ad.take σ.length) m aa ⟨l,σ⟩ h:=by
 have hlen:ad.m.length=σ.length+g.length:=by have:=n.len;simpa using this
 have aeD:ad.o.length=σ.length+g.length:=by have:=n.fP;simpa using this
 refine⟨n.F,n.N,n.nd,fun x v e1=> ?_,by show(ad.m.take _).length=σ.length;refine acO ▸ ?_;lia,by show(ad.o.take _).length=σ.length;refine acO ▸ ?_;lia,⟨fun i j a h1 h2=>n.fb.mi _ _ _ (mf h1) (mf h2),fun i j a ow h1 h2=>n.fb.mo _ _ _ _ (mf h1) (j8 h2),fun i j ow qD a h1 h2=>n.fb.oi _ _ _ _ _ (j8 h1) (j8 h2),fun i ow h1=>n.fb.on _ _ (j8 h1)⟩,fun b nA=>n.gp b (take_all nA),fun i o e1=> ?_⟩
 ·refine ah (n.loc x v e1) fun v' h1 h2=>⟨v',h1,VR.take (aaZ.mp hl _ (gy e1)) h2⟩
 ·have hi:i<σ.length:=(aab.mp e1).1;refine cY (n.rep i o (by show(σ++g)[i]? =_;exact(aaY hi) ▸ e1)) fun a ow ob h1 h2 h3 h4=> ?_;refine⟨a,ow,ob,fU hi h1,by show(ad.o.take _)[i]? =_;exact(ac9) ▸ (if_pos hi) ▸ h2,h3,?_⟩;have nA:=aaZ.mp hb o (abW e1);cases o <;> first | exact h4 | exact⟨h4.1,h4.2.take nA⟩
theorem Ext.take (x:Ext a1 n1 a2 n2)(hn:a1.m.length<=n):Ext a1 n1 (a2.take n) n2:=by refine ah x.grow fun t et ft=> ?_;refine⟨⟨t.take (n-a1.m.length),?_,fun b ob h hb=>ft b ob h (adu hb)⟩,x.tup,x.key,fun b ob h hb=>⟨(x.qE b ob h hb).1,fun q=>(x.qE b ob h hb).2 (take_all q)⟩⟩;show a2.m.take n=_;simp only[et,List.take_append,adD hn]
theorem af.drop (h:af e us f σ fun v σ'=>∃rk g,σ'=rk++g/\σ.length<=rk.length/\v.under rk.length=true/\rk.all (AO.under rk.length)=true/\Q v rk):af e us f σ Q:=
 fun x ad m aa vs n r R E p=>h x ad m aa vs n r R E fun v v' σ' h' tk aF ag q n' y rv=>by refine cI q fun rk g Xw h1 h2 h3 h4=> ?_;subst Xw;exact p v v' rk h' tk _ ag h4 (n'.take h3 rfl) (y.take (by rw[n.len];exact h1)) (VR.take h2 rv)
end
section
section
variable(P:Params)(e:Fm)(Q:AF->St->Prop)
theorem Xx(ln:Int)(buf:List Nat)(pos:Int)(ps:List (List Int))(ex:List AO):sL e P (cst 3 1) ⟨[(s "self",.ref 0)],b4 ln buf pos ps ex⟩ Q= af e [.ref 2,.pv (.int 1)] (.ref 723) (b4 ln buf pos ps ex) fun v σ=>dN e P (cst 3 1) 1 Q .next ⟨[(s "self",.ref 0),(s "ch",v)],σ⟩:=by kernel_rfl
theorem Xy(ln:Int)(buf:List Nat)(pos:Int)(ps:List (List Int))(ex:List AO)(a:List Nat):dN e P (cst 3 1) 1 Q .next ⟨[(s "self",.ref 0),(s "ch",.pv (.str a))],b4 ln buf pos ps ex⟩= fL (a== [10]) (Q (.ret (.pv (.str a))) ⟨[(s "self",.ref 0),(s "ch",.pv (.str a))],b4 (ln+1) buf pos ps ex⟩) (Q (.ret (.pv (.str a))) ⟨[(s "self",.ref 0),(s "ch",.pv (.str a))],b4 ln buf pos ps ex⟩):=by kernel_rfl
theorem gt_0(ln:Int)(buf:List Nat)(pos:Int)(ps:List (List Int))(ex:List AO):sL e P (cst 3 2) ⟨[(s "self",.ref 0)],b4 ln buf pos ps ex⟩ Q= fL (!ps.isEmpty) (cN e VR [.ref 4,.pv (.int 0)] (fun dc=>call (.builtin "list.pop") dc) ⟨[(s "self",.ref 0)],b4 ln buf pos ps ex⟩ fun v c=>Q (.ret v) c) (cP e VR (.ref 0) (fun v=>getAttr v (s "_read_char") true) ⟨[(s "self",.ref 0),(s "token",.pv (.str []))],b4 ln buf pos ps ex⟩ fun u c1=>cN e VR [u,.pv (.str [])] (fun dc=>call (.builtin "iter") dc) c1 fun v c2=>dN e P (cst 3 2) 3 Q .next {c2 with loc:=put c2.loc (s "fiter") v}):=by kernel_rfl
end
def mh{α:Type}(t:Sem α)(a:Addr)(o:Obj)(x:α):Prop:=match t with
 | .load a' _ k=>a'=a/\k o= .pure x
 | _=>False
theorem pA{fd:FuncData}(h:mh (bindArgs fd args) a o binds)(ho:(KK P).lookup a=some o)(X:(KK P).In x.heap):BindsTo x fd args binds:=by
 intro M A E Q hQ;generalize bindArgs fd args=t at h;cases t with
 | load a' p k=>obtain⟨rfl,h2⟩:=h;refine wpAny_bind (wpAny_loadPart (X _ _ ho) (h2 ▸ wpAny_pure hQ))
 | _=>exact h.elim
variable{e:Fm}
theorem LR(hx:Cx e)(hk:e.k=k+1)(w:List Nat)(σ:List AO):af e [.pv (.int 1),.pv (.str w)] (.ref 243) σ fun v σ'=>v= .pv (.int 1)/\σ'=σ:=by refine df hx hk (WB _) (names:= [s "n",s "what"]) (fun Z Z Z Z Z Z vs hv=>by refine eP (iW hv) fun Z Z Xz=> ?_;subst Xz;kernel_rfl) (by kernel_rfl) fun e' aL hw cH hs=>bJ aL hs ?_;exact of_eq (Xn _ e' _ w σ) ⟨rfl,rfl⟩
theorem LS(hx:Cx e)(hk:e.k=k+1)(ln:Int)(buf:List Nat)(pos:Int)(ps:List (List Int))(ex:List AO):af e [.ref 2] (.ref 561) (b4 ln buf pos ps ex) fun Z σ'=>σ'=b4 ln buf pos ps ex:=by refine df hx hk (WO _) (names:= [s "self"]) (fun Z Z Z Z Z Z vs hv=>by refine aA (je hv) fun Z XA=> ?_;subst XA;kernel_rfl) (by kernel_rfl) fun e' aL hw cH hs=>bJ aL hs ?_;exact of_eq (Xo _ e' _ ln buf pos ps ex) rfl
theorem LU(hx:Cx e)(hk:e.k=k+2)(ln:Int)(buf:List Nat)(p:Nat)(ps:List (List Int))(ex:List AO)(hz:buf.length<=100000):af e [.ref 2,.pv (.int 1)] (.ref 723) (b4 ln buf p ps ex) fun v σ'=>v= .pv (.str ((buf.drop p).take 1))/\σ'=b4 ln buf (if p<buf.length then p+1 else p:Nat) ps ex:=by
 refine lZ hx hk (WQ _) (names:= [s "self",s "size"]) (fun Z Z=>.nil) (fun Z Z Z Z Z Z x vs X hv=>by refine eP (iW hv) fun u1 u2 ez=>ez ▸ pA (a:=716) (o:=⟨(.type "tuple"),none,(.seq #[(.int (-1) 1149)] 0),#[]⟩) (of_eq (by kernel_rfl:mh _ _ _ _=(716=716/\(pure [(s "self",u1),(s "size",u2)]:Sem _)=pure [(s "self",u1),(s "size",u2)])) ⟨rfl,rfl⟩) (by kernel_rfl) X) (by kernel_rfl) fun e' aL hw cH hs=>bJ aL hs ?_;refine of_eq (Xp _ e' _ ln buf p ps ex) ((LR aL cH _ _).eqs (of_eq (Xq _ e' _ ln buf p ps ex) ((LS aL cH _ _ _ _ _).mono fun v σ hv=> ?_)));subst hv;refine of_eq (Xr _ e' _ ln buf p ps ex) ⟨hz,?_⟩;by_cases h1:p<buf.length
 ·simp only[decide_eq_false (Int.not_le_of_gt (acL.mpr h1))];refine qk ((if_pos h1) ▸ ?_);have key:∀(b:Int),b=(p:Int)+1->Wp e' VR (eval BM e'.env) ⟨[(s "self",.ref 2),(s "size",.pv (.int 1)),(s "start",.pv (.int p)),(s "stop",.pv (.int b))],b4 ln buf b ps ex⟩
    fun v c=>(match AF.ret v with | .ret v=>v | _=>.pv .none)= .pv (.str ((buf.drop p).take 1))/\c.aj=b4 ln buf ((p+1:Nat):Int) ps ex:=fun b hb=>by
   refine tj aL Xs ?_;simp only[hs];refine of_eq (Xu _ e' ln buf p b b ps ex _) ⟨⟨aa1 _,ac0 (jv hb),lx [_,_] [_] 0x1801b099b0890120 (ij hb) h1,hz⟩,?_,?_⟩
   ·simp only[hb,show((p:Int)+1-(p:Int)).toNat=1 by lia,acw]
   ·refine hb ▸ ?_;rfl
  by_cases h2:(p:Int)+1<buf.length
  ·simp only[decide_eq_true h2];exact sJ (key _ rfl)
  ·simp only[decide_eq_false h2];exact qk (key _ (ace ((liD h2)) (acL.mpr h1)))
 ·simp only[decide_eq_true (acF.mpr (ic h1))];refine sJ ⟨?_,by exact(if_neg h1) ▸ rfl⟩;simp only[ac2 ((ic h1))];rfl
theorem u4(hx:Cx e)(hk:e.k=k+3)(ln:Int)(buf:List Nat)(p:Nat)(ps:List (List Int))(ex:List AO)(hz:buf.length<=100000):af e [.ref 0] (.ref 60) (b4 ln buf p ps ex) fun v σ'=>v= .pv (.str ((buf.drop p).take 1))/\∃iX,σ'=b4 iX buf (if p<buf.length then p+1 else p:Nat) ps ex:=by
 refine af.gen fun K9 jf=> ?_;refine df hx hk (f60 _) (names:= [s "self"]) (fun Z Z Z Z Z Z vs hv=>by refine aA (je hv) fun Z XC=> ?_;subst XC;kernel_rfl) (by kernel_rfl) fun e' aL hw cH hs=>bJ aL hs ?_;refine of_eq (Xx _ e' _ ln buf p ps ex) ((LU aL cH _ _ _ _ _ hz).eqs (of_eq (Xy _ e' _ ln buf _ ps ex _) ?_));cases h:(List.take 1 (List.drop p buf)== [10])with
 | true=>exact sJ (jf _ _ ⟨rfl,_,rfl⟩)
 | false=>exact qk (jf _ _ ⟨rfl,_,rfl⟩)
end
abbrev LX(ln:Int)(buf:List Nat)(p:Int):List AO:=b4 ln buf p [] [.bound (.ref 60) 0,.da (some 5) (SS [])]
abbrev m7(tok ch:V):List (Str×V):= [(s "self",.ref 0),(s "token",tok),(s "fiter",.ref 6),(s "ch",ch)]
abbrev BN:Stmt:=at_ (ar (cst 3 2)) 3
abbrev Un:Stmt:=at_ (ax BN) 1
abbrev BO:Stmt:=at_ (ax Un) 0
abbrev gtB:Stmt:=at_ (ik Un) 2
def nextK(K:AF->St->Prop):AF->St->Prop:=fun fl c=>match fl with
 | .next=>K .next c
 | fl=>K fl c
abbrev iY:Scope:=au (cst 3 2)
section
variable(P:Params)(e:Fm)(K:AF->St->Prop)
theorem XD(ln:Int)(buf:List Nat)(p:Int)(acc a:List Nat):cZ (xw e P iY 40) (ax BN) ⟨m7 (.pv (.str acc)) (.pv (.str a)),LX ln buf p⟩ K= fL (subIn a [10,9,13,32]) (K .cont ⟨m7 (.pv (.str acc)) (.pv (.str a)),LX ln buf p⟩) (fL (a== [34]) (Wp e bN (exec BO e.env) ⟨m7 (.pv (.str acc)) (.pv (.str a)),LX ln buf p⟩ (nextK (nextK K))) (fL (a== [92]) (af e [.ref 0] (.ref 60) (LX ln buf p) fun v σ=>cZ (xw e P iY 39) ((ik Un).drop 1) ⟨m7 (.pv (.str acc)) v,σ⟩ (nextK K)) (acc.length+a.length<=100000/\Wp e bN (exec gtB e.env) ⟨m7 (.pv (.str (acc++a))) (.pv (.str a)),LX ln buf p⟩ (nextK (nextK K))))):=by kernel_rfl
theorem XE(ln:Int)(buf:List Nat)(p:Int)(acc a:List Nat):cZ (xw e P iY 39) ((ik Un).drop 1) ⟨m7 (.pv (.str acc)) (.pv (.str a)),LX ln buf p⟩ K= (acc.length+a.length<=100000/\Wp e bN (exec gtB e.env) ⟨m7 (.pv (.str (acc++a))) (.pv (.str a)),LX ln buf p⟩ (nextK K)):=by kernel_rfl
theorem XF(ln:Int)(buf:List Nat)(p:Int)(acc a:List Nat):cZ (xw e P iY 40) (ax BO) ⟨m7 (.pv (.str acc)) (.pv (.str a)),LX ln buf p⟩ K= fL (a== [34]) (K (.ret (.pv (.str acc))) ⟨m7 (.pv (.str acc)) (.pv (.str a)),LX ln buf p⟩) (fL (a== [92]) (af e [.ref 0] (.ref 60) (LX ln buf p) fun v σ=>cZ (xw e P iY 40) ((ax BO).drop 1) ⟨m7 (.pv (.str acc)) v,σ⟩ K) (acc.length+a.length<=100000/\K .next ⟨m7 (.pv (.str (acc++a))) (.pv (.str a)),LX ln buf p⟩)):=by kernel_rfl
theorem XG(ln:Int)(buf:List Nat)(p:Int)(acc a:List Nat):cZ (xw e P iY 40) ((ax BO).drop 1) ⟨m7 (.pv (.str acc)) (.pv (.str a)),LX ln buf p⟩ K= (acc.length+a.length<=100000/\K .next ⟨m7 (.pv (.str (acc++a))) (.pv (.str a)),LX ln buf p⟩):=by kernel_rfl
theorem XH(ln:Int)(buf:List Nat)(p:Int)(acc a:List Nat):cZ (xw e P iY 40) (ax gtB) ⟨m7 (.pv (.str acc)) (.pv (.str a)),LX ln buf p⟩ K= fL (subIn a [10,9,13,32]) (K (.ret (.pv (.str acc))) ⟨m7 (.pv (.str acc)) (.pv (.str a)),LX ln buf p⟩) (fL (a== [92]) (af e [.ref 0] (.ref 60) (LX ln buf p) fun v σ=>cZ (xw e P iY 40) ((ax gtB).drop 1) ⟨m7 (.pv (.str acc)) v,σ⟩ K) (acc.length+a.length<=100000/\K .next ⟨m7 (.pv (.str (acc++a))) (.pv (.str a)),LX ln buf p⟩)):=by kernel_rfl
theorem XI(ln:Int)(buf:List Nat)(p:Int)(acc a:List Nat):cZ (xw e P iY 40) ((ax gtB).drop 1) ⟨m7 (.pv (.str acc)) (.pv (.str a)),LX ln buf p⟩ K= (acc.length+a.length<=100000/\K .next ⟨m7 (.pv (.str (acc++a))) (.pv (.str a)),LX ln buf p⟩):=by kernel_rfl
end
section
noncomputable def rm(c:Nat):Bool:=subIn [c] [10,9,13,32]
noncomputable def bb:List Nat->Bool->List Nat->Option (List Nat×List Nat)
 | [],_,_=>none
 | c::r,f,acc=>cond f (bb r false (acc++ [c])) (if rm c then some (acc,r)else if c=92 then bb r true acc else bb r false (acc++ [c]))
noncomputable def qb:List Nat->Bool->List Nat->Option (List Nat×List Nat)
 | [],_,_=>none
 | c::r,f,acc=>cond f (qb r false (acc++ [c])) (if c=34 then some (acc,r)else if c=92 then qb r true acc else qb r false (acc++ [c]))
noncomputable abbrev i8(l acc:List Nat):Option (List Nat×List Nat):=bb l false acc
noncomputable abbrev iE(l acc:List Nat):Option (List Nat×List Nat):=qb l false acc
noncomputable def ee:List Nat->Option (List Nat×List Nat)
 | []=>none
 | c::r=>if rm c then ee r else if c=34 then iE r []else if c=92 then bb r true []else i8 r [c]
theorem lh:i8 (c::r) acc=if rm c then some (acc,r)else if c=92 then bb r true acc else i8 r (acc++ [c]):=rfl
theorem jJ:iE (c::r) acc=if c=34 then some (acc,r)else if c=92 then qb r true acc else iE r (acc++ [c]):=rfl
theorem jK:ee (c::r)=if rm c then ee r else if c=34 then iE r []else if c=92 then bb r true []else i8 r [c]:=rfl
theorem zp:BN= .For (.Name (s "ch") (eI BN)) (.Name (s "fiter") (yB BN)) (ax BN) [] (di BN):=by kernel_rfl
theorem G7:BO= .For (.Name (s "ch") (eI BO)) (.Name (s "fiter") (yB BO)) (ax BO) [] (di BO):=by kernel_rfl
theorem G8:gtB= .For (.Name (s "ch") (eI gtB)) (.Name (s "fiter") (yB gtB)) (ax gtB) [] (di gtB):=by kernel_rfl
theorem LV:look iY.names (s "ch")=some .local:=by kernel_rfl
theorem CS(e:Fm)(P:Params)(pos:Pos)(l:List (Str×V))(tok:V)(σ:List AO)(Q:V->St->Prop)(F:Prop):cM P iY (s "fiter") ⟨(s "self",.ref 0)::(s "token",tok)::(s "fiter",.ref 6)::l,σ⟩ Q F=Q (.ref 6) ⟨(s "self",.ref 0)::(s "token",tok)::(s "fiter",.ref 6)::l,σ⟩:=by kernel_rfl
theorem G9(l:List (Str×V))(tok v:V)(h:l= []\/∃u,l= [(s "ch",u)]):put ((s "self",.ref 0)::(s "token",tok)::(s "fiter",.ref 6)::l) (s "ch") v=m7 tok v:=by rcases h with rfl | ⟨u,rfl⟩ <;> kernel_rfl
theorem Ha(P:Params):∃of fd,(KK P).lookup 60=some of/\of.data= .func fd:=by refine KU (f60 P) fun Z Z Z Z Z Z h Z=>k5 _ _ ⟨h,rfl⟩
variable{e:Fm}
theorem CT(hx:Cx e)(hk:e.k=k+4)(lj:e.scope=iY)(hz:buf.length<=100000)(I:Nat->Nat->List Nat->Prop) (turn:∀n p acc,I n p acc->(∀(hp:p<buf.length) (ln:Int),Wp e bN (execs body e.env) ⟨m7 (.pv (.str acc)) (.pv (.str [buf[p]])),LX ln buf ((p+1:Nat):Int)⟩ (jx (fun c2=>∃m ln p acc ch,m<n/\c2=⟨m7 (.pv (.str acc)) ch,LX ln buf (p:Nat)⟩/\I m p acc) Q))/\(buf.length<=p->∀(ln:Int) l,Q .next ⟨(s "self",.ref 0)::(s "token",.pv (.str acc))::(s "fiter",.ref 6)::l,b4 ln buf (p:Nat) [] [.bound (.ref 60) 0,.da none (SS [])]⟩)) (n:Nat)(ln:Int)(p:Nat)(acc:List Nat)(h:I n p acc)(l:List (Str×V))(hl:l= []\/∃u,l= [(s "ch",u)]):Wp e bN (exec (.For (.Name (s "ch") tp) (.Name (s "fiter") ip) body [] pos) e.env) ⟨(s "self",.ref 0)::(s "token",.pv (.str acc))::(s "fiter",.ref 6)::l,LX ln buf (p:Nat)⟩ Q:=by
 refine LQ hx (by exact lj ▸ LV) (fun Z=>rfl) (cu hx False.elim ?_);rw[lj];refine of_eq (CS e _ ip l _ _ _ _) ?_;refine CR rfl ?_;refine⟨fun n c=>∃ln p acc l,(l= []\/∃u,l= [(s "ch",u)])/\c=⟨(s "self",.ref 0)::(s "token",.pv (.str acc))::(s "fiter",.ref 6)::l,LX ln buf (p:Nat)⟩/\I n p acc,n,⟨ln,p,acc,l,hl,rfl,h⟩,?_⟩;rintro n c ⟨ln,p,acc,l,hl,rfl,hI⟩;refine dy (Ha e.w.params) fun of fd ho hd=>aI (turn n p acc hI) fun t1 t2=> ?_;refine CP hx rfl rfl ho hd ((u4 (k:=k) (hx.in1 (ba 1900822960408 (bl hk))) (by show e.k-1=_;exact aac (bj 0xd290e29191b09928 (cA (ba 7279253784 (bl hk))) (bh hk)) (bj 0x2d09b29191e09928 (bl hk) eH)) ln buf p [] _ hz).mono fun v σ hv=>aI hv fun XJ XK=> ?_);subst XJ;refine aA XK fun iX XM=> ?_;subst XM;by_cases hp:p<buf.length
 ·have e1:(buf.drop p).take 1= [buf[p]]:=by rw[acs hp];rfl
  rw[e1,if_pos hp];refine⟨_,rfl,rfl,rfl,fun Z=> ?_,fun z=>by exact yu z⟩;dsimp only;refine(G9 l _ _ hl) ▸ ((t1 hp iX).mono fun f c2 h2=> ?_);cases f with
  | next=>refine KS h2 fun m ln p acc ch h3 LW h4=> ?_;exact LW ▸ ⟨m,h3,ln,p,acc,_,.inr ⟨ch,rfl⟩,rfl,h4⟩
  | cont=>refine KS h2 fun m ln p acc ch h3 LY h4=> ?_;exact LY ▸ ⟨m,h3,ln,p,acc,_,.inr ⟨ch,rfl⟩,rfl,h4⟩
  | brk=>exact h2
  | ret v=>exact h2
 ·have e1:(buf.drop p).take 1= []:=by rw[ac2 ((ic hp))];rfl
  rw[e1,if_neg hp];exact⟨_,rfl,rfl,rfl,fun z=>absurd rfl z,fun Z=>t2 ((ic hp)) iX l⟩
end
section
theorem one_beq(c d:Nat):(([c]:List Nat)== [d])=decide (c=d):=by
 by_cases h:c=d
 ·subst h;simp
 ·simp[h]
theorem drop_cons{l:List Nat}(h:l.drop p=c::r):p<l.length/\l.drop (p+1)=r/\∃hp:p<l.length,l[p]=c:=by
 have hp:p<l.length:=by
  by_cases q:p<l.length
  ·exact q
  ·rw[ac2 ((ic q))]at h;exact Gg h
 rw[acs hp]at h;injection h with h1 h2;exact⟨hp,h2,hp,h1⟩
variable{e:Fm}
theorem Fn(hx:Cx e)(hk:e.k=k+4)(lj:e.scope=iY)(hz:buf.length<=100000)(hp:p<=buf.length)(ha:acc.length<=p)(hb:i8 (buf.drop p) acc=some (w,r))(ln:Int)(l:List (Str×V))(hl:l= []\/∃u,l= [(s "ch",u)]):Wp e bN (exec gtB e.env) ⟨(s "self",.ref 0)::(s "token",.pv (.str acc))::(s "fiter",.ref 6)::l,LX ln buf (p:Nat)⟩ fun fl c=>fl= .ret (.pv (.str w))/\∃(ln:Int) (p':Nat),c.aj=LX ln buf p'/\p'<=buf.length/\buf.drop p'=r:=by
 refine Wp.gen fun K9 jf=>G8 ▸ ?_;refine CT hx hk lj hz (fun n p acc=>n=buf.length-p/\p<=buf.length/\acc.length<=p/\i8 (buf.drop p) acc=some (w,r)) (fun n p acc hI=> ?_) (buf.length-p) ln p acc ⟨rfl,hp,ha,hb⟩ l hl;obtain⟨hn,hp,ha,hb⟩:=hI;refine⟨fun bT ln=>iD hx ?_,fun J2=> ?_⟩
 ·rw[(acs bT)]at hb;refine lj ▸ (of_eq (XH _ e _ ln buf _ acc [buf[p]]) ?_);simp only[one_beq];rw[lh]at hb;cases hw:rm buf[p]with
  | true=>rw[if_pos hw]at hb;cases hb;simp only[show subIn [buf[p]] [10,9,13,32]=true from hw];exact sJ (jf _ _ ⟨rfl,ln,p+1,rfl,bT,rfl⟩)
  | false=>
   rw[if_neg (by refine hw ▸ ?_;simp)]at hb;refine(show subIn [buf[p]] [10,9,13,32]=false from hw) ▸ (qk ?_);by_cases u5:buf[p]=92
   ·rw[if_pos u5]at hb;refine(decide_eq_true u5) ▸ (sJ ?_);cases hr:buf.drop (p+1)with
    | nil=>exact aZ (hr ▸ hb:)
    | cons d r'=>replace hb:=hr ▸ hb;obtain⟨h1,h2,_,h3⟩:=drop_cons hr;refine(u4 (k:=k+1) hx (aac (ba 0xdb1990e190918 (bh hk)) (ba 522309125314840 (bl hk))) ln buf (p+1) [] _ hz).mono fun v σ hv=> ?_;obtain⟨rfl,iX,rfl⟩:=hv;refine hr ▸ (if_pos h1) ▸ (of_eq (XI _ e _ iX buf _ acc [d]) ⟨by simp;exact bj 0x1869f5f0186a05f292bb199910938 ha h1 hz,?_⟩);exact Ua (buf.length-(p+1+1)) iX (p+1+1) _ _ ⟨nj 0x4b09439139292bb19909938 (cA h1) eH (bl hn),rfl,rfl,h1,by simp;exact adh ha,by exact h2 ▸ hb⟩
   ·replace hb:=(if_neg u5) ▸ hb;refine(decide_eq_false u5) ▸ (qk ⟨by simp;exact bj 0x1869f5f0186a05f292b19910938 ha bT hz,?_⟩);exact Ua (buf.length-(p+1)) ln (p+1) _ _ ⟨nj 0x4b09439139292b1909938 (cA bT) eH (bl hn),rfl,rfl,bT,by simp;exact ha,hb⟩
 ·replace hb:=(ac2 J2) ▸ hb;exact aZ hb
theorem LZ(hx:Cx e)(hk:e.k=k+4)(lj:e.scope=iY)(hz:buf.length<=100000)(hp:p<=buf.length)(ha:acc.length<=p)(hb:iE (buf.drop p) acc=some (w,r))(ln:Int)(l:List (Str×V))(hl:l= []\/∃u,l= [(s "ch",u)]):Wp e bN (exec BO e.env) ⟨(s "self",.ref 0)::(s "token",.pv (.str acc))::(s "fiter",.ref 6)::l,LX ln buf (p:Nat)⟩ fun fl c=>fl= .ret (.pv (.str w))/\∃(ln:Int) (p':Nat),c.aj=LX ln buf p'/\p'<=buf.length/\buf.drop p'=r:=by
 refine Wp.gen fun K9 jf=>G7 ▸ ?_;refine CT hx hk lj hz (fun n p acc=>n=buf.length-p/\p<=buf.length/\acc.length<=p/\iE (buf.drop p) acc=some (w,r)) (fun n p acc hI=> ?_) (buf.length-p) ln p acc ⟨rfl,hp,ha,hb⟩ l hl;obtain⟨hn,hp,ha,hb⟩:=hI;refine⟨fun bT ln=>iD hx ?_,fun J2=> ?_⟩
 ·rw[(acs bT)]at hb;refine lj ▸ (of_eq (XF _ e _ ln buf _ acc [buf[p]]) ?_);simp only[one_beq,one_beq];rw[jJ]at hb;by_cases CU:buf[p]=34
  ·replace hb:=(if_pos CU) ▸ hb;cases hb;simp only[decide_eq_true CU];exact sJ (jf _ _ ⟨rfl,ln,p+1,rfl,bT,rfl⟩)
  ·replace hb:=(if_neg CU) ▸ hb;refine(decide_eq_false CU) ▸ (qk ?_);by_cases u5:buf[p]=92
   ·replace hb:=(if_pos u5) ▸ hb;refine(decide_eq_true u5) ▸ (sJ ?_);cases hr:buf.drop (p+1)with
    | nil=>exact aZ (hr ▸ hb:)
    | cons d r'=>replace hb:=hr ▸ hb;refine bL (drop_cons hr) fun h1 h2 L2=>aA L2 fun Z h3=> ?_;refine(u4 (k:=k+1) hx (aac (ba 0xdb1990e190918 (bh hk)) (ba 522309125314840 (bl hk))) ln buf (p+1) [] _ hz).mono fun v σ hv=> ?_;obtain⟨rfl,iX,rfl⟩:=hv;refine hr ▸ (if_pos h1) ▸ (of_eq (XG _ e _ iX buf _ acc [d]) ⟨by simp;exact bj 0x1869f5f0186a05f292bb199910938 ha h1 hz,?_⟩);exact Ua (buf.length-(p+1+1)) iX (p+1+1) _ _ ⟨nj 0x4b09439139292bb19909938 (cA h1) eH (bl hn),rfl,rfl,h1,by simp;exact adh ha,by exact h2 ▸ hb⟩
   ·replace hb:=(if_neg u5) ▸ hb;refine(decide_eq_false u5) ▸ (qk ⟨by simp;exact bj 0x1869f5f0186a05f292b19910938 ha bT hz,?_⟩);exact Ua (buf.length-(p+1)) ln (p+1) _ _ ⟨nj 0x4b09439139292b1909938 (cA bT) eH (bl hn),rfl,rfl,bT,by simp;exact ha,hb⟩
 ·replace hb:=(ac2 J2) ▸ hb;exact aZ hb
end
section
section
variable(P:Params)(e:Fm)(Q:AF->St->Prop)
theorem XN(σ:List AO):dN e P (cst 3 2) 3 Q .next ⟨[(s "self",.ref 0),(s "token",.pv (.str [])),(s "fiter",.ref 6)],σ⟩=Wp e bN (exec BN e.env) ⟨[(s "self",.ref 0),(s "token",.pv (.str [])),(s "fiter",.ref 6)],σ⟩ (dN e P (cst 3 2) 4 Q):=by kernel_rfl
theorem XO(acc:List Nat)(l:List (Str×V))(σ:List AO):dN e P (cst 3 2) 4 Q .next ⟨(s "self",.ref 0)::(s "token",.pv (.str acc))::(s "fiter",.ref 6)::l,σ⟩=Q (.ret (.pv (.str acc))) ⟨(s "self",.ref 0)::(s "token",.pv (.str acc))::(s "fiter",.ref 6)::l,σ⟩:=by kernel_rfl
theorem XQ(ln:Int)(buf:List Nat)(p:Int)(ps:List (List Int))(t:List Int):sL e P (cst 3 3) ⟨[(s "self",.ref 0),(s "token",.pv (.tup t))],b4 ln buf p ps []⟩ Q= (ps.length<100000/\Q .next ⟨[(s "self",.ref 0),(s "token",.pv (.tup t))],b4 ln buf p (ps++ [t]) []⟩):=by kernel_rfl
theorem Hb:lg P 77 (s "_read_char")=some 60:=by kernel_rfl
theorem CV(v:V):put [(s "self",.ref 0),(s "token",.pv (.str []))] (s "fiter") v= [(s "self",.ref 0),(s "token",.pv (.str [])),(s "fiter",v)]:=by kernel_rfl
end
variable{e:Fm}
section
variable{c:St}
theorem Hc(hs:c.aj[i]? =some (.vals kd (x::xs)))(h:Q (.pv (kd.inj x)) {c with aj:=c.aj.set i (.vals kd xs)}):cN e VR [.ref i,.pv (.int 0)] (fun vs=>call (.builtin "list.pop") vs) c Q:=by
 refine .of2 (.ri fun sh ad m aa a t n ha R E q=>n.lL hs ha fun its k' hm hi hz ho=> ?_);cases hi with
 | cons h1 h2=>rename_i v its;have hlen:=h2.length;simp only[aaR]at hlen;refine kl_popAt (k:=0) (p:= []) (y:=v) (q:=its) n.F n.N (by decide) (by simp[seqIndex?]) rfl (cJ n.nd hm) (by have:=aD;simp at hz ⊢;lia) (fun h' F' N'=> ?_);have x':Ext ad aa ad (bB aa a (listOf its.toArray (k'+1))):=cf n.nd (Ad.bk ha) hm (by simp);exact q (.pv (kd.inj x)) v _ h' sh.toks ad m _ h (n.upd hs ha hm (by simp) F' N' ⟨its,k'+1,rfl,h2.mono fun _ _=>VP.mono x'.gr,by simp at hz;exact bY 0x186a05f01869f5f0918 hz⟩) x' (VP.mono x'.gr h1)
end
theorem L3(hx:Cx e)(hk:e.k=k+4)(lj:e.scope=iY)(hz:buf.length<=100000)(hp:p<=buf.length)(hb:ee (buf.drop p)=some (w,r))(ln:Int):Wp e bN (exec BN e.env) ⟨[(s "self",.ref 0),(s "token",.pv (.str [])),(s "fiter",.ref 6)],LX ln buf (p:Nat)⟩ fun fl c=>fl= .ret (.pv (.str w))/\∃(ln:Int) (p':Nat),c.aj=LX ln buf p'/\p'<=buf.length/\buf.drop p'=r:=by
 refine Wp.gen fun K9 jf=>zp ▸ ?_;refine CT hx hk lj hz (fun n p acc=>n=buf.length-p/\p<=buf.length/\acc= []/\ee (buf.drop p)=some (w,r)) (fun n p acc hI=> ?_) (buf.length-p) ln p [] ⟨rfl,hp,rfl,hb⟩ [] (.inl rfl);refine vU hI fun hn hp L6 hb=> ?_;obtain rfl:=L6.symm;refine⟨fun bT ln=>iD hx ?_,fun J2=> ?_⟩
 ·rw[(acs bT)]at hb;refine lj ▸ (of_eq (XD _ e _ ln buf _ [] [buf[p]]) ?_);simp only[one_beq,one_beq];rw[jK]at hb;cases hw:rm buf[p]with
  | true=>replace hb:=(if_pos hw) ▸ hb;exact(show subIn [buf[p]] [10,9,13,32]=true from hw) ▸ sJ ⟨buf.length-(p+1),ln,p+1,[],_,nj 0x4b09439139292b1909938 (cA bT) eH (bl hI.1),rfl,rfl,bT,rfl,hb⟩
  | false=>
   rw[if_neg (by refine hw ▸ ?_;simp)]at hb;refine(show subIn [buf[p]] [10,9,13,32]=false from hw) ▸ (qk ?_);by_cases CU:buf[p]=34
   ·replace hb:=(if_pos CU) ▸ hb;simp only[decide_eq_true CU];refine sJ ((LZ hx hk lj hz bT (by simp) hb ln [(s "ch",_)] (.inr ⟨_,rfl⟩)).mono fun fl c hq=>hq.1 ▸ jf _ _ (⟨rfl,hq.2⟩))
   ·replace hb:=(if_neg CU) ▸ hb;simp only[decide_eq_false CU];refine qk ?_;by_cases u5:buf[p]=92
    ·replace hb:=(if_pos u5) ▸ hb;simp only[decide_eq_true u5];refine sJ ?_;cases hr:buf.drop (p+1)with
     | nil=>replace hb:=hr ▸ hb;exact aZ hb
     | cons d r'=>replace hb:=hr ▸ hb;refine bL (drop_cons hr) fun h1 h2 L7=>aA L7 fun Z h3=> ?_;refine(u4 (k:=k+1) hx (aac (ba 0xdb1990e190918 (bh hk)) (ba 522309125314840 (bl hk))) ln buf (p+1) [] _ hz).mono fun v σ hv=> ?_;obtain rfl:=hv.1.symm;refine aA hv.2 fun iX L8=> ?_;obtain rfl:=L8.symm;refine hr ▸ (if_pos h1) ▸ (of_eq (XE _ e _ iX buf _ [] [d]) ⟨by simp,?_⟩);refine(Fn hx hk lj hz h1 (by simp) (by exact h2 ▸ hb) iX [(s "ch",_)] (.inr ⟨_,rfl⟩)).mono fun fl c hq=>hq.1 ▸ jf _ _ (⟨rfl,hq.2⟩)
    ·rw[if_neg u5]at hb;simp only[decide_eq_false u5];refine qk ⟨by simp,?_⟩;refine(Fn hx hk lj hz bT (by simp) hb ln [(s "ch",_)] (.inr ⟨_,rfl⟩)).mono fun fl c hq=>hq.1 ▸ jf _ _ (⟨rfl,hq.2⟩)
 ·simp only[ac2 J2]at hb;exact aZ hb
theorem rn(hx:Cx e)(lj:e.scope=iY)(h:Wp e bN (exec BN e.env) ⟨[(s "self",.ref 0),(s "token",.pv (.str [])),(s "fiter",.ref 6)],LX ln buf p⟩ (dN e e.w.params (cst 3 2) 4 Q)):Wp e bN (execs (ar (cst 3 2)) e.env) ⟨[(s "self",.ref 0)],b4 ln buf p [] []⟩ Q:=by refine bJ hx lj (of_eq (gt_0 _ e _ ln buf p [] []) (qk ?_));refine rf hx rfl rfl (Hb _) (by kernel_rfl) ?_;refine CQ rfl ?_;simp only[CV];exact of_eq (XN _ e _ _) h
theorem Hd(hx:Cx e){k:Nat}(hk:e.k=k+5){ln:Int}{buf:List Nat}(hz:buf.length<=100000){p:Nat}(hp:p<=buf.length)(hb:ee (buf.drop p)=some (w,r)):af e [.ref 0] (.ref 67) (b4 ln buf p [] []) fun v σ=>v= .pv (.str w)/\∃(ln:Int) (p':Nat),σ=b4 ln buf p' [] []/\p'<=buf.length/\buf.drop p'=r:=by refine af.drop (df hx hk (WC _) (names:= [s "self"]) (fun Z Z Z Z Z Z vs hv=>by refine aA (je hv) fun Z L9=> ?_;subst L9;kernel_rfl) (by kernel_rfl) fun e' aL hw cH hs=>rn aL hs ((L3 aL cH hs hz hp hb ln).mono fun fl c hq=> ?_));refine aI hq fun Ma Mb=> ?_;subst Ma;refine bG Mb fun iX p' h1 h2 h3=>⟨b4 iX buf p' [] [],[.bound (.ref 60) 0,.da (some 5) (SS [])],h1,by simp,rfl,by kernel_rfl,rfl,iX,p',rfl,h2,h3⟩
theorem He(hx:Cx e){k:Nat}(hk:e.k=k+5){ln:Int}{buf:List Nat}(hz:buf.length<=100000)(hp:buf.length<=p):af e [.ref 0] (.ref 67) (b4 ln buf p [] []) fun v σ=>v= .pv (.str [])/\∃(ln:Int),σ=b4 ln buf p [] []:=by refine af.drop (df hx hk (WC _) (names:= [s "self"]) (fun Z Z Z Z Z Z vs hv=>by refine aA (je hv) fun Z Mc=> ?_;subst Mc;kernel_rfl) (by kernel_rfl) fun e' aL hw cH hs=>rn aL hs ?_);refine zp ▸ (CT aL cH hs hz (fun n p' acc=>p'=p/\acc= []) (fun n p' acc hI=> ?_) 0 ln p [] ⟨rfl,rfl⟩ [] (.inl rfl));obtain⟨rfl,rfl⟩:=hI;refine⟨fun bT=>absurd bT (Nat.not_lt.mpr hp),fun J2 iX l=>of_eq (XO _ e' _ [] l _) ?_⟩;exact⟨b4 iX buf p' [] [],[.bound (.ref 60) 0,.da none (SS [])],rfl,by simp,rfl,by kernel_rfl,rfl,iX,rfl⟩
theorem CW(hx:Cx e)(hk:e.k=k+5):af e [.ref 0] (.ref 67) (b4 ln buf p (t::ps) []) fun v σ=>v= .pv (.tup t)/\σ=b4 ln buf p ps []:=by refine df hx hk (WC _) (names:= [s "self"]) (fun Z Z Z Z Z Z vs hv=>by refine aA (je hv) fun Z Md=> ?_;subst Md;kernel_rfl) (by kernel_rfl) fun e' aL hw cH hs=>bJ aL hs ?_;refine of_eq (gt_0 _ e' _ ln buf p (t::ps) []) (sJ (Hc rfl ⟨rfl,rfl⟩))
theorem Me(hx:Cx e)(hk:e.k=k+1)(hz:ps.length<100000):af e [.ref 0,.pv (.tup t)] (.ref 74) (b4 ln buf p ps []) fun v σ=>v= .pv .none/\σ=b4 ln buf p (ps++ [t]) []:=by refine df hx hk (f74 _) (names:= [s "self",s "token"]) (fun Z Z Z Z Z Z vs hv=>by refine eP (iW hv) fun Z Z Mf=> ?_;subst Mf;kernel_rfl) (by kernel_rfl) fun e' aL hw cH hs=>bJ aL hs ?_;exact of_eq (XQ _ e' _ ln buf p ps t) ⟨hz,rfl,rfl⟩
end
structure Line where
 ln:Int
 buf:List Nat
 pos:Nat
 ps:List (List Int)
abbrev Line.ao (l:Line):AO:=.box (b4 l.ln l.buf l.pos l.ps [])
structure Wd where
 words:Line
 gh:List AO
 lines:Nat->Nat->Line
 aY:Nat->Nat->List (List Int)
 aC:Nat->List (List Int)
 ahead:Nat->List Int
 out:Nat->List (List Int)
 aP:Nat->Int
 told:List (List Nat)
 ae:List (List Int)
abbrev Uo:List (Str×V):= [(s "words",.ref 1),(s "sorter",.ref 2),(s "lines",.ref 3),(s "came",.ref 16),(s "heaps",.ref 29),(s "ahead",.ref 33),(s "out",.ref 37),(s "clock",.ref 41),(s "told",.ref 42),(s "mails",.ref 43)]
abbrev Wd.aj (w:Wd):List AO:= [.dict Uo,w.words.ao,.box w.gh,
 .refs [4,5,6],.refs [7,8,9],.refs [10,11,12],.refs [13,14,15],
 (w.lines 0 0).ao,(w.lines 0 1).ao,(w.lines 0 2).ao,(w.lines 1 0).ao,(w.lines 1 1).ao,(w.lines 1 2).ao,(w.lines 2 0).ao,(w.lines 2 1).ao,(w.lines 2 2).ao,
 .refs [17,18,19],.refs [20,21,22],.refs [23,24,25],.refs [26,27,28],
 .vals .tup (w.aY 0 0),.vals .tup (w.aY 0 1),.vals .tup (w.aY 0 2),.vals .tup (w.aY 1 0),.vals .tup (w.aY 1 1),.vals .tup (w.aY 1 2),.vals .tup (w.aY 2 0),.vals .tup (w.aY 2 1),.vals .tup (w.aY 2 2),
 .refs [30,31,32],.vals .tup (w.aC 0),.vals .tup (w.aC 1),.vals .tup (w.aC 2),
 .refs [34,35,36],.vals .int (w.ahead 0),.vals .int (w.ahead 1),.vals .int (w.ahead 2),
 .refs [38,39,40],.vals .tup (w.out 0),.vals .tup (w.out 1),.vals .tup (w.out 2),
 .vals .int [w.aP 0,w.aP 1,w.aP 2],.vals .str w.told,.vals .tup w.ae]
section
variable(P:Params)(e:Fm)(Q:AF->St->Prop)
abbrev J3(q p:Int):List (Str×V):= [(s "world",.ref 0),(s "q",.pv (.int q)),(s "p",.pv (.int p))]
end
noncomputable def up1{α:Type}(f:Nat->α)(i:Nat)(x:α):Nat->α:=fun j=>if j=i then x else f j
noncomputable def gJ{α:Type}(f:Nat->Nat->α)(i j:Nat)(x:α):Nat->Nat->α:=fun a b=>if a=i/\b=j then x else f a b
noncomputable abbrev imax(a b:Int):Int:=if b > a then b else a
noncomputable abbrev Fo(w:Wd)(q p:Nat)(a b m:Int):Wd:={w with aY:=gJ w.aY p q (w.aY p q++ [[a,b,m]]),aP:=up1 w.aP q (imax (w.aP q) a+1),ahead:=up1 w.ahead q (w.ahead q++ [m])}
noncomputable abbrev jL(w:Wd)(q:Nat)(h:List (List Int)):Wd:={w with aC:=up1 w.aC q h}
noncomputable abbrev iQ(w:Wd)(p q:Nat)(l:Line):Wd:={w with lines:=gJ w.lines p q l}
noncomputable abbrev Mg(w:Wd):List Int:= [w.aP 0,w.aP 1,w.aP 2]
section
variable(P:Params)(e:Fm)(Q:AF->St->Prop)
theorem Mh(w:Wd):∀(q p:Nat),q<3->p<3->sL e P (st 37) ⟨J3 q p,w.aj⟩ Q=af e [.ref (7+3*p+q)] (.ref 67) w.aj fun v σ=>dN e P (st 37) 1 Q .next ⟨J3 q p++ [(s "mail",v)],σ⟩
 | 0,0,_,_=>by kernel_rfl
 | 0,1,_,_=>by kernel_rfl
 | 0,2,_,_=>by kernel_rfl
 | 1,0,_,_=>by kernel_rfl
 | 1,1,_,_=>by kernel_rfl
 | 1,2,_,_=>by kernel_rfl
 | 2,0,_,_=>by kernel_rfl
 | 2,1,_,_=>by kernel_rfl
 | 2,2,_,_=>by kernel_rfl
 | n+3,_,h,_=>gm h
 | _,n+3,_,h=>gm h
theorem XR(q p:Int)(σ:List AO):dN e P (st 37) 1 Q .next ⟨J3 q p++ [(s "mail",.pv (.str []))],σ⟩=Q (.ret (.pv (.bool false))) ⟨J3 q p++ [(s "mail",.pv (.str []))],σ⟩:=by kernel_rfl
abbrev tkC(w:Wd)(q p:Nat)(a b m:Int)(K:Prop):Prop:=
 (w.aY p q).length<100000/\(0<=(q:Int)/\(q:Int)<(Mg w).length)/\(0<=(0:Int)/\(0:Int)<([a,b,m]:List Int).length/\([a,b,m]:List Int).length<=100000)/\(0<=(q:Int)/\(q:Int)<(Mg w).length)/\(0<=(2:Int)/\(2:Int)<([a,b,m]:List Int).length/\([a,b,m]:List Int).length<=100000)/\(w.ahead q).length<100000/\K
theorem XT(w:Wd)(a b m:Int):∀(q p:Nat),q<3->p<3->dN e P (st 37) 1 Q .next ⟨J3 q p++ [(s "mail",.pv (.tup [a,b,m]))],w.aj⟩= tkC w q p a b m (af e [.ref (30+q),.pv (.tup [a,b,m])] (.ref 208) (Fo w q p a b m).aj fun Z σ=>Q (.ret (.pv (.bool true))) ⟨J3 q p++ [(s "mail",.pv (.tup [a,b,m]))],σ⟩)
 | 0,0,_,_=>by kernel_rfl
 | 0,1,_,_=>by kernel_rfl
 | 0,2,_,_=>by kernel_rfl
 | 1,0,_,_=>by kernel_rfl
 | 1,1,_,_=>by kernel_rfl
 | 1,2,_,_=>by kernel_rfl
 | 2,0,_,_=>by kernel_rfl
 | 2,1,_,_=>by kernel_rfl
 | 2,2,_,_=>by kernel_rfl
 | n+3,_,h,_=>gm h
 | _,n+3,_,h=>gm h
end
section
variable{e:Fm}
theorem zr:∀ {us:List V},us.all V.root=true->us.map (V.bQ (eJ [i] n))=us.map (V.bQ fun Z=>i):=by
 intro us;induction us with
 | nil=>exact fun Z=>rfl
 | cons u r ih=>
  intro h;simp only[acP,abD]at h;simp only[acu,acu,ih h.2];congr 1;cases u with
  | ref j=>have hj:j=0:=eq_of_beq (show(j==0)=true from h.1);subst hj;rfl
  | _=>rfl
theorem af.Ck (hs:σ[i]? =some (.vals kd xs))(hu:us.all V.root=true)(h:af e us f [.vals kd xs] Q') (k:∀v τ',Q' v τ'->v.flat=true/\∃Hf ys,τ'= [.vals Hf ys]/\Q v (σ.set i (.vals Hf ys))):af e (us.map (V.bQ fun Z=>i)) f σ Q:=by
 rw[<-zr hu];refine af.lift (by simp) rfl (fun j o i' h1 h2=> ?_) h fun v τ' q=> ?_
 ·cases j with
  | zero=>simp at h1 h2;subst h1;subst h2;exact hs
  | succ j=>exact aZ h1
 ·obtain⟨h1,Hf,ys,rfl,h2⟩:=k v τ' q;have e1:v.bQ (eJ [i] σ.length)=v:=by cases v <;> first | rfl | exact absurd h1 ack
  have e2:ny [i] σ [.vals Hf ys]=σ.set i (.vals Hf ys):=ab5 _;simp only[e1,e2];exact h2
theorem ro(w:Wd):∀(q p:Nat),q<3->p<3->w.aj[7+3*p+q]? =some (w.lines p q).ao
 | 0,0,_,_=>rfl
 | 0,1,_,_=>rfl
 | 0,2,_,_=>rfl
 | 1,0,_,_=>rfl
 | 1,1,_,_=>rfl
 | 1,2,_,_=>rfl
 | 2,0,_,_=>rfl
 | 2,1,_,_=>rfl
 | 2,2,_,_=>rfl
 | n+3,_,h,_=>gm h
 | _,n+3,_,h=>gm h
theorem kA(w:Wd)(l:Line):∀(q p:Nat),q<3->p<3->w.aj.set (7+3*p+q) l.ao=(iQ w p q l).aj
 | 0,0,_,_=>rfl
 | 0,1,_,_=>rfl
 | 0,2,_,_=>rfl
 | 1,0,_,_=>rfl
 | 1,1,_,_=>rfl
 | 1,2,_,_=>rfl
 | 2,0,_,_=>rfl
 | 2,1,_,_=>rfl
 | 2,2,_,_=>rfl
 | n+3,_,h,_=>gm h
 | _,n+3,_,h=>gm h
theorem zt(w:Wd):∀(q:Nat),q<3->w.aj[30+q]? =some (.vals .tup (w.aC q))
 | 0,_=>rfl
 | 1,_=>rfl
 | 2,_=>rfl
 | n+3,h=>gm h
theorem rq(w:Wd)(h:List (List Int)):∀(q:Nat),q<3->w.aj.set (30+q) (.vals .tup h)=(jL w q h).aj
 | 0,_=>rfl
 | 1,_=>rfl
 | 2,_=>rfl
 | n+3,h=>gm h
abbrev Line.Quiet (l:Line):Prop:=l.buf.length<=l.pos/\l.buf.length<=100000
theorem wq(hx:Cx e){k:Nat}(hk:e.k=k+6){w:Wd}(hq:q<3)(hp:p<3)(hl:(w.lines p q).Quiet)(Fp:(w.lines p q).ps= []):af e [.ref 0,.pv (.int q),.pv (.int p)] (.ref 942) w.aj fun v σ=>v= .pv (.bool false)/\∃ln,σ=(iQ w p q {w.lines p q with ln:=ln}).aj:=by refine af.gen fun K9 jf=> ?_;refine df hx hk (LI _) (names:= [s "world",s "q",s "p"]) (fun Z Z Z Z Z Z vs hv=>by refine hY (G0 hv) fun Z Z Z Mi=> ?_;subst Mi;kernel_rfl) (by kernel_rfl) fun e' aL hw cH hs=>bJ aL hs ?_;refine of_eq (Mh _ e' _ w q p hq hp) ?_;have hb:=ro w q p hq hp;simp only[Line.ao,Fp]at hb;refine af.box hb rfl (He aL cH hl.2 hl.1) fun v τ' hv=> ?_;obtain⟨rfl,iX,rfl⟩:=hv;refine⟨rfl,rfl,?_⟩;have e1:=kA w {w.lines p q with ln:=iX} q p hq hp;simp only[Line.ao,Fp]at e1;rw[e1];exact of_eq (XR _ e' _ _ _ _) (jf _ _ ⟨rfl,iX,by simp only[Fp]⟩)
theorem wu(hx:Cx e){k:Nat}(hk:e.k=k+6){w:Wd}{q p:Nat}(hq:q<3)(hp:p<3){a b m:Int}(Fp:(w.lines p q).ps= [a,b,m]::ps)(h1:(w.aY p q).length<100000)(h2:(w.ahead q).length<100000)(h3:(w.aC q).length<100000):af e [.ref 0,.pv (.int q),.pv (.int p)] (.ref 942) w.aj fun v σ=>v= .pv (.bool true)/\σ=(jL (Fo (iQ w p q {w.lines p q with ps:=ps}) q p a b m) q (i7 (w.aC q) [a,b,m])).aj:=by refine df hx hk (LI _) (names:= [s "world",s "q",s "p"]) (fun Z Z Z Z Z Z vs hv=>by refine hY (G0 hv) fun Z Z Z Mj=> ?_;subst Mj;kernel_rfl) (by kernel_rfl) fun e' aL hw cH hs=>bJ aL hs ?_;refine of_eq (Mh _ e' _ w q p hq hp) ?_;have hb:=ro w q p hq hp;simp only[Line.ao,Fp]at hb;refine af.box hb rfl (CW aL cH) fun v τ' hv=> ?_;obtain⟨rfl,rfl⟩:=hv;refine⟨rfl,rfl,?_⟩;have e1:=kA w {w.lines p q with ps:=ps} q p hq hp;simp only[Line.ao]at e1;refine e1 ▸ ?_;refine of_eq (XT _ e' _ (iQ w p q {w.lines p q with ps:=ps}) a b m q p hq hp) ⟨h1,⟨aa1 _,by simp;exact bY 0xdb089db09910 hq⟩,⟨by simp,by simp,by simp⟩,⟨aa1 _,by simp;exact bY 0xdb089db09910 hq⟩,⟨by simp,by simp,by simp⟩,h2,af.Ck (us:= [.ref 0,.pv (.tup [a,b,m])]) (zt _ q hq) rfl (uZ (k:=k+3) aL (aac (ba 0xcd199051f190918 (bh cH)) (ba 0x1cd099151f09918 (bl cH))) h3) fun v τ' hv=> ?_⟩;obtain⟨rfl,rfl⟩:=hv;exact⟨rfl,.tup,_,rfl,rfl,by rw[rq _ _ q hq]⟩
end
def rt(I:Addr)(aa:Led):Prop:=∀p∈aa,p.1≠I
theorem Ext.CX (x:Ext a1 n1 a2 n2)(hI:rt I n1)(ob:Obj):Ext a1 n1 a2 (bB n2 I ob):=by refine⟨x.grow,fun a its h=>aX (x.tup a its h) (hI _ h),fun b ob' h=> ?_,fun b ob' h hb=>⟨aX (x.qE b ob' h hb).1 (hI _ h),(x.qE b ob' h hb).2⟩⟩;refine aA (x.key b ob' h) fun o2 h2=>⟨o2,aX h2 (hI (b,ob') h)⟩
noncomputable def hU(aa:Led)(I:Addr):Led:=aa.filter fun p=>decide (p.1≠I)
theorem dW:p∈hU aa I↔p∈aa/\p.1≠I:=by unfold hU;rw[acR,decide_eq_true_eq]
theorem Ext.hU {a1 a2:Ad}{n1 n2:Led}(x:Ext a1 n1 a2 n2){I:Addr}(hI:rt I n1):Ext a1 n1 a2 (hU n2 I):=by refine⟨x.grow,fun a its h=>dW.mpr ⟨x.tup a its h,hI _ h⟩,fun b ob' h=> ?_,fun b ob' h hb=>⟨dW.mpr ⟨(x.qE b ob' h hb).1,hI _ h⟩,(x.qE b ob' h hb).2⟩⟩;obtain⟨o2,h2⟩:=x.key b ob' h;exact⟨o2,dW.mpr ⟨h2,hI (b,ob') h⟩⟩
section
variable{e:Fm}{c:St}
theorem cL.zu {ad:Ad}(n:aU e ad m aa c h)(hI:I∉ad.all)(hm:(I,ob)∈aa)(hc:NT ob)(hx:Heap.ExtBut I h h'):aU e ad m (hU aa I) c h':=by
 have g:Gr ad aa ad (hU aa I):=⟨⟨[],by simp⟩,fun b its hb=>dW.mpr ⟨hb,fun z=>hc its (by have z:b=I:=z;subst z;exact(dz n.nd hm hb) ▸ rfl)⟩⟩;refine⟨⟨n.F.ns.extBut hx (n.N _ hm).2.1.symm,fun b o hb=>hx b o (fun z=>by obtain rfl:=z.symm;rw[(n.N _ hm).2.2]at hb;exact aZ hb) (n.F.keep b o hb),n.F.above⟩,fun p hp=> ?_,?_,fun y v e1=> ?_,n.len,n.fP,n.fb,fun b hb=> ?_,fun j o e1=> ?_⟩
 ·obtain⟨h1,h2⟩:=dW.mp hp;exact⟨hx _ _ h2 (n.N _ h1).1,(n.N _ h1).2⟩
 ·exact(List.filter_sublist.map _).nodup n.nd
 ·refine ah (n.loc y v e1) fun v' h1 h2=> ?_;exact⟨v',h1,VR.fA g h2⟩
 ·obtain⟨qb,h1,h2⟩:=n.gp b hb;exact⟨qb,dW.mpr ⟨h1,fun z=>hI (by exact z ▸ hb)⟩,h2⟩
 ·refine cY (n.rep j o e1) fun b ow qb h1 h2 h3 h4=> ?_;have ap:∀y∈b::ow,y≠I:=fun y hy z=>hI (by
   obtain rfl:=z.symm;rcases abi.mp hy with q | q
   ·exact q ▸ Ad.bk h1
   ·exact Ad.dM h2 q)
  exact⟨b,ow,qb,h1,h2,dW.mpr ⟨h3,ap b (.head _)⟩,RP.mono g (fun y hy ob hb=>dW.mpr ⟨hb,ap y hy⟩) h4⟩
structure CY(e:Fm)(I:Addr)(K:St->Prop)(T:Ad->Led->Prop)(us:List V)(ob:Nat->Obj->Prop):Prop where
 tm:∀ {a1 n1 a2 n2},T a1 n1->Gr a1 n1 a2 n2->T a2 n2
 cls:∀k o,ob k o->NT o/\o.isFreed=false
 again:∀(k:Nat) (o:Obj) (x:Shared) (nv:Str->Option Addr) (ad:Ad) (m:Str->Option Value) (aa:Led) (c:St),cL e.w e.h₀ e.L nv ad m aa c x.heap->T ad aa->(I,o)∈aa->ob k o->∀(P:Value->Shared->Prop) (E:Value->Shared->Prop),P (.ref I) x->wpAny (model pw e.w) e.A (pyIter (.ref I)) P E x
 item:∀(k:Nat) (u:V),us[k]? =some u->∀(x:Shared) (nv:Str->Option Addr) (ad:Ad) (m:Str->Option Value) (aa:Led) (c:St) (o:Obj),cL e.w e.h₀ e.L nv ad m aa c x.heap->K c->T ad aa->(I,o)∈aa->ob k o->I∉ad.all->
  ∀(P:Option Value->Shared->Prop) (E:Value->Shared->Prop),(∀v h' o' tk,VR ad aa u v->h'.get? I=some o'->ob (k+1) o'->Heap.SameBut I x.heap h'->P (some v) {x with heap:=h',toks:=tk})->wpAny (model pw e.w) e.A (pyNext (.ref I)) P E x
 fin:∀(x:Shared) (nv:Str->Option Addr) (ad:Ad) (m:Str->Option Value) (aa:Led) (c:St) (o:Obj),cL e.w e.h₀ e.L nv ad m aa c x.heap->K c->T ad aa->(I,o)∈aa->ob us.length o->I∉ad.all->
  ∀(P:Option Value->Shared->Prop) (E:Value->Shared->Prop),(∀h' tk,Heap.ExtBut I x.heap h'->P none {x with heap:=h',toks:=tk})->wpAny (model pw e.w) e.A (pyNext (.ref I)) P E x
def eT(e:Fm)(iter:Expr)(c:St)(Q:St->Prop)(us:List V)(K:St->Prop):Prop:=
 ∀(x:Shared) (ad:Ad) (m:Str->Option Value) (aa:Led),aU e ad m aa c x.heap->∀(R:Value->Shared->Prop) (E:Value->Shared->Prop),
  (∀I ob T h' tk aF m' ag c' o,Q c'->K c'->aU e aF m' ag c' h'->Ext ad aa aF ag->(I,o)∈ag->ob 0 o->I∉aF.all->rt I aa->CY e I K T us ob->T aF ag->R (.ref I) {x with heap:=h',toks:=tk})->
  wpAny (model pw e.w) e.A (eval iter e.env) (fun u s₁=>wpAny (model pw e.w) e.A (pyIter u) R E s₁) E x
def Mk(e:Fm)(x:Shared)(ad:Ad)(aa:Led)(N:Nat)(I:Nat->St->Prop)(K:St->Prop)(It:Addr)(ob:Nat->Obj->Prop)(T:Ad->Led->Prop)(n:Nat)(s:Shared):Prop:=
 ∃k c aF m' ag h' tk o,n+k=N/\I k c/\K c/\s={x with heap:=h',toks:=tk}/\aU e aF m' ag c h'/\Ext ad aa aF ag/\(It,o)∈ag/\ob k o/\It∉aF.all/\T aF ag
theorem tq(as:V->St->St)(G6:∀x,foldedSetIterable iter e.env x=pure x){K:St->Prop}(I:Nat->St->Prop) (has:∀k u c,us[k]? =some u->I k c->K c->cP e cD u (assign (.Name y px) e.env) c fun(_:Unit) c'=>c'=as u c) (h:eT e iter c (I 0) us K)(turn:∀k u c,us[k]? =some u->I k c->K c->Wp e bN (execs body e.env) (as u c) (jx (fun c2=>I (k+1) c2/\K c2) Q))(done:∀c,I us.length c->K c->Q .next c):Wp e bN (exec (.For (.Name y px) iter body [] pos) e.env) c Q:=by
 intro x ad m aa nw R E p;refine wpAny_For (h x ad m aa nw _ E fun It ob T h1 dF bx m1 av c1 o1 q1 k1 n1 x1 Hg Uq XU tr D Ur=> ?_) G6;refine codeAny_forLoop (Mk e x ad aa us.length I K It ob T) ?_ us.length (JQ 0 c1 bx m1 av h1 dF o1 ⟨rfl,q1,k1,rfl,n1,x1,Hg,Uq,XU,Ur⟩);intro n s hJ;refine Gf hJ fun k c2 bp m2 ay h2 gI o2 hJ=>Ve hJ fun hn q2 k2 es n2 x2 dw dG qm zv=> ?_;subst es;by_cases hk:k<us.length
 ·refine D.item k us[k] (aad hk) _ _ bp m2 ay c2 o2 n2 k2 zv dw dG qm _ _ fun v h3 o3 jr rv g1 g2 g3=> ?_;have hc:=(D.cls k o2 dG).1;have N3:News e.h₀ e.L h3 (bB ay It o3):=by
   exact dA n2.nd dw n2.N g3 g1
  have n3:=n2.Cm qm dw hc (n2.F.change g3 (n2.N _ dw).2.1 (n2.N _ dw).2.2) N3;have gg:Gr bp ay bp (bB ay It o3):=⟨⟨[],by simp⟩,fun b its hb=>aX hb fun z=>hc its (by subst z;exact(dz n2.nd dw hb) ▸ rfl)⟩;refine has k us[k] c2 (aad hk) q2 k2 _ bp m2 _ v n3 (VR.fA gg rv) _ _ fun Z Z c5 h5 uR nY m5 dU q5 n5 x5 Z=> ?_;subst q5;have s5:=x5.qE It o3 (b5 dw) qm;refine turn k us[k] c2 (aad hk) q2 k2 _ nY m5 dU n5 _ _ fun f f' c6 h6 yb CB m6 jC q6 n6 x6 r6=> ?_;have s6:=x6.qE It o3 s5.1 s5.2;have xx:=((x2.CX tr o3).trans x5).trans x6;have nx:I (k+1) c6/\K c6->∃j,j<n/\Mk e x ad aa us.length I K It ob T j {x with heap:=h6,toks:=yb}:=fun q6=>⟨n-1,(cA (bj 0x2b029191b09928 hk (bl hJ.1))),JQ (k+1) c6 CB m6 jC h6 yb o3 ⟨aac (dZ 0x3b2909321991b09928 (cA (bj 0x2b029191b09928 hk (bl hJ.1))) (bh hJ.1)) (dZ 0xb29390b39192190928 (bl hJ.1) eH),q6.1,q6.2,rfl,n6,xx,s6.1,g2,s6.2,D.tm (D.tm zv gg) (x5.trans x6).gr⟩⟩;cases f with
  | next=>cases r6;exact nx q6
  | cont=>cases r6;exact nx q6
  | brk=>cases r6;exact p .next .next _ _ _ _ _ _ q6 n6 xx rfl
  | ret v=>refine ah r6 fun v' Ml rv=> ?_;exact Ml ▸ p (.ret v) (.ret v') _ _ _ _ _ _ q6 n6 xx ⟨v',rfl,rv⟩
 ·have cH:us.length=k:=aac ((ic hk)) (bj 8893012248 (bh hJ.1));refine D.fin _ _ bp m2 ay c2 o2 n2 k2 zv dw (cH ▸ dG) qm _ _ fun h3 jr Hh=>wpAny_execs_nil (p .next .next _ _ _ _ _ _ (done c2 (cH ▸ q2) k2) (n2.zu qm dw (D.cls _ o2 dG).1 Hh) (x2.hU tr) rfl)
theorem gU(hx:Cx e)(hl:look e.scope.names y=some .local)(G6:∀x,foldedSetIterable iter e.env x=pure x){K:St->Prop}(I:Nat->St->Prop) (h:eT e iter c (I 0) us K)(turn:∀k u c,us[k]? =some u->I k c->K c->Wp e bN (execs body e.env) {c with loc:=put c.loc y u} (jx (fun c2=>I (k+1) c2/\K c2) Q))(done:∀c,I us.length c->K c->Q .next c):Wp e bN (exec (.For (.Name y px) iter body [] pos) e.env) c Q:=
 tq (fun u c=>{c with loc:=put c.loc y u}) G6 I (fun Z Z Z Z Z Z=>ma hx hl rfl) h turn done
noncomputable abbrev Mm(x left:Int):Obj:={cls:=.type "range_iterator",dict:=none,data:=.fields #[rawInt x,rawInt left,rawInt 1],slots:= #[]}
noncomputable abbrev iZ(n:Nat):List V:=(acj n).map fun(k:Nat)=>V.pv (.int (k:Int))
theorem tu(hx:Cx e)(I:Addr)(n:Nat):CY e I (fun Z=>True) (fun Z Z=>True) (iZ n) (fun k o=>o=Mm k ((n:Int)-k)):=by
 refine⟨fun Z Z=>trivial,fun k o h=>by exact h ▸ ⟨NT.of (by simp),rfl⟩,fun k o x nv ad m aa c nw Z hm ho P E hP=> ?_,fun k u hu x nv ad m aa c o nw Z Z hm ho hI P E hP=> ?_,fun x nv ad m aa c o nw Z Z hm ho hI P E hP=> ?_⟩
 ·refine cps fun Z zk=> ?_;subst ho;refine zk (wpAny_pyIter_rangeiter (nw.N _ hm).1 hP)
 ·have zs:=ho.symm;refine cps fun Z zk=> ?_;subst zs;simp only[aa0,abh]at hu;obtain⟨j,hj,rfl⟩:=hu;have bT:=(aab.mp hj).1;have bT:=acV ▸ bT;replace hj:=(acz bT) ▸ hj;obtain rfl:=aah.inj hj;refine zk (wpAny_pyNext_range_item (nw.N _ hm).1 (ba 0x818eba91b09910 bT) fun h' h1 h2=> ?_);exact hP _ h' _ _ ⟨_,rfl⟩ h1 (by exact(show((k:Int)+1)=((k+1:Nat):Int) by lia) ▸ (show((n:Int)-k-1)=(n:Int)-((k+1:Nat):Int) by lia) ▸ rfl) h2
 ·refine cps fun Z zk=> ?_;subst ho;refine zk (wpAny_pyNext_range_end hx.hh (nw.N _ hm).1 (by simp) fun h' h1=>hP h' _ h1)
def RgR(n:Nat)(ad:Ad)(aa:Led)(_:Unit)(v:Value):Prop:=∃(r:Addr) (t u w:Tok),v= .ref r/\(r,({cls:=.type "range",dict:=none,data:=.fields #[.int 0 t,.int n u,.int 1 w],slots:= #[]}:Obj))∈aa
theorem fV(h:Q () c):cN e (RgR n) [.pv (.int n)] (fun vs=>call (.type "range") vs) c Q:=by refine .x7 (.i fun x ad m aa t nw R E p=>call_range_1 ?_);refine bL (Fr.en nw.F nw.N ({cls:=.type "range",data:=.fields #[.int 0 x.toks,.int n t,.int 1 (x.toks+1)]})) fun F' N' hl=>aI (nw.more hl F' N') fun n2 x2=> ?_;exact p () _ _ _ _ _ _ _ h n2 x2 ⟨_,_,_,_,rfl,.head _⟩
theorem cy(hx:Cx e)(hn:n<=100000)(h:Wp e (RgR n) (eval iter e.env) c fun(_:Unit) c1=>Q c1):eT e iter c Q (iZ n) (fun Z=>True):=by
 intro x ad m aa nw R E p;refine h x ad m aa nw _ E fun Z v c1 h1 dF bx m1 av q1 n1 x1 r1=>Gb r1 fun r t u w Mn hm=> ?_;subst Mn;have hsz:Builtin.Range.rangeSize 0 n 1=(n:Int):=by rw[rangeSize_nat];exact rfl
 refine wpAny_pyIter_range (n1.N _ hm).1 ?_ ?_
 ·unfold Builtin.Range.small;rw[hsz];have fit:∀z:Int,0<=z->z<=100001->Builtin.Range.rangeFitsLong z=true:=fun z h0 h1=>by
   unfold Builtin.Range.rangeFitsLong;simp;exact⟨JT 0x8000000000000000efae0a110 h0,JT 0x8000000000000000efb09186a15f0110 h1⟩
  simp[fit 0 (acd _) (lx [] [] 104859040256),fit n (aa1 _) (bY 0x186a15f08186a05f0910 hn),fit 1 (lx [] [] 47616) (lx [] [] 104859040512)]
 ·rw[hsz];refine bL (Fr.en n1.F n1.N (Mm 0 n)) fun F' N' hl=>aI (n1.more hl F' N') fun n2 x2=> ?_;refine p h1.objs.size _ _ _ _ _ _ _ _ _ q1 trivial n2 (x1.trans x2) (.head _) (by simp) (n1.lt hl) (fun q hq z=> ?_) (tu hx _ n) trivial;refine aA (x1.key q.1 q.2 hq) fun ob' nA=>absurd (hl _ nA) (by show ¬q.1<_;exact z ▸ acI _)
theorem j9(hx:Cx e){n:Nat}(hF:F= .For (.Name y (eI F)) (.Call (.Name (s "range") (fJ (hG (aG F)))) [arg] [] (s8 (aG F))) (ax F) [] (di F))(hl:look e.scope.names y=some .local) (hr:∀Q,cM e.w.params e.scope (s "range") c Q False=Q (.glob (.type "range")) c)(hs:isStar arg=false)(ha:ew e e.w.params e.scope 40 arg c fun v c1=>v= .pv (.int n)/\c1=c)(hn:n<=100000)(I:Nat->St->Prop)(h0:I 0 c) (turn:∀k c,k<n->I k c->cZ (xw e e.w.params e.scope 40) (ax F) {c with loc:=put c.loc y (.pv (.int k))} (jx (fun c2=>I (k+1) c2) Q))(done:∀c,I n c->Q .next c):Wp e bN (exec F e.env) c Q:=by
 refine hF ▸ ?_;refine gU hx hl (fun Z=>rfl) I (cy hx hn (dm hx (by simp[bK,hs]) (cu hx False.elim (of_eq (hr _) ⟨_,rfl,rfl,?_⟩)))) (fun k u c hu hI Z=> ?_) (fun c hI Z=>done c (by simpa using hI))
 ·refine aS (aE hs _ _) ((iC hx _ _ _ _ ha).mono fun v c1 hv=>aN ?_);obtain⟨rfl,rfl⟩:=hv;exact fV h0
 ·simp only[aa0,abh]at hu;obtain⟨j,hj,rfl⟩:=hu;have bT:=(aab.mp hj).1;have bT:=acV ▸ bT;replace hj:=(acz bT) ▸ hj;obtain rfl:=aah.inj hj;refine(iD hx (turn k c bT hI)).mono fun f c2 h2=> ?_;cases f with
  | next=>exact⟨h2,trivial⟩
  | cont=>exact⟨h2,trivial⟩
  | brk=>exact h2
  | ret v=>exact h2
end
abbrev XW(p m:Int):List (Str×V):= [(s "world",.ref 0),(s "p",.pv (.int p)),(s "m",.pv (.int m))]
abbrev nF(p m:Int)(t:List Int):List (Str×V):=XW p m++ [(s "mail",.pv (.tup t))]
noncomputable abbrev eK(w:Wd)(l:Line):Wd:={w with words:=l}
noncomputable abbrev iR(w:Wd)(x:List Nat):Wd:={w with told:=w.told++ [x]}
noncomputable abbrev og(w:Wd)(p:Nat)(m:Int):Wd:={w with aP:=up1 w.aP p (w.aP p+1),ae:=w.ae++ [[w.aP p+1,(p:Int),m]]}
abbrev yd:Expr:=ak (at_ (ar (st 36)) 5)
abbrev cU(w:Wd)(p:Nat)(m:Int):List AO:=w.aj.set 33 (.refs ([34,35,36].set p 44))++ [.vals .int [m]]
section
variable(P:Params)(e:Fm)(Q:AF->St->Prop)
theorem XX(w:Wd)(p:Int):sL e P (st 36) ⟨[(s "world",.ref 0),(s "p",.pv (.int p))],w.aj⟩ Q=af e [.ref 1] (.ref 67) w.aj fun v σ=>gD e (.builtin "list.append") [.ref 42,v] ⟨XW p w.ae.length,σ⟩ fun Z c1=>dN e P (st 36) 2 Q .next c1:=by kernel_rfl
theorem XY(w:Wd)(l:List (Str×V))(x:List Nat)(K:V->St->Prop):gD e (.builtin "list.append") [.ref 42,.pv (.str x)] ⟨l,w.aj⟩ K=(w.told.length<100000/\K (.pv .none) ⟨l,(iR w x).aj⟩):=by kernel_rfl
abbrev snC(w:Wd)(p:Nat)(m:Int)(K:Prop):Prop:=
 (0<=(p:Int)/\(p:Int)<(Mg w).length)/\(0<=(p:Int)/\(p:Int)<(Mg w).length)/\(0<=(p:Int)/\(p:Int)<(Mg (og w p m)).length)/\([V.pv (.int (w.aP p+1)),.pv (.int p),.pv (.int m)].length<=100000)/\w.ae.length<100000/\K
theorem XZ(w:Wd)(m:Int):∀(p:Nat),p<3->dN e P (st 36) 2 Q .next ⟨XW p m,w.aj⟩=snC w p m (Wp e VR (eval yd e.env) ⟨nF p m [w.aP p+1,(p:Int),m],(og w p m).aj⟩ fun Z c1=>dN e P (st 36) 6 Q .next c1)
 | 0,_=>by kernel_rfl
 | 1,_=>by kernel_rfl
 | 2,_=>by kernel_rfl
 | n+3,h=>gm h
theorem X0(w:Wd)(m:Int)(t:List Int):∀(p:Nat),p<3->dN e P (st 36) 6 Q .next ⟨nF p m t,w.aj⟩=([V.pv (.int m)].length<=100000/\af e [.ref (30+p),.pv (.tup t)] (.ref 208) (cU w p m) fun Z σ=>dN e P (st 36) 8 Q .next ⟨nF p m t,σ⟩)
 | 0,_=>by kernel_rfl
 | 1,_=>by kernel_rfl
 | 2,_=>by kernel_rfl
 | n+3,h=>gm h
end
abbrev ye:Stmt:=at_ (ar (st 36)) 8
theorem Hi:ye= .For (.Name (s "q") (eI ye)) (.Call (.Name (s "range") (fJ (hG (aG ye)))) [(dE (aG ye)).headD z0] [] (s8 (aG ye))) (ax ye) [] (di ye):=by kernel_rfl
section
variable(P:Params)(e:Fm)(Q:AF->St->Prop)
theorem X1(c:St):dN e P (st 36) 8 Q .next c=Wp e bN (exec ye e.env) c (dN e P (st 36) 9 Q):=by kernel_rfl
theorem X2(c:St):dN e P (st 36) 9 Q .next c=Q .next c:=by kernel_rfl
theorem zw(c:St)(K:V->St->Prop):cM P (au (st 36)) (s "range") c K False=K (.glob (.type "range")) c:=by kernel_rfl
theorem zx(c:St)(K:V->St->Prop):ew e P (au (st 36)) 40 ((dE (aG ye)).headD z0) c K=K (.pv (.int 3)) c:=by kernel_rfl
theorem X3(w:Wd)(m:Int)(t:List Int)(σ:List AO)(K:AF->St->Prop):∀(q p:Nat),q<3->p<3->q≠p->cZ (xw e P (au (st 36)) 40) (ax ye) ⟨nF p m t++ [(s "q",.pv (.int q))],cU w p m++σ⟩ K= af e [.ref (7+3*p+q),.pv (.tup t)] (.ref 74) (cU w p m++σ) fun Z σ'=>K .next ⟨nF p m t++ [(s "q",.pv (.int q))],σ'⟩
 | 0,1,_,_,_=>by kernel_rfl
 | 0,2,_,_,_=>by kernel_rfl
 | 1,0,_,_,_=>by kernel_rfl
 | 1,2,_,_,_=>by kernel_rfl
 | 2,0,_,_,_=>by kernel_rfl
 | 2,1,_,_,_=>by kernel_rfl
 | 0,0,_,_,h=>absurd rfl h
 | 1,1,_,_,h=>absurd rfl h
 | 2,2,_,_,h=>absurd rfl h
 | n+3,_,h,_,_=>gm h
 | _,n+3,_,h,_=>gm h
theorem X4(m:Int)(t:List Int)(σ:List AO)(K:AF->St->Prop):∀(p:Nat),p<3->cZ (xw e P (au (st 36)) 40) (ax ye) ⟨nF p m t++ [(s "q",.pv (.int p))],σ⟩ K=K .next ⟨nF p m t++ [(s "q",.pv (.int p))],σ⟩
 | 0,_=>by kernel_rfl
 | 1,_=>by kernel_rfl
 | 2,_=>by kernel_rfl
 | n+3,h=>gm h
end
section
variable{e:Fm}{c:St}
theorem pB(hx:Cx e)(hs:c.aj[i]? =some (.box τ))(h0:τ[0]? =some (.inst C d))(hd:τ[d]? =some (.dict es))(hk:lg e.w.params C name=some f)(hl:look es name=none) (h:Q (.ref c.aj.length) {c with aj:=c.aj++ [.bound (.ref f) i]}):cP e VR (.ref i) (fun o=>getAttr o name ex) c Q:=by
 rintro x ad m aa u n r R E p;refine cps fun Z zk=>ah (id r) fun a ha Mo=> ?_;obtain rfl:=Mo.symm;refine cY (n.rep i _ hs) fun a' ow ob GV how hm br=> ?_;replace GV:=ha ▸ GV;obtain rfl:=aah.inj GV;refine bG (br.2 0 _ h0) fun b0 Lz g1 g2 Mp=> ?_;obtain⟨dx,g3,rfl⟩:=Mp;refine zk ?_;simp at g1;refine cps fun Z zk=> ?_;subst g1;refine zk ?_;clear zk;refine cps fun Z zk=>bG (br.2 d _ hd) fun b1 Wm g4 g5 Mq=> ?_;obtain⟨fK,k,rfl,hE,hz⟩:=Mq;refine zk ?_;have:dx=b1:=by have g3:(a::ow)[d]? =some dx:=g3;have g4:=g3 ▸ g4;exact(aah.inj g4)
 refine cps fun Z zk=> ?_;subst this;refine zk ?_;refine nf (fk hk) fun f' k1 k2 k3 k4=> ?_;obtain rfl:=aah.inj k4;simp only[abD,beq_iff_eq,ac6]at k1 k3;refine kbm_bound n.F hx.X n.N (InstAt.of_news n.N g2 g5) k1.1.1 k1.1.2 k2 k3.1.1 k3.1.2 k3.2 k1.2 (gz hE hl) fun q h' F' N' jB=>aI (n.new (o:=.bound (.ref f') i) jB F' N' ⟨a,gT ha,rfl⟩) fun n2 x2=> ?_;exact p _ _ _ _ _ _ _ _ h n2 x2 ⟨q,by show(ad.m++ [q])[_]? =_;refine n.len ▸ ?_;simp,rfl⟩
theorem rx(h:Wp e VR (eval b e.env) c fun u c1=>∃i xs,u= .ref i/\c1.aj[i]? =some (.vals .int xs)/\Q (xs.map fun n=>.pv (.int n)) c1):Wp e qj (spliced (backTo pos (starEach [.Starred b p'] e.env))) c Q:=
 fun x ad m aa n R E p=>items_star (h x ad m aa n _ E fun u u' c1 h1 dF bx m1 av q1 n1 x1 r1=>by
  refine cps fun Z zk=>bG q1 fun i xs Mr hs q=> ?_;subst Mr;refine cI (n1.at hs r1) fun a ob Ms ha hm Mt ho=> ?_;subst Ms;obtain⟨its,k',rfl,hi,hz⟩:=Mt;refine zk ?_;have hlen:=hi.length;simp only[aaR]at hlen;refine star_seq (ws:=its) n1.F n1.N hm rfl rfl (.inl rfl) (by simp) (by have:=aD;simp;lia) fun h' F' N'=>args_nil ?_;simp only[ab5];refine p _ its c1 h' _ bx m1 av q (n1.heap F' N') x1 ?_;clear hm ho hs q hz hlen;generalize hy:xs.map (Kd.inj .int)=ys at hi;induction hi generalizing xs with
  | nil=>cases xs <;> first | exact .nil | exact yu hy
  | cons h1 h2 ih=>
   cases xs with
   | nil=>exact Gg hy
   | cons y JX=>simp only[acu,List.cons.injEq]at hy;refine cps fun Z zk=>aI hy fun Mu Mv=> ?_;subst Mu;subst Mv;refine zk (.cons h1 (ih _ rfl)))
end
theorem CZ(h1:cS o=true)(ha:isStar a=false):eval (.Call (.Attribute o name apos) [a,.Starred b p'] [] pos) env=(do
   let ov <-eval o env
   standAt apos.atName
   let f <-holding [ov] (do pure (<-getAttr ov name true,([]:List Value)))
   callWith pos f.1 f.2 (backTo pos (starEach [a,.Starred b p'] env)) []):=by
 have hf:methodCallForm (2+([]:List Keyword).length) (backTo pos (starEach [a,.Starred b p'] env)) (backToKw pos (keywordEach [] env))=false:=by rw[aE ha];rfl
 show(do
  let ov <-attributeBase o name env (eval o env)
  standAt apos.atName
  methodCall o name apos pos env ov (2+([]:List Keyword).length) (backTo pos (starEach [a,.Starred b p'] env)) (backToKw pos (keywordEach [] env)))=_
 simp only[jd h1];congr 1;funext ov;congr 1;funext _;unfold methodCall calleeOf methodCallPos;rw[hf];rfl
section
variable{e:Fm}{c:St}
theorem C0(hx:Cx e)(h1:cS o=true)(ha:isStar a=false) (h:Wp e VR (eval o e.env) c fun u c1=>cP e VR u (fun v=>getAttr v name true) c1 fun g c2=>∃j f sf,g= .ref j/\c2.aj[j]? =some (.bound (.ref f) sf)/\fnIn (KK e.w.params) f=true/\Wp e qj (spliced (backTo pos (starEach [a,.Starred b p'] e.env))) c2 fun vs c3=> c3.aj[j]? =some (.bound (.ref f) sf)/\af e (.ref sf::vs) (.ref f) c3.aj fun v σ=>Q v ⟨c3.loc,σ⟩):Wp e VR (eval (.Call (.Attribute o name apos) [a,.Starred b p'] [] pos) e.env) c Q:=by
 intro x ad m aa n R E p;rw[CZ h1 ha];refine wpAny_bind (wpAny_mono (h x ad m aa n _ E fun u u' c1 td dF bx m1 av q1 n1 x1 r1=> ?_) (fun Z Z z=>z) fun Z Z z=>z);refine wpAny_bind (wpAny_standAt (wpAny_bind (wpAny_holding (wpAny_bind ?_))));refine q1 _ bx m1 av u' n1 r1 _ E fun g g' c2 h2 gI bp m2 ay q2 n2 x2 r2=>cps fun Z zk=> ?_;refine cY q2 fun j f sf Mw hj ry Mx=> ?_;subst Mw;refine cI (n2.at hj r2) fun q ob My hq hmq Mz hoq=> ?_;subst My;obtain⟨Fl,zh,rfl⟩:=Mz;refine zk (wpAny_pure ?_);show wpAny _ _ (callWith pos (.ref q) [] (backTo pos (starEach [a,.Starred b p'] e.env)) []) _ _ _;have key:=Mx {x with heap:=h2,toks:=gI} bp m2 ay n2 (fun vs s₁=>MethP (KK e.w.params) q f (.ref Fl) s₁.heap/\wpAny (model pw e.w) e.A (call (.ref q) ([]++vs)) R E s₁) E fun vs dc c3 h3 jr iq m3 cn q3 n3 x3 r3=>by
  refine cps fun Z zk=> ?_;refine cI (n3.at q3.1 ⟨q,bq x3.gr hq,rfl⟩) fun q' ob3 e3 hq3 aeG MA MB=> ?_;obtain⟨Hj,C1,rfl⟩:=MA;cases e3;have e4:Hj=Fl:=by have:=bq x3.gr zh;replace C1:=this ▸ C1;exact(aah.inj C1).symm
  subst e4;refine zk (⟨⟨MB,hx.X.keeps n3.F.keep⟩,wpAny_call (ks_codeAny_call_bound MB ?_)⟩);refine q3.2 _ iq m3 cn (.ref Hj::dc) n3.aj (.cons ⟨Hj,C1,rfl⟩ r3) R E fun v v' σ' h' tk aF ag qq n' y rv=>p v v' _ h' tk aF m3 ag qq (n3.oY y n') (((x1.trans x2).trans x3).trans y) rv
 rw[aE ha]at key ⊢;exact ks_call rfl (keeps_M ry) (evalArgs_plain key)
end
section
variable{e:Fm}
theorem mj{ad:Ad}:∀ {us:List V} {ns:List Int} {vs:List Value},aM (VR ad aa) (us++ns.map fun n=>.pv (.int n)) vs->∃v1 v2,vs=v1++v2/\aM (VR ad aa) us v1/\IntsAre v2 ns
 | [],ns,vs,h=>by
  refine k5 ([]) vs ⟨rfl,.nil,?_⟩;induction ns generalizing vs with
  | nil=>cases h;exact .nil
  | cons n ns ih=>
   cases h with
   | cons h1 h2=>refine aA h1 fun t MC=> ?_;subst MC;exact .cons n t (ih _ h2)
 | u::us,ns,_,.cons h1 h2=>by refine bG (mj h2) fun v1 v2 MD g1 g2=> ?_;subst MD;exact k5 (_::v1) v2 ⟨rfl,.cons h1 g1,g2⟩
theorem zy(hx:Cx e)(hk:e.k=k+1)(hf:FnAt e.w.params f x qual .none)(hz:ns.length<=100000)(hlen:names.length=us.length) (hb:∀(kV doc pm dS ct:Value) an (vs rs:List Value),vs.length=us.length->bindArgs (fnOf (fnName x) qual (fy x) (ar x) (au x) .none kV doc pm an dS ct) ⟨vs++rs,[]⟩=(newTuple rs >>= fun t=>pure (names.zip vs++ [(nr,t)]))) (eC:(decide (names++ [nr]).Nodup&&(names++ [nr]).all fun y=>decide ((au x).names.lookup y=some .local))=true) (h:∀e':Fm,Cx e'->e'.w=e.w->e'.k=k->e'.scope=au x->Wp e' bN (execs (ar x) e'.env) ⟨names.zip us++ [(nr,.pv (.tup ns))],σ⟩ (oW Q)):af e (us++ns.map fun n=>.pv (.int n)) (.ref f) σ Q:=by
 refine cps fun Z zk=>sW hf fun kV doc pm an dS ct ho mY hs=> ?_;simp only[ac5]at hs;refine aI hs fun ME s4=> ?_;obtain⟨⟨s1,s2⟩,s3⟩:=ME;refine zk ?_;have s3:(au x).kind= .function:=by simpa using s3
 simp only[abD,decide_eq_true_eq]at eC;have s4:fS (au x)=true:=by simpa using s4
 have fT:∀y∈(au x).names,y.2≠ .cell:=fun y hy z=>by have:=aaZ.mp s4 y hy;have this:=z ▸ this;exact absurd this (by decide)
 intro sh ad m aa vs n ru R E p;refine cps fun Z zk=>bG (mj ru) fun v1 v2 MF g1 g2=> ?_;obtain rfl:=MF.symm;refine hY hx.T fun fc mg mb T=>zk ?_;have MG:=g1.length;have ll:=g2.length;refine codeAny_call_function (ael (ab2 _ _) hx.dep) ((hx.X.keeps n.F.keep) _ _ ho) rfl s1 s2 rfl (codeRec_of (hx.X.keeps n.F.keep) mY) ?_;simp only[hb _ _ _ _ _ _ v1 v2 MG.symm];refine cps fun Z zk=>bL (Fr.en n.F n.N ({cls:=.type "tuple",data:=.seq v2.toArray})) fun F' N' bT=> ?_;refine aI (n.more bT F' N') fun n2 x2=>zk ?_;refine wpAny_bind (wpAny_newTuple (wpAny_pure ?_) (by have:=aD;lia));have MH:names.zip v1++ [(nr,Value.ref sh.heap.objs.size)]=(names++ [nr]).zip (v1++ [.ref sh.heap.objs.size]):=by rw[List.zip_append (by lia)];rfl
 have MI:names.zip us++ [(nr,V.pv (.tup ns))]=(names++ [nr]).zip (us++ [.pv (.tup ns)]):=by rw[List.zip_append (by lia)];rfl
 refine kp_frame hx.B F' N' T.nolimit hx.hA rfl hx.uH (fun y hy=> ?_) (fun g L' h₁ FG FL NG BG st=> ?_) fT s3
 ·simp only[MH]at hy;exact of_decide_eq_true (aaZ.mp eC.2 y.1 (adO hy).1)
 ·have cx:Cx ⟨e.w,e.A.deeper (envOf qual (au x) L' f dS),e.A,e.base,g,e.iU::e.outer,L',qual,au x,f,dS,k,au x,[],none,fun Z=>none⟩:=⟨BG,(hx.X.keeps st),⟨fc,mg,mb,(T.keeps st)⟩,by
    show e.A.frames.map _=_;refine hx.hA ▸ ?_;rfl,s3,s3,rfl,rfl,fB s4 rfl rfl (fun Z=>rfl),(hx.dn hk).1,(hx.dn hk).2,hx.hh⟩
  have ru2:aM (VR ad ((sh.heap.objs.size,{cls:=.type "tuple",data:=.seq v2.toArray})::aa)) (us++ [.pv (.tup ns)]) (v1++ [.ref sh.heap.objs.size]):=(qj.mono x2 g1).append (.cons ⟨_,v2,rfl,.head _,g2⟩ .nil);have now:aU ⟨e.w,e.A.deeper (envOf qual (au x) L' f dS),e.A,e.base,g,e.iU::e.outer,L',qual,au x,f,dS,k,au x,[],none,fun Z=>none⟩ ad (fun y=>(names.zip v1++ [(nr,Value.ref sh.heap.objs.size)]).reverse.lookup y) _ ⟨names.zip us++ [(nr,.pv (.tup ns))],σ⟩ h₁:=
   ⟨FL,NG,n2.nd,fun y v e'=>(by refine MH ▸ ?_;have e':=MI ▸ e';exact jz eC.1 ru2 e'),n2.len,n2.fP,n2.fb,n2.gp,n2.rep⟩
  refine h _ cx rfl rfl rfl _ ad _ _ now _ _ fun fl JZ c' h' tk aF m' ag q n' y r=>sG L' m' ag ⟨n'.F,n'.N,fun F0 N0=> ?_⟩;have nn:lR e aF m ag c'.aj h':=⟨F0,N0,n'.nd,(fun Z Z e=>aZ e),n'.len,n'.fP,n'.fb,n'.gp,n'.rep⟩;cases fl with
  | next=>subst r;exact p _ _ _ _ _ _ _ q nn (x2.trans y) rfl
  | brk=>subst r;exact p _ _ _ _ _ _ _ q nn (x2.trans y) rfl
  | cont=>subst r;exact p _ _ _ _ _ _ _ q nn (x2.trans y) rfl
  | ret v=>refine ah r fun v' MJ rv=> ?_;obtain rfl:=MJ.symm;exact p _ _ _ _ _ _ _ q nn (x2.trans y) rv
end
def lp(P:Params)(C:Addr)(name:Str):Option Nat:=yS (plainGet (KK P) C name&&isClsIn (KK P) C) (findIn (KK P) (.ref C) name) (fun p=>(specialIn (KK P) (.ref p) "__get__" ==some (some (.builtin "member_descriptor.__get__")))&&(takesIn (KK P) (.ref p)==some true)) fun p=>slotIn (KK P) p C
def lq(P:Params)(C:Addr)(name:Str):Option Nat:=yS ((findIn (KK P) (.ref C) "__setattr__" ==some (some (.builtin "object.__setattr__")))&&plainOver (KK P) C) (takerIn (KK P) C name) (fun p=>typeIn (KK P) (.ref p)==some (.type "member_descriptor")) fun p=>slotIn (KK P) p C
theorem ef(P:Params):lp P 100 (s "node")=some 0/\lp P 100 (s "npredecessors")=some 1/\lp P 100 (s "successors")=some 2:=by and_intros<;>kernel_rfl
theorem eE(P:Params):lq P 100 (s "node")=some 0/\lq P 100 (s "npredecessors")=some 1/\lq P 100 (s "successors")=some 2:=by and_intros<;>kernel_rfl
section
variable{e:Fm}{c:St}
theorem nG{K:Frag}(hc:(clsIn K C).isSome=true)(ha:findIn K (.ref C) name=some (some a))(hg:specialIn K a "__get__" =some (some g))(ht:takesIn K a=some true):findObj K C od name=some (.bind g a):=by refine aA (acX.mp hc) fun cd hc=> ?_;exact acJ.mpr ⟨_,hc,acJ.mpr ⟨_,ha,acJ.mpr ⟨_,hg,acJ.mpr ⟨_,ht,rfl⟩⟩⟩⟩
theorem dB(hx:Cx e)(hs:c.aj[i]? =some (.slot C d us))(hd:c.aj[d]? =some (.dict es))(hk:lp e.w.params C name=some k)(hl:us[k]? =some (some v))(hv:lb v=true) (h:Q v c):cP e VR (.ref i) (fun o=>getAttr o name ex) c Q:=by
 refine .r fun x ad m aa a n ha R E p=>cps fun Z zk=> ?_;refine bD (n.nq hs ha) fun ob hm MK ho=> ?_;obtain⟨dx,nR,qN,rfl,hE⟩:=MK;refine cI (n.at hd ⟨dx,qN,rfl⟩) fun dx' od e1 Z Hk Z X5=> ?_;cases e1;refine ah (hE.get hl) fun sv g1 g2=>zk ?_;cases sv with
 | none=>exact g2.elim
 | some v'=>have I:InstAt x.heap a (gN C dx nR) C (some od):=⟨ho,rfl,rfl,X5⟩;refine nf (fk hk) fun f' k1 k2 k3 k4=> ?_;simp only[abD,beq_iff_eq]at k1 k3;have hX:=hx.X.keeps n.F.keep;exact get_bind hX I (plainGet_of k1.1).1 (nG k1.2 k2 k3.1 k3.2) (plainGet_of k1.1).2 (wpAny_call (slot_get hX I k4 (by simp[g1]) (handed_on (nV hv g2) (p _ _ _ _ _ _ _ _ h n (Ext.refl ..) g2))))
noncomputable def rz(us:List (Option V))(k:Nat)(v:V):List (Option V):=(us++acM (k+1-us.length) none).set k (some v)
theorem eF(hx:Cx e)(hs:c.aj[i]? =some (.slot C d us))(hd:c.aj[d]? =some (.dict es))(hk:lq e.w.params C name=some k)(hz:k<1000) (h:Q () {c with aj:=c.aj.set i (.slot C d (rz us k v))}):bM e cD (.ref i) v (fun o u=>setAttr o name u) c Q:=by
 rintro x ad m aa o u n r rv R E p;refine cps fun Z zk=>cI (n.at hs r) fun a ob ML ha hm MM ho=> ?_;subst ML;obtain⟨dx,nR,qN,rfl,hE⟩:=MM;refine cI (n.at hd ⟨dx,qN,rfl⟩) fun dx' od e1 Z Hk Z X5=> ?_;cases e1;refine zk ?_;have I:InstAt x.heap a (gN C dx nR) C (some od):=⟨ho,rfl,rfl,X5⟩;have X6:∀q,aM (SR ad aa) (acM q none) (acM q none):=fun q=>by
  induction q with
  | zero=>exact .nil
  | succ q ih=>exact .cons trivial ih
 refine nf (fk hk) fun f' k1 k2 k3 k4=> ?_;simp only[abD,beq_iff_eq]at k1 k3;have hX:=hx.X.keeps n.F.keep;obtain⟨tv,Us⟩:∃tv,tv=(nR++acM (k+1-nR.length) none).set k (some u):=⟨_,rfl⟩;have x':Ext ad aa ad (bB aa a (gN C dx tv)):=cf n.nd (Ad.bk ha) hm (by simp);refine ng ((cJ (o':=gN C dx tv) n.nd hm).split) fun pre post e1 e2 a1 b1=> ?_;have N:=n.N;rw[e1]at N;refine set_plain hX I k1.1 (osa_descr KF.slot_mset hX I k1.2 k2 k3 (slot_set (ox':=gN C dx tv) n.F N hX I k4 hz a1 b1 ?_ rfl fun h' F' N'=> ?_))
 ·congr 1;apply Array.toList_inj.mp;simp only[Us];simp
 ·rw[<-e2]at N';refine p () () _ h' _ ad m _ h (n.upd hs ha hm (by simp) F' N' ⟨dx,tv,qN,rfl,?_⟩) x' rfl;unfold rz;rw[hE.length];have key:aM (SR ad (bB aa a (gN C dx tv))) ((us++acM (k+1-nR.length) none).set k (some v)) ((nR++acM (k+1-nR.length) none).set k (some u)):=(((hE.append (X6 _)).mono fun Z Z=>SR.mono x'.gr)).set k (VR.mono x' rv);simp only[<-Us]at key;exact key
end
section
variable{M:Model}{A:Around}{E:Value->Shared->Prop}{s:Shared}{env:Env}
def pC(M:Model)(A:Around)(E:Value->Shared->Prop)(use:Option (Value->Sem Unit))(Q:Value->Shared->Prop)(acc:Value)(C:Addr)(r:Result)(s':Shared):Prop:=match r with
 | .error _=>False
 | .ok _=>(match use with
  | none=>∃m,s'.heap.Ns C m/\∀h' m',h'.Ns C m'->Heap.SameBut C s'.heap h'->Q acc {s' with heap:=h'}
  | some u=>wpAny M A (u acc) (fun Z MN=>∃m,MN.heap.Ns C m/\∀h' m',h'.Ns C m'->Heap.SameBut C MN.heap h'->Q .none {MN with heap:=h'}) E s')
theorem C2 (Ut:pC M A E use Q=CE)(Hl:clausesOf e=g::gs)(hs:∀x,foldedSetIterable g.iter env x=pure x)(MO:closureFor scope env=pure cl) (kB:scope.kind= .function)(tx:∀x∈scope.names,x.2= .local->scope.names.lookup x.1=some .local) (h:wpAny M A first (fun x s₁=>wpAny M A (pyIter x) (fun it s₂=>wpAny M A Hm (fun acc s₃=> wpAny M A (newFunctionEnv scope env.globals cl [] env.qual none .none (some env)) (fun cenv s₄=> codeAny M A (.compStart e 0 it acc {cenv with scope:=relabel scope env}) (CE acc cenv.locals) s₄) E s₃) E s₂) E s₁) E s):wpAny M A (comprehension e scope env pos Hm false first use) Q E s:=by
 subst Ut;unfold comprehension;refine MO ▸ Hl ▸ (wpAny_bind (wpAny_mono h (fun x s₁ h₁=> ?_) fun Z Z z=>z));refine wpAny_bind (wpAny_standAt (wpAny_bind (wpAny_of_eq (hs x) (wpAny_bind (wpAny_holding (wpAny_mono h₁ (fun it s₂ h₂=> ?_) fun Z Z z=>z))))));refine wpAny_standIf (wpAny_bind (wpAny_mono h₂ (fun acc s₃ h₃=> ?_) fun Z Z z=>z));refine wpAny_bind (wpAny_pure (wpAny_bind (wpAny_mono h₃ (fun cenv s₄ h₄=> ?_) fun Z Z z=>z)));dsimp only;have hv:∀x∈(scope.names.filter fun x=>(x.2== .local||x.2== .cell)&&x.1 != (".0" :Str)).reverse,x.2= .local->Env.kindOf {cenv with scope:=relabel scope env} x.1=some .local:=
  fun x hx hl=>lookup_relabel_local (tx x (acR.mp (List.mem_reverse.mp hx)).1 hl)
 refine wpAny_holding (wpAny_bind (wpAny_attempt (wpAny_holding (wpAny_run (codeAny_mono h₄ fun r s' hr=> ?_)))));cases r with
 | error x=>exact hr.elim
 | ok f=>
  cases use with
  | none=>refine ah hr fun m hn hr=> ?_;exact wpAny_bind (wpAny_holding (wpAny_comp_letGo kB _ s' m hv hn fun h' m' y4 qn=>wpAny_pure (hr h' m' y4 qn)))
  | some u=>
   refine wpAny_bind (wpAny_rule (wpAny_bind (wpAny_holding (wpAny_mono hr (fun Z MN rA=> ?_) fun Z Z z=>z))));refine ah rA fun m hn rA=>wpAny_bind (wpAny_comp_letGo (cenv:={cenv with scope:=relabel scope env}) kB _ MN m (fun x hx hl=> ?_) hn fun h' m' y4 qn=>wpAny_pure (rA h' m' y4 qn));rcases abn.mp hx with h1 | h1
   ·exact hv x (List.mem_of_mem_drop h1) hl
   ·exact hv x (adu h1) hl
end
def ck(Fq:Scope)(p:Str×NameKind):NameKind:=match p.2 with
 | .local=>.globalExplicit
 | .free=>cond (look Fq.names p.1==some .cell) .cell .free
 | k=>k
def kC(sc Fq:Scope):Scope:={sc with names:=sc.names.map fun p=>(p.1,ck Fq p)}
def okN(sc Fq:Scope)(x:Str)(p:Str×NameKind):Bool:=match p.2 with
 | .local=>(look sc.names p.1==some .local)&&(decide (p.1=x)||decide (p.1=s ".0"))
 | .free=>look Fq.names p.1==some .cell||look Fq.names p.1==some .free
 | .globalImplicit=>true
 | _=>false
def b7(sc Fq:Scope)(x:Str):Bool:=(sc.kind== .function)&&((look sc.names x==some .local)&&((look sc.names (s ".0")==some .local)&&sc.names.all (okN sc Fq x)))
theorem lookup_map2{f:Str×NameKind->NameKind}:∀(l:List (Str×NameKind)) (x:Str),(l.map fun p=>(p.1,f p)).lookup x=(l.find? fun p=>x==p.1).map f:=by
 intro l;induction l with
 | nil=>exact fun Z=>rfl
 | cons p r ih=>
  intro x;rw[acu,adw,adP];cases x==p.1 with
  | true=>rfl
  | false=>exact ih x
theorem kD(l:List (Str×NameKind))(x:Str):l.lookup x=(l.find? fun p=>x==p.1).map (·.2):=by
 induction l with
 | nil=>rfl
 | cons p r ih=>
  rw[adw,adP];cases x==p.1 with
  | true=>rfl
  | false=>exact ih
noncomputable def gE(env:Env):List (Str×NameKind)->List (Str×Addr)->List (Str×Addr)
 | [],cs=>cs
 | p::r,cs=>gE env r (if p.2== .free then(p.1,(env.cells.lookup p.1).getD 0)::cs else cs)
theorem tA(h:∀p∈sc.names,p.2= .free->(env.cells.lookup p.1).isSome=true):closureFor sc env=pure (gE env sc.names []):=by
 have key:∀(l:List (Str×NameKind)) (cs:List (Str×Addr)),(∀p∈l,p.2= .free->(env.cells.lookup p.1).isSome=true)->
   (forIn l cs fun(x:Str×NameKind) (r:List (Str×Addr))=>match x with
    | (name,kind)=>if(kind==NameKind.free)=true then(do let a <-cellOf env name;pure (ForInStep.yield ((name,a)::r)))else(pure (ForInStep.yield r):Sem _))=(pure (gE env l cs):Sem _):=by
  intro l;induction l with
  | nil=>intro cs _;rfl
  | cons p r ih=>
   intro cs hp;obtain⟨n,k⟩:=p;rw[List.forIn_cons];dsimp only;have ih':=fun cs=>ih cs fun q hq=>hp q (.tail _ hq);by_cases hk:k= .free
   ·subst hk;obtain⟨a,ha⟩:=acX.mp (hp (n,.free) (.head _) rfl);have e1:cellOf env n=pure a:=by unfold cellOf;rw[ha]
    rw[if_pos (by rfl),e1];show(forIn r ((n,a)::cs) _:Sem _)=_;rw[ih'];show _=pure (gE env r ((n,(env.cells.lookup n).getD 0)::cs));rw[ha];rfl
   ·rw[if_neg (by simpa using hk)];show(forIn r cs _:Sem _)=_;rw[ih'];show _=pure (gE env r (ite _ _ cs));rw[if_neg (by simpa using hk)]
 exact(congrArg (fun t:Sem (List (Str×Addr))=>t >>= fun s=>pure s) (key sc.names [] h)).trans rfl
theorem wx(l:List (Str×NameKind)):∀(cs:List (Str×Addr)),(∀n a,cs.lookup n=some a->env.cells.lookup n=some a)->(∀p∈l,p.2= .free->(env.cells.lookup p.1).isSome=true)-> (∀n a,(gE env l cs).lookup n=some a->env.cells.lookup n=some a)/\(∀n,(cs.lookup n).isSome=true\/(n,NameKind.free)∈l->((gE env l cs).lookup n).isSome=true):=by
 induction l with
 | nil=>exact fun cs h Z=>⟨h,fun n hn=>hn.elim id fun z=>bg z⟩
 | cons p r ih=>
  intro cs h hp;obtain⟨m,k⟩:=p;have qo:∀p∈r,p.2= .free->(env.cells.lookup p.1).isSome=true:=fun q hq=>hp q (.tail _ hq);by_cases hk:k= .free
  ·have zs:=hk.symm;refine cps fun Z zk=> ?_;subst zs;refine aA (acX.mp (hp (m,.free) (.head _) rfl)) fun b hb=>zk ?_;have e1:gE env ((m,.free)::r) cs=gE env r ((m,b)::cs):=by show gE env r ((m,(env.cells.lookup m).getD 0)::cs)=_;rw[hb];rfl
   refine e1 ▸ ?_;refine aI (ih ((m,b)::cs) (fun n a e=>by
    rw[adw]at e;cases q:n==m with
    | true=>replace e:=q ▸ e;obtain rfl:=aah.inj e;refine(beq_iff_eq.mp q) ▸ ?_;exact hb
    | false=>have e:=q ▸ e;exact h n a e) qo) fun g1 g2=> ?_
   refine⟨g1,fun n hn=>g2 n ?_⟩;rcases hn with hn | hn
   ·left;rw[adw];cases n==m with
    | true=>rfl
    | false=>exact hn
   ·rcases abi.mp hn with z | z
    ·left;cases z;exact congrArg Option.isSome aed
    ·exact .inr z
  ·rw[(show gE env ((m,k)::r) cs=gE env r cs from by show gE env r (ite _ _ cs)=_;rw[if_neg (by simpa using hk)])];refine aI (ih cs h qo) fun g1 g2=>⟨g1,fun n hn=>g2 n ?_⟩;rcases hn with hn | hn
   ·exact .inl hn
   ·rcases abi.mp hn with z | z
    ·cases z;exact absurd rfl hk
    ·exact .inr z
def Fm.js (e:Fm)(sc:Scope)(x:Str)(C:Addr):Fm:={e with scope:=kC sc e.scope,ov:=some (compEnvC sc (gE e.env sc.names []) C e.env),nv:=fun y=>if y=x\/y=s ".0" then some C else e.nv y}
section
variable{e:Fm}
theorem oj(hx:Cx e)(h:b7 sc e.scope x=true):∀p∈sc.names,p.2= .free->(e.env.cells.lookup p.1).isSome=true:=by
 unfold b7 at h;simp only[abD]at h;intro p hp hf;have:=aaZ.mp h.2.2.2 p hp;unfold okN at this;rw[hf]at this;rcases Bool.or_eq_true_iff.mp this with q | q
 ·exact ah (hx.sH (beq_iff_eq.mp q)).2 fun a k Z=>k ▸ rfl
 ·exact ah (hx.sH (beq_iff_eq.mp q)).2 fun a k Z=>k ▸ rfl
theorem Cx.js (hx:Cx e)(h:b7 sc e.scope x=true):Cx (e.js sc x C):=by
 have u7:=oj hx h;unfold b7 at h;simp only[abD,beq_iff_eq]at h;refine⟨hx.B,hx.X,hx.T,hx.hA,hx.uH,h.1,hx.gl,hx.bu,fun y=> ?_,hx.dep,hx.Cn,hx.hh⟩;show Ud e.L (compEnvC sc (gE e.env sc.names []) C e.env) y (if y=x\/y=s ".0" then some C else e.nv y) ((sc.names.map fun p=>(p.1,ck e.scope p)).lookup y);have kB:(compEnvC sc (gE e.env sc.names []) C e.env).kindOf y=(sc.names.find? fun p=>y==p.1).map fun p=>if(p.2==NameKind.free&&e.env.scope.kind== .function&&e.env.kindOf p.1==some .cell)then .cell else p.2:=by simp only[<-lookup_map2];show(sc.names.map fun(n,k)=>if(k==NameKind.free&&e.env.scope.kind== .function&&e.env.kindOf n==some .cell)then(n,NameKind.cell)else(n,k)).lookup y=_;congr 1;apply acH;intro p _;dsimp only;split <;> rfl
 rw[lookup_map2];cases q:sc.names.find? fun p=>y==p.1 with
 | none=>trivial
 | some p=>
  obtain⟨n,k⟩:=p;have hm:=List.mem_of_find?_eq_some q;have hy:y=n:=by simpa using List.find?_some q
  subst hy;have hp:=aaZ.mp h.2.2.2 _ hm;rw[q]at kB;cases k with
  | «local»=>have hp:((look sc.names y==some .local)&&(decide (y=x)||decide (y=s ".0")))=true:=hp;simp only[abD,aeg,decide_eq_true_eq]at hp;exact⟨kB,if_pos hp.2⟩
  | globalImplicit=>exact kB
  | cell=>exact gu hp
  | globalExplicit=>exact gu hp
  | free=>
   have hlk:sc.names.lookup y=some .free:=by simp only[kD,q];rfl
   have qp:¬(y=x\/y=s ".0"):=fun z=>by
    rcases z with z | z
    ·obtain rfl:=z.symm;have h1:=h.2.1;simp only[<-cj,hlk]at h1;exact K8 h1 rfl
    ·obtain rfl:=z.symm;have h1:=h.2.2.1;simp only[<-cj,hlk]at h1;exact K8 h1 rfl
   refine cps fun Z zk=>aI (wx (env:=e.env) sc.names [] (fun Z Z z=>by exact aZ z) u7) fun g1 g2=> ?_;refine aA (acX.mp (g2 y (.inr hm))) fun a ha=>zk ?_;have uH:(e.env.scope.kind==ScopeKind.function)=true:=by rw[hx.hk];rfl
   have hp:(look e.scope.names y==some .cell||look e.scope.names y==some .free)=true:=hp;have fin:∀k2,(k2= .cell\/k2= .free)->look e.scope.names y=some k2->Ud e.L (compEnvC sc (gE e.env sc.names []) C e.env) y (e.nv y) (some (cond (look e.scope.names y==some .cell) .cell .free)):=fun k2 hk q2=>by
    have k:=hx.sH q2;rw[q2];rcases hk with rfl | rfl <;> refine aI k fun k1 MP=>ah MP fun b k2 k3=> ?_
    ·exact⟨kB.trans (by show some (ite _ _ _)=_;rw[k1,uH];rfl),a,ha,(g1 y a ha).symm.trans k2 ▸ k3⟩
    ·exact⟨kB.trans (by show some (ite _ _ _)=_;rw[k1,uH];rfl),a,ha,(g1 y a ha).symm.trans k2 ▸ k3⟩
   refine(if_neg qp) ▸ (Bool.or_eq_true_iff.mp hp).elim (fun q2=>fin _ (.inl rfl) (beq_iff_eq.mp q2)) fun q2=>fin _ (.inr rfl) (beq_iff_eq.mp q2)
end
theorem cL.names {ad:Ad}(n:cL w h₀ L nv ad m aa ⟨l,σ⟩ h)(k:∀x v,look l' x=some v->∃v',Nm Uc m x v'/\VR ad aa v v'):cL w h₀ L Uc ad m aa ⟨l',σ⟩ h:=
 ⟨n.F,n.N,n.nd,k,n.len,n.fP,n.fb,n.gp,n.rep⟩
theorem C3{α:Type}{l:List α}{o q:α}(h:(l.set i o)[j]? =some q):(j=i/\q=o)\/(j≠i/\l[j]? =some q):=by
 by_cases hj:j=i
 ·subst hj;by_cases hk:j<l.length
  ·rw[adC hk]at h;exact .inl ⟨rfl,(aah.inj h).symm⟩
  ·rw[acW (acN.symm ▸ ic hk)]at h;exact aZ h
 ·rw[acr (Ne.symm hj)]at h;exact .inr ⟨hj,h⟩
theorem cL.X7 {ad:Ad}(n:cL w h₀ L nv ad m aa ⟨l,σ⟩ h)(hs:σ[i]? =some (.ns l1))(hl:∀z u,look l2 z=some u->look l1 z=some u):cL w h₀ L nv ad m aa ⟨l,σ.set i (.ns l2)⟩ h:=by
 refine⟨n.F,n.N,n.nd,n.loc,by simp[n.len],by simp[n.fP],n.fb,n.gp,fun j q e=> ?_⟩;rcases C3 e with⟨rfl,rfl⟩ | ⟨_,e⟩
 ·refine nh (n.rep j _ hs) fun a ow ob h1 h2 h3 h4 MQ=>ah MQ fun m' h5 h6=> ?_;exact⟨a,ow,ob,h1,h2,h3,h4,m',h5,fun x v z=>h6 x v (hl x v z)⟩
 ·exact n.rep j q e
section
variable{e:Fm}{c:St}
def zz(e:Fm)(ifs:List Expr)(c:St)(Q:Bool->St->Prop):Prop:=match ifs with
 | []=>Q true c
 | [t]=>Wp e cD (isTrue t e.env (eval t e.env)) c Q
 | _=>False
theorem Hn(h:zz e ifs c Q):Wp e cD (forIn ifs true fun c r=>if r=true then do let ok <-isTrue c e.env (eval c e.env);pure (ForInStep.yield ok)else pure (ForInStep.yield r)) c Q:=by
 intro x ad m aa n R E p
 match ifs,h with
 | [],h=>exact wpAny_tests_nil (p _ _ _ _ _ _ _ _ h n (Ext.refl ..) rfl)
 | [t],h=>exact wpAny_tests_one (h x ad m aa n R E p)
 | _::_::_,h=>exact h.elim
def MS(e:Fm)(nv:Str->Option Addr)(sh:Shared)(ad:Ad)(aa:Led)(l0 l:List (Str×V))(N a:Nat)(I:Nat->Nat->List AO->Prop)(K:St->Prop)(It:Addr)(ob:Nat->Obj->Prop)(T:Ad->Led->Prop)(D0 C:Addr)(q:Nat)(s:Shared):Prop:=
 ∃k σ aF m' ag h' tk o,q+k=N/\I a k σ/\K ⟨l0,σ⟩/\s={sh with heap:=h',toks:=tk}/\cL e.w e.h₀ e.L nv aF m' ag ⟨l,σ⟩ h'/\Ext ad aa aF ag/\(It,o)∈ag/\ob k o/\It∉aF.all/\T aF ag/\aF.m[a]? =some D0/\aF.m[a+1]? =some C
theorem vb{ad iq:Ad}(nn:aU e iq m3 cn c3 h3)(Ho:iq.m[a+1]? =some C)(hl:∃l,c3.aj[a+1]? =some (.ns l))(xx:Ext ad aa iq cn):(∃mm,h3.Ns C mm)/\∀h' m',h'.Ns C m'->Heap.SameBut C h3 h'->∃n3,aU e iq m3 n3 ⟨c3.loc,c3.aj.set (a+1) (.ns [])⟩ h'/\Ext ad aa iq n3:=by refine cps fun Z zk=>aA hl fun l jB=> ?_;refine bD (nn.nq jB Ho) fun ob' ya MT LN=> ?_;obtain⟨mm,⟨es,ep,g1,g2,g3⟩,_⟩:=MT;refine zk ?_;refine⟨⟨mm,ob',es,ep,LN,g1,g2,g3⟩,fun h' m' y4 qn=>cY y4 fun o' Lb dJ q1 q2 q3 q4=> ?_⟩;have lJ:NT ob':=fun its z=>Gv (z ▸ g1:) rfl;refine⟨bB cn C o',nn.oV jB Ho ya lJ (nn.F.change qn (nn.N _ ya).2.1 (nn.N _ ya).2.2) ?_ ⟨m',⟨Lb,dJ,q2,q3,q4⟩,fun Z Z z=>aZ z⟩,xx.trans (cV nn.nd (Ad.bk Ho) ya lJ)⟩;exact dA nn.nd ya nn.N qn q1
def MU(e:Fm)(ad:Ad)(aa:Led)(R E:Value->Shared->Prop)(sh:Shared)(a:Nat)(l0:List (Str×V))(σ:List AO)(aF:Ad)(m':Str->Option Value)(ag:Led)(v:Value)(tk:Nat)(h':Heap)(use:Option (Value->Sem Unit)):Prop:=match use with
 | none=>∀h3 n3,aU e aF m' n3 ⟨l0,σ.set (a+1) (.ns [])⟩ h3->Ext ad aa aF n3->R v {sh with heap:=h3,toks:=tk}
 | some u=>wpAny (model pw e.w) e.A (u v) (fun Z s'=>∃bp m2 ay c2 h2 gI,s'={sh with heap:=h2,toks:=gI}/\aU e bp m2 ay c2 h2/\(∃l,c2.aj[a+1]? =some (.ns l))/\Ext aF ag bp ay/\
     ∀h3 n3,aU e bp m2 n3 ⟨c2.loc,c2.aj.set (a+1) (.ns [])⟩ h3->Ext ad aa bp n3->R .none {sh with heap:=h3,toks:=gI}) E {sh with heap:=h',toks:=tk}
theorem zA{ad bp:Ad} (n9:aU e bp m2 vc ⟨l0,σ⟩ h3)(x9:Ext ad aa bp vc)(zB:bp.m[a+1]? =some C)(jB:σ[a+1]? =some (.ns l)) (ff:MU e ad aa R E sh a l0 σ bp m2 vc (.ref D0) tk h3 use):pC (model pw e.w) e.A E use R (.ref D0) C (.ok .next) {sh with heap:=h3,toks:=tk}:=by
 cases use with
 | none=>refine aI (vb n9 zB ⟨l,jB⟩ x9) fun MV g2=>aA MV fun mm g1=> ?_;exact⟨mm,g1,fun h' m' f1 f2=>ah (g2 h' m' f1 f2) fun n3 g3 g4=>ff h' n3 g3 g4⟩
 | some u=>refine wpAny_mono ff (fun Z s' qn=> ?_) fun Z Z z=>z;refine Vd qn fun aeI m2' X8 c2 yJ aeJ MW f1 f2 f3 f4=>MW ▸ ?_;refine aI (vb f1 (bq f3.gr zB) f2 (x9.trans f3)) fun MX g2=>aA MX fun mm g1=> ?_;exact⟨mm,g1,fun h' m' p1 p2=>ah (g2 h' m' p1 p2) fun n3 g3 g4=>f4 h' n3 g3 g4⟩
theorem wy(hx:Cx e)(hM:model pw e.w=M)(hA:e.A=A){G:St->Prop}{J:Shared->Prop}{sh:Shared} (X9:look e.scope.names x=some .globalExplicit)(hL1:look L1 x=some (.ref (a+1)))(jB:σ[a+1]? =some (.ns l)) (tt:zz e ifs ⟨L1,σ.set (a+1) (.ns [(x,u)])⟩ fun ok c3=>(match ok with
    | true=>Wp e VR (eval elt e.env) c3 fun v c4=>cN e VR [.ref a,v] (fun vs=>call (.builtin "list.append") vs) c4 fun Z c5=>G c5
    | false=>G c3))
  (n:aU e bp m2 ay ⟨L1,σ⟩ h3)(rv:VR bp ay u v)(hD:bp.m[a]? =some D0)
  (fin:∀c5 nY m5 dU h5 uR,G c5->aU e nY m5 dU c5 h5->Ext bp ay nY dU->J {sh with heap:=h5,toks:=uR}):
  wpAny M A (assign (.Name x px) e.env v) (fun Z s₂=>
   wpAny M A (forIn ifs true fun c r=>if r=true then do let ok <-isTrue c e.env (eval c e.env);pure (ForInStep.yield ok)else pure (ForInStep.yield r)) (fun ok s₃=>
    if ok=true then wpAny M A (eval elt e.env) (fun x s₄=>wpAny M A (call (.builtin "list.append") [.ref D0,x]) (fun Z s₅=>J s₅) E s₄) E s₃
    else J s₃) E s₂) E {sh with heap:=h3,toks:=jr}:=by
 subst hM;subst hA;refine wpAny_assign_Name ((yI (Q:=fun Z c'=>c'=⟨L1,σ.set (a+1) (.ns (put l x u))⟩) hx X9 hL1 jB rfl) {sh with heap:=h3,toks:=jr} bp m2 _ v n rv _ _ fun Z Z c5 h5 uR nY m5 dU q5 n5 x5 Z=> ?_);have n6:=(q5 ▸ n5:aU e nY m5 dU ⟨L1,σ.set (a+1) (.ns (put l x u))⟩ h5).X7 (i:=a+1) (l1:=put l x u) (l2:= [(x,u)]) (by
  simp[((aab.mp jB).1)]) (fun z u' ez=>by
   have ez:(match Fast.sEq x z with | true=>some u | false=>none)=some u':=ez;rw[fz];cases qz:Fast.sEq x z with
   | true=>rw[qz]at ez;exact(if_pos (Fast.sEq_iff.mp qz).symm) ▸ ez
   | false=>rw[qz]at ez;exact aZ ez)
 simp only[List.set_set]at n6;refine Hn tt {sh with heap:=h5,toks:=uR} nY m5 dU n6 _ _ fun ok ok' c6 h6 yb CB m6 jC q6 n7 x6 r6=> ?_;subst r6;cases ok with
 | false=>exact fin c6 CB m6 jC h6 yb q6 n7 (x5.trans x6)
 | true=>refine q6 {sh with heap:=h6,toks:=yb} CB m6 jC n7 _ _ fun u6 v6 c8 h8 tk8 ad8 m8 MY q8 n8 x8 r8=> ?_;refine q8 {sh with heap:=h8,toks:=tk8} ad8 m8 MY [.ref D0,v6] n8 (.cons ⟨D0,bq ((x5.trans x6).trans x8).gr hD,rfl⟩ (.cons r8 .nil)) _ _ fun u9 v9 c9 h9 tk9 ad9 m9 vc q9 n9 x9 r9=>fin c9 ad9 m9 vc h9 tk9 q9 n9 (((x5.trans x6).trans x8).trans x9)
theorem om(hx:Cx e){K:St->Prop}{ad:Ad} (tB:b7 sc e.scope x=true)(zh:∀v,foldedSetIterable iter e.env v=pure v)(C4:look c.loc x=none)(jg:look c.loc (s ".0")=none)(o₀:AO)(MZ:(∃kd,o₀= .vals kd [])\/o₀= .refs [])(I:Nat->Nat->List AO->Prop)(pD:∀a k σ,I a k σ->∃l,σ[a+1]? =some (.ns l)) (lr:eT e iter c (fun c1=>c1.loc=c.loc/\I c1.aj.length 0 (c1.aj++ [o₀]++ [.ns []])/\K ⟨c.loc,c1.aj++ [o₀]++ [.ns []]⟩) us K)(hK:∀(l l':List (Str×V)) (σ:List AO),K ⟨l,σ⟩->K ⟨l',σ⟩) (turn:∀(e':Fm),Cx e'->e'.w=e.w->e'.k=e.k->e'.scope=kC sc e.scope->∀(a k:Nat) (u:V) (σ:List AO),us[k]? =some u->I a k σ->K ⟨c.loc,σ⟩-> zz e' ifs ⟨put c.loc x (.ref (a+1)),σ.set (a+1) (.ns [(x,u)])⟩ fun ok c3=>(match ok with
    | true=>Wp e' VR (eval elt e'.env) c3 fun v c4=>cN e' VR [.ref a,v] (fun vs=>call (.builtin "list.append") vs) c4 fun Z c5=>c5.loc=put c.loc x (.ref (a+1))/\I a (k+1) c5.aj/\K ⟨c.loc,c5.aj⟩
    | false=>c3.loc=put c.loc x (.ref (a+1))/\I a (k+1) c3.aj/\K ⟨c.loc,c3.aj⟩))
  (n:aU e ad m aa c sh.heap)
  (fin:∀(a:Nat) (σ:List AO) h' tk aF m' ag v,I a us.length σ->aU e aF m' ag ⟨c.loc,σ⟩ h'->Ext ad aa aF ag->RR aF a v->MU e ad aa R E sh a c.loc σ aF m' ag v tk h' use):
  wpAny (model pw e.w) e.A (comprehension (.ListComp elt [⟨.Name x px,iter,ifs,0⟩] sc pos) sc e.env fp (newList []) false (eval iter e.env) use) R E sh:=by
 have tC:=tB;unfold b7 at tC;simp only[abD,beq_iff_eq]at tC;have fT:∀y∈sc.names,y.2≠ .cell:=fun y hy z=>by have:=aaZ.mp tC.2.2.2 y hy;unfold okN at this;rw[z]at this;exact gu this
 have tx:∀y∈sc.names,y.2= .local->sc.names.lookup y.1=some .local:=fun y hy z=>by have:=aaZ.mp tC.2.2.2 y hy;unfold okN at this;rw[z]at this;exact(cj _ _).trans (beq_iff_eq.mp (acA.mp this).1)
 have X9:look (kC sc e.scope).names x=some .globalExplicit:=by simp only[<-cj];show(sc.names.map fun p=>(p.1,ck e.scope p)).lookup x=_;simp only[lookup_map2];have h1:=tC.2.1;simp only[<-cj,kD,abh]at h1;refine ah h1 fun p h1 h2=>h1 ▸ ?_;obtain⟨pn,pk⟩:=p;simp only at h2;exact h2 ▸ rfl
 refine aA (⟨_,rfl⟩:∃CE,pC (model pw e.w) e.A E use R=CE) fun CE Ut=>C2 Ut rfl zh (tA (oj hx tB)) tC.1 tx (lr sh ad m aa n _ E fun It ob T h1 dF bx m1 av c1 o1 q1 k1 n1 x1 Hg Uq XU tr D Ur=> ?_);refine bL q1 fun ql qI qK=>wpAny_newObj_type (wpAny_newFunctionEnv fT (by intro y hy;simp at hy) (fun h₁ C5 zC=> ?_) tC.1);refine bL (n1.push (o:=o₀) (ob:={cls:=.type "list",dict:=none,data:=.seq ([]:List Value).toArray}) rfl fun l hl=>by
  refine MZ.elim (fun h=>aA h fun kd ek=> ?_) fun ek=> ?_
  ·exact ek ▸ ⟨[],0,rfl,.nil,by simp⟩
  ·exact ek ▸ ⟨[],0,rfl,.nil,by decide⟩) fun n2 x2 r2=> ?_
 generalize hD:h1.objs.size=D0 at n2 x2 r2 C5 zC ⊢;generalize hH:h1.push {cls:=.type "list",dict:=none,data:=.seq ([]:List Value).toArray}=H2 at n2 C5 zC ⊢;refine bL (Fr.en n2.F n2.N ({cls:=.type (if(some e.env).isSome=true then "dict" else "frame"),data:=.dict #[]})) fun F' N' hl=> ?_;generalize hC:H2.objs.size=C at F' N' hl C5 zC ⊢;refine cps fun Z zk=>cY C5 fun oC es ep gC hd hk hm=> ?_;have F2:=F'.change zC (N' _ (.head _)).2.1 (N' _ (.head _)).2.2;have N2:=news_set (pre:= []) N' (by simp) (fun p hp=>fun z=>by have:=hl p hp;simp only[z]at this;exact absurd this (acI _)) zC gC;refine aI (n2.new (o:=.ns []) hl F2 N2 ⟨_,⟨es,ep,hd,hk,hm⟩,fun Z Z z=>aZ z⟩) fun n3 x3=>aA (⟨_,rfl⟩:∃a,c1.aj.length=a) fun a ha=> ?_;simp only[ha]at qI r2;have BP:(bx.snoc D0).m.length=a+1:=by rw[n2.len,<-ha];simp
 have hDa:((bx.snoc D0).snoc C).m[a]? =some D0:=by refine cps fun Z zk=>ah r2 fun b hb nA=> ?_;cases nA;refine zk (gT hb)
 have hCa:((bx.snoc D0).snoc C).m[a+1]? =some C:=by show((bx.snoc D0).m++ [C])[a+1]? =some C;refine BP ▸ ?_;simp
 have aL:Cx (e.js sc x C):=hx.js tB;refine aA (⟨_,rfl⟩:∃e',e.js sc x C=e') fun e' ka=>zk ?_;have Yb:e'.nv x=some C:=by exact ka ▸ if_pos (.inl rfl)
 have M0:∀y,y≠x->y≠s ".0" ->e'.nv y=e.nv y:=fun y hy hy0=>by exact ka ▸ if_neg (fun z=>z.elim hy hy0)
 have M1:e'.scope=kC sc e.scope:=by refine ka ▸ ?_;rfl
 have J4:e'.w=e.w:=by refine ka ▸ ?_;rfl
 have hh':e'.h₀=e.h₀:=by refine ka ▸ ?_;rfl
 have Uu:e'.L=e.L:=by refine ka ▸ ?_;rfl
 have Yc:e'.A=e.A:=by refine ka ▸ ?_;rfl
 have cH:e'.k=e.k:=by refine ka ▸ ?_;rfl
 have zD:compEnvC sc (gE e.env sc.names []) C e.env=e'.env:=by simp only[<-ka];rfl
 simp only[ka]at aL;have M3:∀ {ad m aa σ h},cL e.w e.h₀ e.L e'.nv ad m aa ⟨put c.loc x (.ref (a+1)),σ⟩ h->aU e' ad m aa ⟨put c.loc x (.ref (a+1)),σ⟩ h:=fun n=>by show cL e'.w e'.h₀ e'.L e'.nv _ _ _ _ _;simp only[J4,hh',Uu];exact n
 have M4:∀ {ad m aa c h},aU e' ad m aa c h->cL e.w e.h₀ e.L e'.nv ad m aa c h:=fun n=>by have n:cL e'.w e'.h₀ e'.L e'.nv _ _ _ _ _:=n;simp only[J4,hh',Uu]at n;exact n
 have n4:cL e.w e.h₀ e.L e'.nv ((bx.snoc D0).snoc C) m1 ((C,oC)::(D0,{cls:=.type "list",dict:=none,data:=.seq ([]:List Value).toArray})::av) ⟨put c.loc x (.ref (a+1)),c1.aj++ [o₀]++ [.ns []]⟩ h₁:=by
  refine cL.names n3 fun y v ey=> ?_;simp only[fz]at ey;by_cases hy:y=x
  ·replace ey:=(if_pos hy) ▸ ey;exact(aah.inj ey) ▸ hy ▸ ⟨.ref C,by unfold Nm;rw[Yb],C,hCa,rfl⟩
  ·have ey:=(if_neg hy) ▸ ey;refine ah (n3.loc y v (by exact ql ▸ ey)) fun v' f1 f2=>⟨v',f1.cg (M0 y hy fun z=>by rw[z,jg]at ey;exact aZ ey),f2⟩
 have Xd:It∉((bx.snoc D0).snoc C).all:=by have f2:=x2.qE It o1 Hg XU;exact(x3.qE It o1 f2.1 f2.2).2
 have loop:codeAny (model pw e.w) e.A (.compLoop (.ListComp elt [⟨.Name x px,iter,ifs,0⟩] sc pos) 0 (.ref It) (.ref D0) e'.env) (CE (.ref D0) C) {sh with heap:=h₁,toks:=dF+([]:List (Str×Value)).length}:=by
  refine ah (⟨_,fun Z Z z=>z,fun Z Z z=>z⟩:∃J:Nat->Shared->Prop,(∀q s,MS e e'.nv sh ad aa c.loc (put c.loc x (.ref (a+1))) us.length a I K It ob T D0 C q s->J q s)/\∀q s,J q s->MS e e'.nv sh ad aa c.loc (put c.loc x (.ref (a+1))) us.length a I K It ob T D0 C q s) fun J jm ju=> ?_;refine codeAny_compLoop_tests J ?_ us.length (jm _ _ <|
   JQ 0 _ _ m1 _ h₁ _ o1 ⟨rfl,qI,qK,rfl,n4,((x1.trans x2).trans x3),.tail _ (.tail _ Hg),Uq,Xd,D.tm Ur (x2.trans x3).gr,hDa,hCa⟩)
  intro q s' hJ;refine cps fun Z zk=> ?_;refine Gf (ju _ _ hJ) fun k σ bp m2 ay h2 gI o2 hJ=>Vf hJ fun hq Uv k2 es BQ Yd dw dG qm zv Hp zB=> ?_;rw[es]at zk;have hc:=(D.cls k o2 dG).1;by_cases iV:k<us.length
  ·refine zk (D.item k us[k] (aad iV) _ _ bp m2 ay _ o2 BQ (hK _ _ _ k2) zv dw dG qm _ _ fun v h3 o3 jr rv g1 g2 g3=> ?_);have N3:News e.h₀ e.L h3 (bB ay It o3):=dA BQ.nd dw BQ.N g3 g1;have nn3:=BQ.Cm qm dw hc (BQ.F.change g3 (BQ.N _ dw).2.1 (BQ.N _ dw).2.2) N3;have gg:Gr bp ay bp (bB ay It o3):=⟨⟨[],by simp⟩,fun b its hb=>aX hb fun z=>hc its (by obtain rfl:=z.symm;exact(dz BQ.nd dw hb) ▸ rfl)⟩;refine aA (pD a k σ Uv) fun l jB=> ?_;exact wy aL (congrArg (model pw) J4) Yc (by exact M1 ▸ X9) (by rw[fz,if_pos rfl]) jB (turn e' aL J4 cH M1 a k us[k] σ (aad iV) Uv k2) (M3 nn3) (VR.fA gg rv) Hp (fun c5 nY m5 dU h5 uR f n5 x5=>⟨q-1,(cA (bj 0x2b029191b09928 iV (bl hJ.1))),jm _ _ (JQ (k+1) c5.aj nY m5 dU h5 uR o3 ⟨aac (dZ 0x3b2909321991b09928 (cA (bj 0x2b029191b09928 iV (bl hJ.1))) (bh hJ.1)) (dZ 0xb29390b39192190928 (bl hJ.1) eH),f.2.1,f.2.2,rfl,f.1 ▸ M4 n5,(Yd.CX tr o3).trans x5,(x5.qE It o3 (b5 dw) qm).1,g2,(x5.qE It o3 (b5 dw) qm).2,D.tm (D.tm zv gg) x5.gr,bq x5.gr Hp,bq x5.gr zB⟩)⟩)
  ·have hkk:k=us.length:=aac (bj 8893012248 (bh hJ.1)) (ic iV);refine zk (D.fin _ _ bp m2 ay _ o2 BQ (hK _ _ _ k2) zv dw (hkk ▸ dG) qm _ _ fun h3 jr Hh=> ?_);have n9':aU e' bp m2 (hU ay It) ⟨put c.loc x (.ref (a+1)),σ⟩ h3:=(M3 BQ).zu qm dw hc Hh;have n9:aU e bp m2 (hU ay It) ⟨c.loc,σ⟩ h3:=by
    refine cL.names (M4 n9') fun y v ey=> ?_;have hy:y≠x:=fun z=>by rw[z,C4]at ey;exact aZ ey
    refine ah (n9'.loc y v (by simp only[fz,if_neg hy];exact ey)) fun v' f1 f2=> ?_;exact⟨v',f1.cg (M0 y hy fun z=>by rw[z,jg]at ey;exact aZ ey).symm,f2⟩
   refine aA (pD a _ σ Uv) fun l jB=>Ut ▸ zA (sh:=sh) n9 (Yd.hU tr) zB jB (fin a σ h3 jr bp m2 _ (.ref D0) (hkk ▸ Uv) n9 (Yd.hU tr) ⟨D0,Hp,rfl⟩)
 refine codeAny_compStart_list ?_ ?_
 ·show codeAny _ _ (.compLoop _ 0 (.ref It) (.ref D0) (compEnvC sc (gE e.env sc.names []) C e.env)) _ _;exact zD ▸ loop
 ·refine D.again 0 o1 _ _ _ m1 _ _ n4 (D.tm Ur (x2.trans x3).gr) (.tail _ (.tail _ Hg)) Uq _ _ ?_;show codeAny _ _ (.compLoop _ 0 (.ref It) (.ref D0) (compEnvC sc (gE e.env sc.names []) C e.env)) _ _;exact zD ▸ loop
end
section
theorem wz(C:Addr)(vs:List Value):(Code.builtin "type.__call__" ⟨.ref C::vs,[]⟩).weight=1/\(Code.builtin "type.__call__" ⟨.ref C::vs,[]⟩).cUnits=1/\(Code.builtin "type.__call__" ⟨.ref C::vs,[]⟩).envs= []:=by and_intros<;>kernel_rfl
noncomputable def Fm.Hq (e:Fm)(C:Addr)(vs:List Value):Fm:={e with A:=e.A.under (.builtin "type.__call__" ⟨.ref C::vs,[]⟩),k:=e.k-1}
theorem Cx.Hq (hx:Cx e)(hk:0<e.k)(C:Addr)(vs:List Value):Cx (e.Hq C vs):=by
 refine bL (wz C vs) fun h1 h2 h3=>⟨hx.B,hx.X,hx.T,?_,hx.uH,hx.hk,hx.gl,hx.bu,hx.kd,?_,?_,hx.hh⟩
 ·show pushEnvs (Code.envs (.builtin "type.__call__" ⟨.ref C::vs,[]⟩)) e.A.frames=some (e.iU::e.outer);exact h3 ▸ hx.hA
 ·show e.A.depth+Code.weight (.builtin "type.__call__" ⟨.ref C::vs,[]⟩)+(e.k-1)<recursionLimit;simp only[h1];have:=hx.dep;exact dZ 0x2b3b09991b3992b1099928 this (cA (bY 2965018904 hk))
 ·show e.A.units+Code.cUnits (.builtin "type.__call__" ⟨.ref C::vs,[]⟩)+20*(e.k-1)<cLine;simp only[h2];have:=hx.Cn;lia
variable{e:Fm}
theorem pE(hx:Cx e)(hk:0<e.k)(hm:makesIn (KK e.w.params) C=true)(hi:findIn (KK e.w.params) (.ref C) "__init__" =some (some (.ref fI)))(hf:typeIn (KK e.w.params) (.ref fI)=some (.type "function")) (ho:o= .inst C σ.length\/o= .slot C σ.length [])(h:∀e':Fm,Cx e'->e'.w=e.w->e'.k=e.k-1->af e' (.ref (σ.length+1)::us) (.ref fI) (σ++ [.dict []]++ [o]) fun v σ'=>v= .pv .none/\Q (.ref (σ.length+1)) σ'):af e us (.ref C) σ Q:=by
 intro x ad m aa vs n ru R E p;refine make_K n.F n.N (hx.X.keeps n.F.keep) hm hi hf fun xa dx h' F' N' hl bT=> ?_;refine aI (n.new (o:=.dict []) hl F' (fun q hq=>N' q (.tail _ hq)) ⟨[],0,rfl,.nil,by simp⟩) fun n1 x1=> ?_;have ll:∀q∈(dx,emptyDict)::aa,q.1<xa:=fun q hq=>by
  rcases abi.mp hq with z | z
  ·subst z;exact bT
  ·exact aeF (hl q z) bT
 have qN:((ad.snoc dx).snoc xa).m[σ.length]? =some dx:=by refine gT ?_;show(ad.m++ [dx])[_]? =_;rw[show σ.length=ad.m.length from n.len.symm];simp
 refine aI (n1.new (o:=o) ll F' N' (by
  rcases ho with rfl | rfl
  ·exact⟨dx,qN,rfl⟩
  ·exact⟨dx,[],qN,rfl,.nil⟩)) fun n2 x2=> ?_
 have hxa:((ad.snoc dx).snoc xa).m[σ.length+1]? =some xa:=by show((ad.m++ [dx])++ [xa])[_]? =_;rw[show σ.length+1=(ad.m++ [dx]).length by rw[aag];simp[n.len]];simp
 refine codeAny_mono (h (e.Hq C vs) (hx.Hq hk C vs) rfl rfl {x with heap:=h'} _ m _ (.ref xa::vs) n2 (.cons ⟨xa,hxa,rfl⟩ (qj.mono (x1.trans x2) ru)) (fun v s'=>v= .none/\R (.ref xa) s') E fun v v' σ' h2 tk aF ag q n' y rv=> ?_) fun r s' hr=> ?_
 ·obtain⟨rfl,q⟩:=q;exact⟨rv,p _ _ σ' h2 tk aF ag q n' ((x1.trans x2).trans y) ⟨xa,bq y.gr hxa,rfl⟩⟩
 ·cases r with
  | ok f=>cases f <;> exact hr
  | error _=>exact hr
section
variable(P:Params)(Q:AF->St->Prop)
theorem Hr:makesIn (KK P) 100=true/\findIn (KK P) (.ref 100) "__init__" =some (some (.ref 96))/\typeIn (KK P) (.ref 96)=some (.type "function"):=by and_intros<;>kernel_rfl
end
end
noncomputable def dX(es:List (Int×V))(k:Int):Option V:=(es.find? fun p=>decide (p.1=k)).map (·.2)
noncomputable def ml(es:List (Int×V))(k:Int)(v:V):List (Int×V):=if es.any (fun p=>decide (p.1=k))then es.map (fun p=>if p.1=k then(p.1,v)else p)else es++ [(k,v)]
noncomputable def rB(es:List (Int×V))(k:Int):List (Int×V):=es.filter fun p=>decide (p.1≠k)
theorem jV.jh (h:jV w o gn ep):o.IsDictOf (intKind pw w) gn:=let ⟨es,r⟩:=h;⟨es,ep,r⟩
theorem oo(h:o.IsDictOf (intKind pw w) gn):∃ep,jV w o gn ep:=let ⟨es,ep,r⟩:=h;⟨ep,es,r⟩
section
variable{ad:Ad}{aa:Led}
theorem jM{k:Int}{es:List (Int×V)}{gn:List (Int×Value)}(hh:aM (IR ad aa) es gn):match dX es k with
  | some v=>∃v',valueAt gn k=some v'/\VR ad aa v v'
  | none=>valueAt gn k=none:=by
 induction hh with
 | nil=>exact rfl
 | @cons a b _ _ h t ih=>
  unfold dX valueAt at ih ⊢;rw[adP,adP,show decide (b.1=k)=decide (a.1=k) by rw[h.1]];cases q:decide (a.1=k)with
  | true=>exact⟨_,rfl,h.2⟩
  | false=>exact ih
theorem C6(hv:VR ad aa v v')(h:aM (IR ad aa) es gn):aM (IR ad aa) (ml es k v) (stored gn k v'):=by
 have e1:(gn.any fun p=>decide (p.1=k))=es.any fun p=>decide (p.1=k):=by
  induction h with
  | nil=>rfl
  | cons h _ ih=>simp only[List.any_cons,ih,h.1]
 unfold ml stored;rw[e1];split
 ·rename_i Ye;clear e1 Ye;induction h with
  | nil=>exact .nil
  | cons h t ih=>
   refine .cons ?_ ih;rename_i a b _ _;dsimp only;by_cases q:a.1=k
   ·rw[if_pos q,if_pos (by rw[h.1];exact q)];exact⟨h.1,hv⟩
   ·rw[if_neg q,if_neg (by rw[h.1];exact q)];exact h
 ·exact h.append (.cons ⟨rfl,hv⟩ .nil)
theorem vd:∀ {es:List (Int×V)} {gn:List (Int×Value)},aM (IR ad aa) es gn->aM (IR ad aa) (rB es k) (without gn k)
 | _,_,.nil=>.nil
 | _,_,.cons (a:=a) (b:=b) h t=>by
  have ih:=vd (k:=k) t;unfold rB without at ih ⊢;simp only[List.filter_cons];rw[(show decide (b.1≠k)=decide (a.1≠k) from by rw[h.1])];cases q:decide (a.1≠k)with
  | true=>simp only[if_true];exact .cons h ih
  | false=>simpa using ih
end
theorem gF:∀ {aa:Led},(aa.map (·.1)).Nodup->(a,o)∈aa->UpdF a o aa (fun o'=>bB aa a o'):=by
 intro aa;induction aa with
 | nil=>intro _ h;exact bg h
 | cons p r ih=>
  intro nd h;simp only[acu,acD]at nd;by_cases e:p.1=a
  ·have off:∀q∈r,q.1≠a:=fun q hq z=>nd.1 (by exact e ▸ z ▸ ab6.mpr ⟨q,hq,rfl⟩);have hp:p=(a,o):=by
    rcases abi.mp h with q | q
    ·exact q.symm
    ·exact absurd rfl (off _ q)
   subst hp;have:(fun o'=>bB ((a,o)::r) a o')=fun o'=>(a,o')::r:=by funext o';show(if a=a then(a,o')else(a,o))::bB r a o'=_;rw[if_pos rfl,qF off]
   exact this ▸ .head off
  ·have h':(a,o)∈r:=by
    rcases abi.mp h with q | q
    ·exact absurd (by exact q ▸ rfl) e
    ·exact q
   have:(fun o'=>bB (p::r) a o')=fun o'=>p::bB r a o':=by funext o';show(if p.1=a then(a,o')else p)::bB r a o'=_;exact(if_neg e) ▸ rfl
   exact this ▸ .tail e (ih nd.2 h')
section
variable{e:Fm}{c:St}
theorem Cx.lo (hx:Cx e){ad:Ad}(n:aU e ad m aa c h)(hm:(a,o)∈aa):(a==sysModules)=false:=by
 apply beq_false_of_ne;intro z;have h1:=(n.N _ hm).2.2;have h2:((KK e.w.params).lookup 1).isSome=true:=by kernel_rfl
 obtain⟨o2,h2⟩:=acX.mp h2;have h3:=hx.X _ _ h2;rw[show(a,o).1=1 from z]at h1;rw[h1]at h3;exact aZ h3
theorem tD{id:String}(hs:c.aj[i]? =some (.bo ep es))(slot:Slot "dict" name id)(VT:typeOf (.builtin id)=pure (.type "method_descriptor"))(h:Q (.builtin id,[.ref i]) c):cP e MR (.ref i) (fun v=>getMethod v name pl) c Q:=by rintro x ad m aa v n r R E q;refine cI (n.at hs r) fun a ob M5 ha hm M6 ho=> ?_;subst M5;obtain⟨gn,hd,hE⟩:=M6;exact kob_method slot VT n.N hm hd.jh (q _ _ _ _ _ _ _ _ h n (Ext.refl ..) ⟨rfl,.cons r .nil⟩)
theorem zE(hx:Cx e)(hs:c.aj[i]? =some (.bo ep es))(h:Q ((dX es k).getD (.pv .none)) c):cN e VR [.ref i,.pv (.int k)] (fun vs=>call (.builtin "dict.get") vs) c Q:=by
 refine .of2 (.ri fun x ad m aa a t n ha R E q=>bD (n.nq hs ha) fun ob hm M7 ho=> ?_);obtain⟨gn,hd,hE⟩:=M7;have hD:=kda_dict n.N hm hd.jh;refine call_meetsIn PySem.F.slot_dict_get hD.typeIs PySem.F.entry_dict_get (PySem.F.args_dict_get_2 _ _) (meets_dict_get (intKind pw e.w) a (k:=k) (by simp[intKind,Value.isInt]) (hx.lo n hm)) ⟨_,hD.mapOf,?_⟩;have key:=jM (k:=k) hE;cases hl:dX es k with
 | none=>rw[hl]at key h;rw[key];exact q _ _ _ _ _ _ _ _ h n (Ext.refl ..) rfl
 | some v=>rw[hl]at key h;refine ah key fun v' h1 h2=> ?_;exact h1 ▸ q _ _ _ _ _ _ _ _ h n (Ext.refl ..) h2
theorem pF(mX:isSlice sl=false)(hs:c.aj[i]? =some (.bo ep es))(hl:dX es k=some v)(h:Q v c):bM e VR (.ref i) (.pv (.int k)) (subscriptTail y sl) c Q:=by refine .ri fun x ad m aa a t n ha R E q=>bD (n.nq hs ha) fun ob hm M8 ho=> ?_;obtain⟨gn,hd,hE⟩:=M8;have key:=jM (k:=k) hE;rw[hl]at key;refine ah key fun v' h1 h2=> ?_;have hD:=kda_dict n.N hm hd.jh;exact tail_any hD.typeIs slot_dict_getitem.lookup (wpAny_getItem_of (by simp[intKind,Value.isInt]) hD.mapOf h1 (q _ _ _ _ _ _ _ _ h n (Ext.refl ..) h2)) (bz mX _ _)
theorem M9(hx:Cx e)(hs:c.aj[i]? =some (.bo ep es))(h:Q (.pv (.bool (dX es k).isSome)) c):bM e VR (.pv (.int k)) (.ref i) (compareOp .In) c Q:=by
 rintro x ad m aa _ _ n ⟨t,rfl⟩ r R E q;refine cI (n.at hs r) fun a ob Na ha hm Nb ho=> ?_;subst Na;obtain⟨gn,hd,hE⟩:=Nb;have key:=jM (k:=k) hE;refine kda_in (k:=k) n.N hm hd.jh (hx.lo n hm) (by simp[intKind,Value.isInt]) (dX es k).isSome ?_ (q _ _ _ _ _ _ _ _ h n (Ext.refl ..) rfl);cases hl:dX es k with
 | none=>rw[hl]at key;rw[key];rfl
 | some v=>rw[hl]at key;refine ah key fun v' h1 h2=> ?_;rw[h1];rfl
theorem mn(hs:c.aj[i]? =some (.bo ep es))(hz:es.length<=100000)(h:∀dJ,Q () {c with aj:=c.aj.set i (.bo dJ (ml es k v))}):cN e cD [.ref i,.pv (.int k),v] nk c Q:=by refine .VJ fun x ad m aa _ _ _ n r Lg rv R E q=> ?_;obtain⟨t,rfl⟩:=Lg;rename_i v';refine cI (n.at hs r) fun a ob Nc ha hm Nf ho=> ?_;subst Nc;obtain⟨gn,hd,hE⟩:=Nf;have hlen:=hE.length;refine kda_set (k:=k) n.F n.N (gF n.nd hm) hd.jh (by simp[intKind,Value.isInt]) (by have:=aD;lia) fun h' o' F' N' BL=>aA (oo BL) fun dJ BL=> ?_;have lJ:NT ob:=(show OR e.w ad aa (.bo ep es) ob from⟨gn,hd,hE⟩).cls;have x':Ext ad aa ad (bB aa a o'):=cV n.nd (Ad.bk ha) hm lJ;exact q () () _ h' _ ad m _ (h dJ) (n.oV hs ha hm lJ F' N' ⟨_,BL,C6 (VR.mono x' rv) (hE.mono fun _ _ z=>⟨z.1,VR.mono x' z.2⟩)⟩) x' rfl
theorem Hs(hs:c.aj[i]? =some (.bo ep es))(hz:es.length<=100000)(hl:(dX es k).isSome=true)(h:∀dJ,Q () {c with aj:=c.aj.set i (.bo dJ (rB es k))}):bM e cD (.ref i) (.pv (.int k)) delItem c Q:=by refine .ri fun x ad m aa a t n ha R E q=>cps fun Z zk=> ?_;refine bD (n.nq hs ha) fun ob hm Ng ho=> ?_;obtain⟨gn,hd,hE⟩:=Ng;have hlen:=hE.length;have key:=jM (k:=k) hE;obtain⟨v,hv⟩:=acX.mp hl;rw[hv]at key;refine ah key fun v' h1 h2=>zk ?_;refine kob_del (k:=k) n.F n.N (gF n.nd hm) hd.jh (by simp[intKind,Value.isInt]) (by rw[h1];rfl) (by have:=aD;lia) fun h' o' F' N' BL=> ?_;obtain⟨dJ,BL⟩:=oo BL;have lJ:NT ob:=(show OR e.w ad aa (.bo ep es) ob from⟨gn,hd,hE⟩).cls;have x':Ext ad aa ad (bB aa a o'):=cV n.nd (Ad.bk ha) hm lJ;exact q () () _ h' _ ad m _ (h dJ) (n.oV hs ha hm lJ F' N' ⟨_,BL,vd (hE.mono fun Z Z z=>⟨z.1,VR.mono x' z.2⟩)⟩) x' rfl
end
section
section
variable(P:Params)(e:Fm)(Q:AF->St->Prop)
abbrev J5(j:Int):List (Str×V):= [(s "self",.ref 1),(s "node",.pv (.int j))]
theorem Yg(j:Int)(σ:List AO):sL e P (cst 7 1) ⟨J5 j,.dict []:: .slot 100 0 []::σ⟩ Q=bM e cD (.ref 1) (.pv (.int j)) (fun o v=>setAttr o (s "node") v) ⟨J5 j,.dict []:: .slot 100 0 []::σ⟩ fun(_:Unit) c3=>dN e P (cst 7 1) 1 Q .next c3:=by kernel_rfl
theorem Yh(j:Int)(us:List (Option V))(σ:List AO):dN e P (cst 7 1) 1 Q .next ⟨J5 j,.dict []:: .slot 100 0 us::σ⟩=bM e cD (.ref 1) (.pv (.int 0)) (fun o v=>setAttr o (s "npredecessors") v) ⟨J5 j,.dict []:: .slot 100 0 us::σ⟩ fun(_:Unit) c3=>dN e P (cst 7 1) 2 Q .next c3:=by kernel_rfl
theorem Yi(j:Int)(us:List (Option V)):dN e P (cst 7 1) 2 Q .next ⟨J5 j,[.dict [],.slot 100 0 us]⟩=(([]:List V).length<=100000/\bM e cD (.ref 1) (.ref 2) (fun o v=>setAttr o (s "successors") v) ⟨J5 j,[.dict [],.slot 100 0 us,.vals .int []]⟩ fun(_:Unit) c3=>dN e P (cst 7 1) 3 Q .next c3):=by kernel_rfl
theorem Yj(c:St):dN e P (cst 7 1) 3 Q .next c=Q .next c:=by kernel_rfl
end
variable{e:Fm}
theorem C7(hx:Cx e)(hk:e.k=k+1)(j:Int):af e [.ref 1,.pv (.int j)] (.ref 96) [.dict [],.slot 100 0 []] fun v σ=>v= .pv .none/\σ= [.dict [],.slot 100 0 [some (.pv (.int j)),some (.pv (.int 0)),some (.ref 2)],.vals .int []]:=by refine df hx hk (f96 _) (names:= [s "self",s "node"]) (fun Z Z Z Z Z Z vs hv=>by refine eP (iW hv) fun Z Z Nh=> ?_;subst Nh;kernel_rfl) (by kernel_rfl) fun e' aL hw cH hs=>bJ aL hs ?_;refine of_eq (Yg _ e' _ j []) (eF aL rfl rfl (eE _).1 (acy _) (of_eq (Yh _ e' _ j _ []) (eF aL (d:=0) (k:=1) rfl rfl (eE _).2.1 (lx [] [] 268502284552) ?_)));refine of_eq (Yi _ e' _ j _) ⟨by simp,eF aL rfl rfl (eE _).2.2 (lx [] [] 268502288648) (of_eq (Yj _ e' _ _) ⟨rfl,rfl⟩)⟩
theorem C8(hx:Cx e)(hk:e.k=k+2)(j:Int)(σ:List AO):af e [.pv (.int j)] (.ref 100) σ fun v σ'=>v= .ref (σ.length+1)/\σ'=σ++ [.dict [],.slot 100 σ.length [some (.pv (.int j)),some (.pv (.int 0)),some (.ref (σ.length+2))],.vals .int []]:=by
 refine pE hx (ba 1900820863256 (bl hk)) (Hr _).1 (Hr _).2.1 (Hr _).2.2 (.inr rfl) fun e' aL hw cH=> ?_;have key:=af.lift (is:= [σ.length,σ.length+1]) (σ:=σ++ [.dict []]++ [.slot 100 σ.length []]) (Q:=fun v σ'=>v= .pv .none/\V.ref (σ.length+1)= .ref (σ.length+1)/\σ'=σ++ [.dict [],.slot 100 σ.length [some (.pv (.int j)),some (.pv (.int 0)),some (.ref (σ.length+2))],.vals .int []]) (by simp) rfl (fun q o i h1 h2=> ?_) (C7 (k:=k) aL (aac (dZ 0xb390c39292b19910938 (bh cH) (cA (ba 7277156632 (bl hk))) (bh hk)) (dZ 0x3b09329b29191c09938 (bl hk) eH (bl cH))) j) fun v τ' q=> ?_
 ·exact key
 ·match q,h1,h2 with
  | 0,h1,h2=>simp at h1 h2;subst h1;subst h2;simp[AO.qQ]
  | 1,h1,h2=>simp at h1 h2;subst h1;subst h2;simp[AO.qR,eJ]
  | q+2,h1,h2=>exact aZ h1
 ·obtain⟨rfl,rfl⟩:=q;refine⟨rfl,rfl,?_⟩;show List.set (List.set _ σ.length _) (σ.length+1) _++ [_]=_;simp[AO.qP,AO.qQ,AO.qR,eJ,V.uS,V.yY]
end
abbrev Nd:=Int×List Int
noncomputable def wA(j:Nat)(nd:Nd):List AO:= [.dict [],.slot 100 (3+3*j) [some (.pv (.int j)),some (.pv (.int nd.1)),some (.ref (5+3*j))],.vals .int nd.2]
noncomputable def aQ:Nat->List Nd->List AO
 | _,[]=> []
 | j,nd::r=>wA j nd++aQ (j+1) r
theorem gV:aQ j (a::r)=wA j a++aQ (j+1) r:=rfl
noncomputable def ents(n:Nat):List (Int×V):=(acj n).map fun(j:Nat)=>((j:Int),V.ref (4+3*j))
abbrev BS(R:V)(po fi:Int):List (Str×V):= [(s "_node2info",.ref 2),(s "_ready_nodes",R),(s "_npassedout",.pv (.int po)),(s "_nfinished",.pv (.int fi))]
abbrev bR(R:V)(po fi:Int)(ep:Nat)(es:List (Int×V))(r:List AO):List AO:=.inst 197 1:: .dict (BS R po fi):: .bo ep es::r
theorem fg:∀(l:List Nd) (j:Nat),(aQ j l).length=3*l.length:=by
 intro l;induction l with
 | nil=>exact fun Z=>rfl
 | cons _ r ih=>intro j;simp only[gV,aag,ih,wA,acn,acQ];lia
theorem ve:∀(l:List Nd) (j i:Nat) (nd:Nd),l[i]? =some nd->(aQ j l)[3*i]? =some (.dict [])/\(aQ j l)[3*i+1]? =some (.slot 100 (3+3*(j+i)) [some (.pv (.int ((j+i:Nat):Int))),some (.pv (.int nd.1)),some (.ref (5+3*(j+i)))])/\(aQ j l)[3*i+2]? =some (.vals .int nd.2)
 | [],_,_,_,h=>by exact aZ h
 | a::r,j,0,nd,h=>by simp at h;exact h ▸ ⟨rfl,rfl,rfl⟩
 | a::r,j,i+1,nd,h=>by have ih:=ve r (j+1) i nd (by simpa using h);rw[(aac (ba 0xb19091b09908) (ba 29728070764808):j+1+i=j+(i+1))]at ih;rw[gV];have sh:∀q,(wA j a++aQ (j+1) r)[q+3]? =(aQ (j+1) r)[q]? :=fun q=>rfl;simp only[show 3*(i+1)=3*i+3 by lia,show 3*i+3+1=3*i+1+3 by lia,show 3*i+3+2=3*i+2+3 by lia,sh,sh,sh];exact ih
theorem rC:∀(l:List Nd) (j i:Nat) (nd:Nd) (v:Int),l[i]? =some nd->(aQ j l).set (3*i+1) (.slot 100 (3+3*(j+i)) [some (.pv (.int ((j+i:Nat):Int))),some (.pv (.int v)),some (.ref (5+3*(j+i)))])=aQ j (l.set i (v,nd.2))
 | [],_,_,_,_,h=>by exact aZ h
 | a::r,j,0,nd,v,h=>by simp at h;exact h ▸ rfl
 | a::r,j,i+1,nd,v,h=>by have ih:=rC r (j+1) i nd v (by simpa using h);rw[(show j+1+i=j+(i+1) from aac (ba 0xb19091b09908) (ba 29728070764808))]at ih;simp only[gV,List.set_cons_succ];simp only[show 3*(i+1)+1=3*i+1+3 by lia,<-ih];rfl
theorem rD:∀(l:List Nd) (j i:Nat) (nd:Nd) (v:List Int),l[i]? =some nd->(aQ j l).set (3*i+2) (.vals .int v)=aQ j (l.set i (nd.1,v))
 | [],_,_,_,_,h=>by exact aZ h
 | a::r,j,0,nd,v,h=>by simp at h;subst h;rfl
 | a::r,j,i+1,nd,v,h=>by simp only[gV,List.set_cons_succ];rw[show 3*(i+1)+2=3*i+2+3 by lia,<-(rD r (j+1) i nd v (by simpa using h))];rfl
theorem zF:∀(l:List Nd) (j:Nat) (nd:Nd),aQ j (l++ [nd])=aQ j l++wA (j+l.length) nd:=by
 intro l;induction l with
 | nil=>intro j nd;exact ab5 _
 | cons a r ih=>intro j nd;simp only[aev,gV,ih (j+1) nd,acx,acn];simp only[show j+1+r.length=j+(r.length+1) by lia]
theorem gi(h:l[i]? =some nd):(bR R po fi ep es (aQ 0 l++g))[3+3*i]? =some (.dict [])/\(bR R po fi ep es (aQ 0 l++g))[4+3*i]? =some (.slot 100 (3+3*i) [some (.pv (.int (i:Int))),some (.pv (.int nd.1)),some (.ref (5+3*i))])/\(bR R po fi ep es (aQ 0 l++g))[5+3*i]? =some (.vals .int nd.2):=by have hi:i<l.length:=(aab.mp h).1;have hl:=fg l 0;refine bL (ve l 0 i nd h) fun h1 h2 h3=> ?_;rw[aeH]at h2;have sh:∀q,(bR R po fi ep es (aQ 0 l++g))[q+3]? =(aQ 0 l++g)[q]? :=fun q=>rfl;rw[show 3+3*i=3*i+3 by lia,show 4+3*i=3*i+1+3 by lia,show 5+3*i=3*i+2+3 by lia,sh,sh,sh,aaY (by lia),aaY (by lia),aaY (by lia)];rw[show 3*i+3=3+3*i by lia,show 3*i+2+3=5+3*i by lia];exact⟨h1,h2,h3⟩
theorem ly(v:Int)(h:l[i]? =some nd):(bR R po fi ep es (aQ 0 l++g)).set (4+3*i) (.slot 100 (3+3*i) [some (.pv (.int (i:Int))),some (.pv (.int v)),some (.ref (5+3*i))])=bR R po fi ep es (aQ 0 (l.set i (v,nd.2))++g):=by have hi:i<l.length:=(aab.mp h).1;have hl:=fg l 0;have h1:=rC l 0 i nd v h;rw[aeH]at h1;rw[<-h1,show 4+3*i=3*i+1+3 by lia];show _::_::_::(aQ 0 l++g).set (3*i+1) _=_;rw[adK _ _ (by lia)]
theorem C9(v:List Int)(h:l[i]? =some nd):(bR R po fi ep es (aQ 0 l++g)).set (5+3*i) (.vals .int v)=bR R po fi ep es (aQ 0 (l.set i (nd.1,v))++g):=by have hi:i<l.length:=(aab.mp h).1;have hl:=fg l 0;rw[<-rD l 0 i nd v h,show 5+3*i=3*i+2+3 by lia];show _::_::_::(aQ 0 l++g).set (3*i+2) _=_;rw[adK _ _ (by lia)]
theorem oq(n:Nat):ents (n+1)=ents n++ [((n:Int),V.ref (4+3*n))]:=by unfold ents;simp only[adq,acq];rfl
theorem jN(n:Nat):(ents n).length=n:=by unfold ents;simp
theorem fD(h:k<n):dX (ents n) k=some (.ref (4+3*k)):=by
 induction n with
 | zero=>lia
 | succ n ih=>
  rw[oq];unfold dX at ih ⊢;rw[List.find?_append];by_cases hk:k<n
  ·have:=ih hk;cases q:List.find? (fun p=>decide (p.1=(k:Int))) (ents n)with
   | none=>rw[q]at this;exact aZ this
   | some p=>rw[q]at this;simpa using this
  ·have hkn:k=n:=aac (ab8 h) ((ic hk));subst hkn;have:List.find? (fun p=>decide (p.1=(k:Int))) (ents k)=none:=by
    rw[List.find?_eq_none];intro p hp;unfold ents at hp;simp only[ab6,acB]at hp;obtain⟨j,hj,rfl⟩:=hp;simp;exact fun zq=>cB (ba 0xab0b1991808128 (jv zq) hj)
   rw[this];simp
theorem mq:dX (ents n) n=none:=by unfold dX;rw[Option.map_eq_none_iff,List.find?_eq_none];intro p hp;unfold ents at hp;simp only[ab6,acB]at hp;obtain⟨j,hj,rfl⟩:=hp;simp;exact fun zq=>cB (ba 0xab0b1991808128 (jv zq) hj)
theorem zG:ml (ents n) n (.ref (4+3*n))=ents (n+1):=by unfold ml;rw[if_neg,oq];simp only[List.any_eq_true,not_exists,not_and];intro p hp;unfold ents at hp;simp only[ab6,acB]at hp;obtain⟨j,hj,rfl⟩:=hp;simp;lia
section
abbrev rE(y:Expr):Expr:=e1 1 y
def mQ(e:Fm)(P:Params)(sc:Scope)(n:Nat)(args:List Expr)(K:V->St->Prop):Value×List V->St->Prop:=fun fm c2=>match eY P fm.1 with
 | true=>Fd (ew e P sc n) args c2 fun vs c3=>gD e fm.1 (fm.2++vs) c3 K
 | false=>False
section
variable{e:Fm}{c:St}
theorem vf(hx:Cx e)(hl:look e.scope.names y=some .local)(h:Wp e VR (eval v e.env) c fun a c1=>Q a {c1 with loc:=put c1.loc y a}):Wp e VR (eval (.NamedExpr (.Name y p) v pos) e.env) c Q:=by
 intro x ad m aa n R E pp;show wpAny _ _ (do
  let a <-eval v e.env
  holding [a] (assign (.Name y p) e.env a)
  pure a) _ _ _
 refine wpAny_bind (h x ad m aa n _ E fun a a' c1 h1 dF bx m1 av q1 n1 x1 r1=>wpAny_bind (wpAny_holding (wpAny_assign_Name ?_)));refine(cE (Q:=fun Z c'=>c'={c1 with loc:=put c1.loc y a}) hx hl rfl) _ bx m1 av a' n1 r1 _ E fun Z Z c2 h2 gI bp m2 ay q2 n2 x2 Z=> ?_;subst q2;exact wpAny_pure (pp a a' _ h2 gI bp m2 ay q1 n2 (x1.trans x2) (VR.mono x2 r1))
theorem wB(hx:Cx e)(hl:look e.scope.names y=some .local)(hw:swappedStores [.Subscript o i p,.Name y p'] v e.env=pure none) (h:Wp e VR (eval v e.env) c fun a c1=>Wp e VR (eval o e.env) c1 fun u c2=>Wp e VR (eval i e.env) c2 fun k c3=>cN e cD [u,k,a] nk c3 fun(_:Unit) c4=>Q .next {c4 with loc:=put c4.loc y a}):Wp e bN (exec (.Assign [.Subscript o i p,.Name y p'] v pos) e.env) c Q:=by intro x ad m aa n R E pp;refine wpAny_Assign_two (h x ad m aa n _ E fun a a' c1 h1 dF bx m1 av q1 n1 x1 r1=> ?_) rfl hw;refine kas_sub (q1 _ bx m1 av n1 _ E fun u u' c2 h2 gI bp m2 ay q2 n2 x2 r2=>q2 _ bp m2 ay n2 _ E fun k k' c3 h3 jr iq m3 cn q3 n3 x3 r3=>q3 _ iq m3 cn [u',k',a'] n3 (.cons (VR.mono x3 r2) (.cons r3 (.cons (VR.mono (x2.trans x3) r1) .nil))) _ E fun Z Z c4 h4 Ug E1 m4 ky q4 n4 x4 Z=> ?_);refine wpAny_assign_Name ((cE (Q:=fun Z c'=>c'={c4 with loc:=put c4.loc y a}) hx hl rfl) _ E1 m4 ky a' n4 (VR.mono ((x2.trans x3).trans x4) r1) _ E fun Z Z c5 h5 uR nY m5 dU q5 n5 x5 Z=> ?_);subst q5;exact pp .next .next _ h5 uR nY m5 dU q4 n5 ((((x1.trans x2).trans x3).trans x4).trans x5) rfl
end
abbrev Yk:Stmt:=at_ (ar (cst 9 1)) 0
abbrev yf:Expr:=bU Yk
abbrev zH:Stmt:=at_ (ax Yk) 0
abbrev pG:Scope:=au (cst 9 1)
abbrev qr(k:Int):List (Str×V):= [(s "self",.ref 0),(s "node",.pv (.int k))]
theorem vg:ar (cst 9 1)= [.If yf [zH] [] (bZ Yk),at_ (ar (cst 9 1)) 1]:=by kernel_rfl
theorem Ht:yf= .Compare (.NamedExpr (.Name (s "result") (aw (nxT (gM yf)))) (EX (gM yf)) (aw (gM yf))) [.Is] [.Constant .none 0 (fJ (rE yf))] (aw yf):=by kernel_rfl
theorem Hu:zH= .Assign [.Subscript (dh (i6 0 zH)) (ec (i6 0 zH)) (aw (i6 0 zH)),.Name (s "result") (aw (i6 1 zH))] (ak zH) (bZ zH):=by kernel_rfl
section
variable(P:Params)(e:Fm)(K:V->St->Prop)
theorem Yl(k:Int)(R:V)(po fi:Int)(ep:Nat)(es:List (Int×V))(r:List AO):ew e P pG 40 (EX (gM yf)) ⟨qr k,bR R po fi ep es r⟩ K=∀pl,cP e MR (.ref 2) (fun v=>getMethod v (s "get") pl) ⟨qr k,bR R po fi ep es r⟩ (mQ e P pG 39 (dE (EX (gM yf))) K):=by kernel_rfl
theorem Ym(k:Int)(σ:List AO):mQ e P pG 39 (dE (EX (gM yf))) K (.builtin "dict.get",[.ref 2]) ⟨qr k,σ⟩=cN e VR [.ref 2,.pv (.int k)] (fun dc=>call (.builtin "dict.get") dc) ⟨qr k,σ⟩ K:=by kernel_rfl
theorem Ni(k:Int)(v:V)(σ:List AO)(Q:AF->St->Prop):cZ (xw e P pG 40) [at_ (ar (cst 9 1)) 1] ⟨qr k++ [(s "result",v)],σ⟩ Q=Q (.ret v) ⟨qr k++ [(s "result",v)],σ⟩:=by kernel_rfl
theorem Yn(k:Int)(v:V)(σ:List AO):ew e P pG 40 (ak zH) ⟨qr k++ [(s "result",v)],σ⟩ K=af e [.pv (.int k)] (.ref 100) σ fun v' σ'=>K v' ⟨qr k++ [(s "result",v)],σ'⟩:=by kernel_rfl
theorem Yo(k:Int)(v:V)(R:V)(po fi:Int)(ep:Nat)(es:List (Int×V))(r:List AO):ew e P pG 40 (dh (i6 0 zH)) ⟨qr k++ [(s "result",v)],bR R po fi ep es r⟩ K=K (.ref 2) ⟨qr k++ [(s "result",v)],bR R po fi ep es r⟩:=by kernel_rfl
theorem Yp(k:Int)(v:V)(σ:List AO):ew e P pG 40 (ec (i6 0 zH)) ⟨qr k++ [(s "result",v)],σ⟩ K=K (.pv (.int k)) ⟨qr k++ [(s "result",v)],σ⟩:=by kernel_rfl
theorem Nj:look pG.names (s "result")=some .local:=by kernel_rfl
theorem Yq(k:Int)(v:V):put (qr k) (s "result") v=qr k++ [(s "result",v)]:=by kernel_rfl
theorem Nk(k:Int)(u v:V):put (qr k++ [(s "result",u)]) (s "result") v=qr k++ [(s "result",v)]:=by kernel_rfl
end
variable{e:Fm}
theorem vh(hx:Cx e)(hs:e.scope=pG)(hn:∀v,dX es k=some v->iM v=true) (h:Q (dX es k).isNone ⟨qr k++ [(s "result",(dX es k).getD (.pv .none))],bR R po fi ep es r⟩):Wp e cD (isTrue yf e.env (eval yf e.env)) ⟨qr k,bR R po fi ep es r⟩ Q:=by
 rw[Ht];refine eB rfl (vf hx (hs ▸ Nj) (iC hx 40 _ _ _ ?_));rw[hs];refine of_eq (Yl _ e _ k R po fi ep es r) fun pl=>tD rfl PySem.F.slot_dict_get PySem.F.type_dict_get (of_eq (Ym _ e _ k _) (zE hx rfl ?_));dsimp only;rw[Yq];refine ta ?_;cases hl:dX es k with
 | none=>rw[hl]at h;exact yN (cG h)
 | some v=>rw[hl]at h;exact yM (hn v hl) (cG h)
theorem Hv(hx:Cx e)(hq:e.k=q+1){k n:Nat}(hk:k<n):af e [.ref 0,.pv (.int k)] (.ref 140) (bR R po fi ep (ents n) r) fun v σ=>v= .ref (4+3*k)/\σ=bR R po fi ep (ents n) r:=by
 refine af.gen fun K9 jf=>df (k:=q) hx hq (LJ _) (names:= [s "self",s "node"]) (fun Z Z Z Z Z Z vs hv=>by refine eP (iW hv) fun Z Z Nn=> ?_;subst Nn;kernel_rfl) (by kernel_rfl) fun e' aL hw cH hs=> ?_;refine vg ▸ (aT (oX (vh aL hs (fun v hv=>by replace hv:=(fD hk) ▸ hv;exact(aah.inj hv) ▸ rfl) ⟨fun z=> ?_,fun Z=>cQ ?_⟩)))
 ·have z:=(fD hk) ▸ z;exact gu z
 ·refine(fD hk) ▸ (bJ aL hs ?_);exact of_eq (Ni _ e' k _ _ _) (jf _ _ ⟨rfl,rfl⟩)
theorem Hw(hx:Cx e){q:Nat}(hq:e.k=q+3){n:Nat}{R:V}{po fi:Int}{ep:Nat}(hr:r.length=3*n)(hz:n<=100000):af e [.ref 0,.pv (.int n)] (.ref 140) (bR R po fi ep (ents n) r) fun v σ=>v= .ref (4+3*n)/\∃dJ,σ=bR R po fi dJ (ents (n+1)) (r++ [.dict [],.slot 100 (3+3*n) [some (.pv (.int n)),some (.pv (.int 0)),some (.ref (5+3*n))],.vals .int []]):=by
 refine df hx hq (LJ _) (names:= [s "self",s "node"]) (fun Z Z Z Z Z Z vs hv=>by refine eP (iW hv) fun Z Z Np=> ?_;obtain rfl:=Np.symm;kernel_rfl) (by kernel_rfl) fun e' aL hw cH hs=> ?_;refine vg ▸ ?_;have hlen:(bR R po fi ep (ents n) r).length=3+3*n:=by simp[hr];exact aac (bY 0xd9bbb099908) (bY 0xbbb09990d908)
 refine aT (oX (vh aL hs (fun v hv=>aZ (mq ▸ hv:)) ⟨fun Z=> ?_,fun z=> ?_⟩))
 ·refine mq ▸ (aT ?_);refine Hu ▸ (wB aL (hs ▸ Nj) rfl (iC aL 40 _ _ _ ?_));refine hs ▸ (of_eq (Yn _ e' _ n _ _) ((C8 (k:=q) aL cH n _).eqs ?_));refine iC aL 40 _ _ _ ?_;simp only[hs,hlen];refine of_eq (Yo _ e' _ n _ R po fi ep (ents n) _) (iC aL 40 _ _ _ ?_);refine hs ▸ (of_eq (Yp _ e' _ n _ _) (mn rfl (by simp only[jN];exact hz) fun dJ=> ?_));simp only[Nk];refine cQ (bJ aL hs ?_);refine of_eq (Ni _ e' n _ _ _) ⟨by exact(show 3+3*n+1=4+3*n by lia) ▸ rfl,dJ,(show 3+3*n+1=4+3*n by lia) ▸ (show 3+3*n+2=5+3*n by lia) ▸ ?_⟩;rw[(zG)];rfl
 ·have z:=mq ▸ z;exact lI z
end
theorem kb(h:o.cls= .type T/\o.data= .fields fs):NT o/\o.isFreed=false:=by obtain⟨cl,d,dt,sl⟩:=o;obtain⟨h1,h2⟩:=h;simp only at h1 h2;subst h1;subst h2;exact⟨fun its z=>by simp at z,rfl⟩
abbrev Hz(T:String)(f:Nat->Array Value):Nat->Obj->Prop:=fun k o=>o.cls= .type T/\o.data= .fields (f k)
section
variable{e:Fm}{c:St}
theorem iS{K:St->Prop}(h:Wp e VR (eval iter e.env) c fun u c1=>Q c1/\K c1/\∀(x:Shared) (ad:Ad) (m:Str->Option Value) (aa:Led) (v:Value),aU e ad m aa c1 x.heap->VR ad aa u v->∀(R:Value->Shared->Prop) (E:Value->Shared->Prop),(∀(T:Ad->Led->Prop) (ty:String) (f:Nat->Array Value) (o:Obj),Hz ty f 0 o->o.isFreed=false->(∀I,CY e I K T us (Hz ty f))->T ad aa->R (.ref x.heap.objs.size) {x with heap:=x.heap.push o})->wpAny (model pw e.w) e.A (pyIter v) R E x):eT e iter c Q us K:=by intro x ad m aa n R E p;refine h x ad m aa n _ E fun u v c1 h1 dF bx m1 av q1 n1 x1 r1=>bL q1 fun q1 k1 q=> ?_;refine q {x with heap:=h1,toks:=dF} bx m1 av v n1 r1 R E fun T ty f o ho hof D hT=>bL (Fr.en n1.F n1.N o hof) fun F' N' hl=> ?_;obtain⟨n2,x2⟩:=n1.more hl F' N';refine p h1.objs.size (Hz ty f) T _ _ _ _ _ _ o q1 k1 n2 (x1.trans x2) (.head _) ho (n1.lt hl) (fun q hq z=> ?_) (D _) ((D 0).tm hT x2.gr);refine aA (x1.key q.1 q.2 hq) fun ob' nA=>absurd (hl _ nA) (by show ¬q.1<_;exact z ▸ acI _)
noncomputable abbrev yg(kd:Kd)(xs:List kd.ty):List V:=xs.map fun x=>V.pv (kd.inj x)
theorem dr(hx:Cx e)(h:Wp e VR (eval iter e.env) c fun u c1=>u= .ref i/\c1.aj[i]? =some (.vals kd xs)/\Q c1):eT e iter c Q (yg kd xs) (fun c=>c.aj[i]? =some (.vals kd xs)):=by
 refine iS (h.mono fun u c1 hu=> ?_);obtain rfl:=hu.1.symm;refine⟨hu.2.2,hu.2.1,fun x ad m aa v n r R E p=> ?_⟩;refine cps fun Z zk=>cI (n.at hu.2.1 r) fun l ob Nq ha hm Nr ho=> ?_;obtain rfl:=Nq.symm;obtain⟨its,k',rfl,hi,hz⟩:=Nr;refine zk (wpAny_pyIter_list (aO ho) (p (fun ad Z=>ad.m[i]? =some l) "list_iterator" (fun k=> #[.ref l,.int k 0]) _ ⟨rfl,rfl⟩ rfl (fun I=> ?_) ha));refine⟨fun t g=>bq g t,fun k o h=>kb h,fun k o y nv bp m2 ay c2 n2 hT dw dG P E hP=>wpAny_pyIter_listiter ⟨o,(n2.N _ dw).1,dG.1,dG.2⟩ hP,fun k u hu y nv bp m2 ay c2 o n2 hK hT dw dG hI P E hP=> ?_,fun y nv bp m2 ay c2 o n2 hK hT dw dG hI P E hP=> ?_⟩
 ·refine cps fun Z zk=>cY (n2.rep i _ hK) fun b ow ob h1 Z h3 h4=> ?_;replace h1:=hT ▸ h1;obtain rfl:=aah.inj h1;refine bG h4.2 fun rF k2 Nt vi J6=>zk ?_;refine cps fun Z zk=> ?_;subst Nt;refine zk ?_;simp only[aa0,abh]at hu;refine cps fun Z zk=>ah hu fun p hp Nu=> ?_;obtain rfl:=Nu.symm;refine ah (vi.get (i:=k) (by simp only[aa0,hp];rfl)) fun v hv rv=> ?_;refine zk ?_;refine wpAny_pyNext_list_item ⟨o,(n2.N _ dw).1,dG.1,dG.2⟩ (aO (n2.N _ h3).1) (by simpa using hv) fun h' hit iu=>bD hit fun o' g1 g2 g3=> ?_;exact hP v h' o' _ rv g1 ⟨g2,g3⟩ iu
 ·refine cps fun Z zk=>cY (n2.rep i _ hK) fun b ow ob h1 Z h3 h4=> ?_;have h1:=hT ▸ h1;obtain rfl:=aah.inj h1;refine bG h4.2 fun rF k2 Nv vi J6=> ?_;obtain rfl:=Nv.symm;refine zk ?_;have hlen:=vi.length;refine wpAny_pyNext_list_end hx.hh ⟨o,(n2.N _ dw).1,dG.1,dG.2⟩ (aO (n2.N _ h3).1) (by simp at hlen ⊢;exact(bl hlen)) fun h' iu=>hP h' _ iu
theorem rG(hx:Cx e)(h:Wp e VR (eval iter e.env) c fun u c1=>u= .ref i/\c1.aj[i]? =some (.refs xs)/\Q c1):eT e iter c Q (xs.map V.ref) (fun c=>c.aj[i]? =some (.refs xs)):=by
 refine iS (h.mono fun u c1 hu=> ?_);obtain rfl:=hu.1.symm;refine⟨hu.2.2,hu.2.1,fun x ad m aa v n r R E p=>cI (n.at hu.2.1 r) fun l ob Nw ha hm Nx ho=> ?_⟩;obtain rfl:=Nw.symm;obtain⟨its,k',rfl,hi,hz⟩:=Nx;refine wpAny_pyIter_list (aO ho) (p (fun ad Z=>ad.m[i]? =some l) "list_iterator" (fun k=> #[.ref l,.int k 0]) _ ⟨rfl,rfl⟩ rfl (fun I=> ?_) ha);refine⟨fun t g=>bq g t,fun k o h=>kb h,fun k o y nv bp m2 ay c2 n2 hT dw dG P E hP=>wpAny_pyIter_listiter ⟨o,(n2.N _ dw).1,dG.1,dG.2⟩ hP,fun k u hu y nv bp m2 ay c2 o n2 hK hT dw dG hI P E hP=> ?_,fun y nv bp m2 ay c2 o n2 hK hT dw dG hI P E hP=> ?_⟩
 ·refine cY (n2.rep i _ hK) fun b ow ob h1 Z h3 h4=> ?_;rw[hT]at h1;obtain rfl:=aah.inj h1;refine bG h4.2 fun rF k2 Ny vi J6=>cps fun Z zk=> ?_;subst Ny;refine zk ?_;clear zk;simp only[aa0,abh]at hu;refine ah hu fun p hp Nz=> ?_;obtain rfl:=Nz.symm;refine ah (vi.get hp) fun v hv rv=> ?_;refine wpAny_pyNext_list_item ⟨o,(n2.N _ dw).1,dG.1,dG.2⟩ (aO (n2.N _ h3).1) (by simpa using hv) fun h' hit iu=>bD hit fun o' g1 g2 g3=> ?_;exact hP v h' o' _ rv g1 ⟨g2,g3⟩ iu
 ·refine cY (n2.rep i _ hK) fun b ow ob h1 Z h3 h4=> ?_;replace h1:=hT ▸ h1;obtain rfl:=aah.inj h1;refine bG h4.2 fun rF k2 NA vi J6=> ?_;obtain rfl:=NA.symm;have hlen:=vi.length;refine wpAny_pyNext_list_end hx.hh ⟨o,(n2.N _ dw).1,dG.1,dG.2⟩ (aO (n2.N _ h3).1) (by simp at hlen ⊢;exact(bl hlen)) fun h' iu=>hP h' _ iu
theorem ji(hx:Cx e)(h:Wp e VR (eval iter e.env) c fun u c1=>u= .pv (.tup ns)/\Q c1):eT e iter c Q (yg .int ns) (fun Z=>True):=by
 refine iS (h.mono fun u c1 hu=>aI hu fun NB hQ=> ?_);subst NB;refine⟨hQ,trivial,fun x ad m aa v n r R E p=>bG r fun l its NC hm hi=> ?_⟩;subst NC;refine wpAny_pyIter_tuple ⟨_,(n.N _ hm).1,rfl,_,rfl⟩ (p (fun Z aa=>(l,gw its)∈aa) "tuple_iterator" (fun k=> #[.ref l,.int k 0]) _ ⟨rfl,rfl⟩ rfl (fun I=> ?_) hm);refine⟨fun t g=>g.tup _ _ t,fun k o h=>kb h,fun k o y nv bp m2 ay c2 n2 hT dw dG P E hP=>wpAny_pyIter_tupleiter ⟨o,(n2.N _ dw).1,dG.1,dG.2⟩ hP,fun k u hu y nv bp m2 ay c2 o n2 hK hT dw dG hI P E hP=> ?_,fun y nv bp m2 ay c2 o n2 hK hT dw dG hI P E hP=> ?_⟩
 ·simp only[aa0,abh]at hu;refine ah hu fun p hp ND=> ?_;subst ND;refine aA (hi.get _ _ hp) fun t ht=> ?_;refine wpAny_pyNext_tuple_item ⟨o,(n2.N _ dw).1,dG.1,dG.2⟩ ⟨_,(n2.N _ hT).1,rfl,_,rfl⟩ (by simpa using ht) fun h' hit iu=>bD hit fun o' g1 g2 g3=> ?_;exact hP _ h' o' _ ⟨t,rfl⟩ g1 ⟨g2,g3⟩ iu
 ·refine wpAny_pyNext_tuple_end hx.hh ⟨o,(n2.N _ dw).1,dG.1,dG.2⟩ ⟨_,(n2.N _ hT).1,rfl,_,rfl⟩ (by simp;exact(bh hi.length)) fun h' iu=>hP h' _ iu
theorem tE(hx:Cx e)(ha:x.all (· <128)=true)(h:Wp e VR (eval iter e.env) c fun u c1=>u= .pv (.str x)/\Q c1):eT e iter c Q (x.map fun q=>V.pv (.str [q])) (fun Z=>True):=by
 refine iS (h.mono fun u c1 hu=> ?_);obtain⟨rfl,hQ⟩:=hu;refine⟨hQ,trivial,fun y ad m aa v n r R E p=> ?_⟩;obtain⟨tk,rfl⟩:=r;refine wpAny_pyIter_ascii (by simpa using ha) (p (fun Z Z=>True) "str_ascii_iterator" (fun k=> #[.str (SS x) tk,.int k 0]) _ ⟨rfl,rfl⟩ rfl (fun I=> ?_) trivial);refine⟨fun Z Z=>trivial,fun k o h=>kb h,fun k o y nv bp m2 ay c2 n2 hT dw dG P E hP=>wpAny_pyIter_striter_ascii ⟨o,(n2.N _ dw).1,dG.1,dG.2⟩ hP,fun k u hu y nv bp m2 ay c2 o n2 hK hT dw dG hI P E hP=> ?_,fun y nv bp m2 ay c2 o n2 hK hT dw dG hI P E hP=> ?_⟩
 ·simp only[aa0,abh]at hu;obtain⟨p,hp,rfl⟩:=hu;refine wpAny_pyNext_ascii_item ⟨o,(n2.N _ dw).1,dG.1,dG.2⟩ (by simpa using hp) fun h' hit iu=>bD hit fun o' g1 g2 g3=> ?_;exact hP _ h' o' _ ⟨_,rfl⟩ g1 ⟨g2,g3⟩ iu
 ·refine wpAny_pyNext_ascii_end hx.hh ⟨o,(n2.N _ dw).1,dG.1,dG.2⟩ (by simp) fun h' iu=>hP h' _ iu
theorem fq{h:Heap}(ho:h.get? a=some o)(hd:jV w o gn ep):h.DictAt (intKind pw w) a gn ep:=let ⟨es,r⟩:=hd;⟨o,es,ho,r⟩
end
theorem rH{β:Type}{α:Sort 1}{o:Option β}{a:β}(h:o=some a){k:∀b,o=some b->α}{n:α}:gq o k n=k a h:=by subst h;rfl
section
variable{e:Fm}{c:St}
noncomputable abbrev NF(d:Addr):Obj:={cls:=.type "dict_values",data:=.fields #[.ref d]}
def VvR(i:Nat)(ad:Ad)(aa:Led)(_:Unit)(v:Value):Prop:=∃a d,v= .ref a/\(a,NF d)∈aa/\ad.m[i]? =some d
theorem zI(hx:Cx e)(hs:c.aj[i]? =some (.bo ep es))(h:Q () c):cN e (VvR i) [.ref i] (fun vs=>call (.builtin "dict.values") vs) c Q:=by refine .x7 (.r fun x ad m aa d n ha R E q=>cps fun Z zk=> ?_);refine bD (n.nq hs ha) fun ob hm NH ho=> ?_;obtain⟨gn,hd,hE⟩:=NH;have hD:=kda_dict n.N hm hd.jh;refine bL (Fr.en n.F n.N (NF d)) fun F' N' hl=> ?_;obtain⟨n2,x2⟩:=n.more hl F' N';refine zk ?_;exact call_meetsIn PySem.F.slot_dict_values hD.typeIs PySem.F.entry_dict_values (PySem.F.args_dict_values_1 _) (meets_dict_values (intKind pw e.w) d (hx.lo n hm)) ⟨⟨gn,hD⟩,q () _ _ _ _ _ _ _ h n2 x2 ⟨_,d,rfl,.head _,ha⟩⟩
theorem nH(hx:Cx e)(h:Wp e (VvR i) (eval iter e.env) c fun(_:Unit) c1=>c1.aj[i]? =some (.bo ep es)/\Q c1):eT e iter c Q (es.map (·.2)) (fun c=>c.aj[i]? =some (.bo ep es)):=by
 intro x ad m aa n R E p;refine h x ad m aa n _ E fun u v c1 h1 dF bx m1 av q1 n1 x1 r1=>cps fun Z zk=> ?_;refine bG r1 fun va l NI hva hl=> ?_;obtain rfl:=NI.symm;refine cI (n1.at q1.1 ⟨l,hl,rfl⟩) fun l' ob e1 Z hm NJ ho=> ?_;obtain⟨gn,hd,hE⟩:=NJ;cases e1;refine zk ?_;refine wpAny_pyIter_values ⟨_,(n1.N _ hva).1,rfl,rfl⟩ (fq ho hd) ?_;rw[<-hE.length];refine bL (Fr.en n1.F n1.N ({cls:=.type "dict_valueiterator",data:=.fields #[.ref l,.int 0 0,.int es.length 0,.int ep 0]})) fun F' N' bT=>aI (n1.more bT F' N') fun n2 x2=> ?_;refine p h1.objs.size (Hz "dict_valueiterator" (fun k=> #[.ref l,.int k 0,.int es.length 0,.int ep 0])) (fun ad Z=>ad.m[i]? =some l) _ _ _ _ _ _ _ q1.2 q1.1 n2 (x1.trans x2) (.head _) ⟨rfl,rfl⟩ (n1.lt bT) (fun q hq z=> ?_) ?_ hl
 ·refine aA (x1.key q.1 q.2 hq) fun ob' nA=>absurd (bT _ nA) (by show ¬q.1<_;exact z ▸ acI _)
 refine⟨fun t g=>bq g t,fun k o h=>kb h,fun k o y nv bp m2 ay c2 n2 hT dw dG P E hP=>wpAny_pyIter_valiter ⟨o,(n2.N _ dw).1,dG.1,dG.2⟩ hP,fun k u hu y nv bp m2 ay c2 o n2 hK hT dw dG hI P E hP=> ?_,fun y nv bp m2 ay c2 o n2 hK hT dw dG hI P E hP=> ?_⟩
 ·refine cps fun Z zk=>cY (n2.rep i _ hK) fun b ow ob h1 Z h3 h4=> ?_;replace h1:=hT ▸ h1;obtain rfl:=aah.inj h1;refine ah h4.2 fun HA hd2 wC=> ?_;have ll:=wC.length;simp only[aa0,abh]at hu;refine ah hu fun p hp NK=> ?_;obtain rfl:=NK.symm;refine ah (wC.get hp) fun NL hv rv=> ?_;obtain⟨k0,v⟩:=NL;refine zk ?_;refine wpAny_pyNext_values_item ⟨o,(n2.N _ dw).1,dG.1,by exact ll ▸ dG.2⟩ (fq (n2.N _ h3).1 hd2) hv fun h' hit iu=>bD hit fun o' g1 g2 g3=> ?_;exact hP _ h' o' _ rv.2 g1 ⟨g2,by exact ll ▸ g3⟩ iu
 ·refine cps fun Z zk=>cY (n2.rep i _ hK) fun b ow ob h1 Z h3 h4=> ?_;have h1:=hT ▸ h1;obtain rfl:=aah.inj h1;refine ah h4.2 fun HA hd2 wC=>zk ?_;refine wpAny_pyNext_values_end hx.hh ⟨o,(n2.N _ dw).1,dG.1,by rw[<-wC.length];exact dG.2⟩ (fq (n2.N _ h3).1 hd2) (by simp;exact(bl wC.length)) fun h' iu=>hP h' _ iu
theorem zJ(hz:ns.length<=100000)(h:Q (.pv (.int ns.length)) c):cN e VR [.pv (.tup ns)] (fun vs=>call (.builtin "len") vs) c Q:=by rintro x ad m aa _ n (_ | ⟨⟨a,its,rfl,hm,hi⟩,_ | _⟩) R E q;have hl:=hi.length;refine PyProof.Rows.len_tuple ⟨_,(n.N _ hm).1,rfl,_,rfl⟩ (by simp;exact ba 0x8000000000000000efb089186a05f1910920 (bh hl) hz) ((show(its.toArray.size:Int)=(ns.length:Int) by simp[hl]) ▸ q _ _ _ _ _ _ _ _ h n (Ext.refl ..) ⟨_,rfl⟩)
end
abbrev pH:Scope:=au (cst 9 2)
abbrev zK(n:Int)(ns:List Int):List (Str×V):= [(s "self",.ref 0),(s "node",.pv (.int n)),(s "predecessors",.pv (.tup ns))]
abbrev Fs:Stmt:=at_ (ar (cst 9 2)) 2
abbrev vj:Stmt:=at_ (ar (cst 9 2)) 3
theorem Yr:ar (cst 9 2)=(ar (cst 9 2)).take 2++ [Fs,vj]:=by kernel_rfl
theorem HB:Fs= .AugAssign (.Attribute (Ci Fs) (s "npredecessors") (K7 Fs)) .Add (Cj Fs) (bZ Fs):=by kernel_rfl
theorem HC:vj= .For (.Name (s "pred") (eI vj)) (aG vj) (ax vj) [] (di vj):=by kernel_rfl
abbrev HD:Expr:=ak (at_ (ax vj) 1)
theorem HE:ax vj= [at_ (ax vj) 0,.Expr (.Call (.Attribute (.Attribute (aR (aR HD)) (s "successors") (aw (aR HD))) (s "append") (aw (hG HD))) (dE HD) [] (aw HD)) (bZ (at_ (ax vj) 1))]:=by kernel_rfl
section
variable(P:Params)(e:Fm)(Q:AF->St->Prop)(K:V->St->Prop)
theorem Ys(n:Int)(ns:List Int)(po fi:Int)(ep:Nat)(es:List (Int×V))(r:List AO):cZ (xw e P pH 40) ((ar (cst 9 2)).take 2) ⟨zK n ns,bR (.pv .none) po fi ep es r⟩ Q=af e [.ref 0,.pv (.int n)] (.ref 140) (bR (.pv .none) po fi ep es r) fun v σ=>Q .next ⟨zK n ns++ [(s "nodeinfo",v)],σ⟩:=by kernel_rfl
theorem Yt(n:Int)(ns:List Int)(v:V)(σ:List AO):ew e P pH 40 (Ci Fs) ⟨zK n ns++ [(s "nodeinfo",v)],σ⟩ K=K v ⟨zK n ns++ [(s "nodeinfo",v)],σ⟩:=by kernel_rfl
theorem Yu(n:Int)(ns:List Int)(v:V)(σ:List AO):ew e P pH 40 (Cj Fs) ⟨zK n ns++ [(s "nodeinfo",v)],σ⟩ K=cN e VR [.pv (.tup ns)] (fun dc=>call (.builtin "len") dc) ⟨zK n ns++ [(s "nodeinfo",v)],σ⟩ K:=by kernel_rfl
theorem Yv(n:Int)(ns:List Int)(l:List (Str×V))(σ:List AO):ew e P pH 40 (aG vj) ⟨zK n ns++l,σ⟩ K=K (.pv (.tup ns)) ⟨zK n ns++l,σ⟩:=by kernel_rfl
theorem Yw:look pH.names (s "pred")=some .local:=by kernel_rfl
abbrev Dc(n:Int)(ns:List Int)(v:V)(p:Int):List (Str×V):=zK n ns++ [(s "nodeinfo",v),(s "pred",.pv (.int p))]
theorem Yx(n:Int)(ns:List Int)(v:V)(p:Int)(l:List (Str×V))(hl:l= []\/∃u,l= [(s "pred_info",u)])(R:V)(po fi:Int)(ep:Nat)(es:List (Int×V))(r:List AO):cZ (xw e P pH 40) [at_ (ax vj) 0] ⟨Dc n ns v p++l,bR R po fi ep es r⟩ Q=af e [.ref 0,.pv (.int p)] (.ref 140) (bR R po fi ep es r) fun u σ=>Q .next ⟨Dc n ns v p++ [(s "pred_info",u)],σ⟩:=by rcases hl with rfl | ⟨u,rfl⟩ <;> kernel_rfl
theorem Yy(n:Int)(ns:List Int)(v u:V)(p:Int)(σ:List AO):ew e P pH 40 (aR (aR HD)) ⟨Dc n ns v p++ [(s "pred_info",u)],σ⟩ K=K u ⟨Dc n ns v p++ [(s "pred_info",u)],σ⟩:=by kernel_rfl
theorem Yz(n:Int)(ns:List Int)(v u:V)(p:Int)(i:Nat)(σ:List AO):mQ e P pH 39 (dE HD) K (.builtin "list.append",[.ref i]) ⟨Dc n ns v p++ [(s "pred_info",u)],σ⟩=gD e (.builtin "list.append") [.ref i,.pv (.int n)] ⟨Dc n ns v p++ [(s "pred_info",u)],σ⟩ K:=by kernel_rfl
end
section
variable{e:Fm}{c:St}
theorem rI(hx:Cx e){K:V->St->Prop}(hp:bK args=true)(h:mQ e e.w.params e.scope n args K fm c)(pos:Pos):eY e.w.params fm.1=true/\Wp e qj (spliced (backTo pos (starEach args e.env))) c fun vs c3=>cN e VR (fm.2++vs) (fun dc=>call fm.1 dc) c3 K:=by
 unfold mQ at h;cases hk:eY e.w.params fm.1 with
 | true=>rw[hk]at h;exact⟨rfl,(lV (iC hx n) _ _ _ hp h).mono fun vs c3 h3=>lY hx _ _ _ _ h3⟩
 | false=>rw[hk]at h;exact h.elim
theorem fW{xs:List kd.ty}{q':kd.ty}{K:V->St->Prop}(hs:c.aj[i]? =some (.vals kd xs))(hq:kd.Gu q=some q')(hz:xs.length<100000)(h:K (.pv .none) {c with aj:=c.aj.set i (.vals kd (xs++ [q']))}):gD e (.builtin "list.append") [.ref i,.pv q] c K:=by show SF.p (gq c.aj[i]? _ _);rw[rH hs];show SF.p (gq (kd.Gu q) _ _);rw[rH hq];exact⟨hz,h⟩
theorem NM(hx:Cx e){l1:List Stmt}:∀ {c:St},cZ (xw e e.w.params e.scope 40) l1 c (GB e l2 Q)->Wp e bN (execs (l1++l2) e.env) c Q:=by
 induction l1 with
 | nil=>exact fun h=>h
 | cons y r ih=>exact fun{c} h=>aT ((uX hx 40 y c _ h).mono fun fl c1 h1=>by
  cases fl with
  | next=>exact ih h1
  | brk=>exact h1
  | cont=>exact h1
  | ret v=>exact h1)
theorem b8(hx:Cx e)(hs:e.scope=sc)(h:cZ (xw e e.w.params sc 40) l1 c (GB e l2 Q)):Wp e bN (execs (l1++l2) e.env) c Q:=by subst hs;exact NM hx h
theorem aB(hx:Cx e)(hs:e.scope=sc){X:Prop}(h:ew e e.w.params sc 40 y c Q=X)(x:X):Wp e VR (eval y e.env) c Q:=by subst hs;exact iC hx 40 _ _ _ (of_eq h x)
end
noncomputable def i3(n:Int):List Int->List Nd->List Nd
 | [],l=>l
 | p::ps,l=>i3 n ps (l.set p.toNat ((l.getD p.toNat (0,[])).1,(l.getD p.toNat (0,[])).2++ [n]))
theorem rJ(n:Int):∀(ps:List Int) (l:List Nd),(i3 n ps l).length=l.length
 | [],_=>rfl
 | p::ps,l=>(rJ n ps _).trans acN
theorem eL{α:Type}{l:List α}{d:α}(h:i<l.length):l[i]? =some (l.getD i d):=by simp[acU,h]
section
variable{e:Fm}
theorem Dd(hx:Cx e)(hq:e.k=q+1)(hs:e.scope=pH){n:Nat}{p:Int}(hl:l= []\/∃u,l= [(s "pred_info",u)]){ep m:Nat}(hp:0<=p/\p<m)(hm:aq.length=m) (hz:∀nd∈aq,nd.2.length<100000):Wp e bN (execs (ax vj) e.env) ⟨Dc n ns v p++l,bR (.pv .none) po fi ep (ents m) (aQ 0 aq++g)⟩ fun fl c=>fl= .next/\(∃u,c.loc=Dc n ns v p++ [(s "pred_info",u)])/\c.aj=bR (.pv .none) po fi ep (ents m) (aQ 0 (aq.set p.toNat ((aq.getD p.toNat (0,[])).1,(aq.getD p.toNat (0,[])).2++ [(n:Int)]))++g):=by refine HE ▸ (b8 (l1:= [at_ (ax vj) 0]) hx hs ?_);refine of_eq (Yx _ e _ n ns v p l hl _ po fi ep (ents m) _) (cps fun Z zk=> ?_);refine aA (⟨p.toNat,ace ((jv (abC hp.1))) ((ij (abC hp.1)))⟩:∃k:Nat,p=k) fun k hk=> ?_;subst hk;refine zk ?_;have eC:=eL (d:=((0,[]):Nd)) (show k<aq.length by lia);refine(Hv hx hq (acL.mp hp.2)).eqs ?_;refine bL (gi (R:=.pv .none) (po:=po) (fi:=fi) (ep:=ep) (es:=ents m) (g:=g) eC) fun g1 g2 g3=>aT (gO hx.hk (aH rfl _ _ _) (dp hx rfl (by kernel_rfl) (of_decide_eq_true (by kernel_rfl)) (by kernel_rfl) (b6 rfl (aB hx hs (Yy _ e _ n ns v _ k _) (dB hx g2 g1 (ef _).2.2 rfl rfl fun pl=> ?_)))));refine gP g3 (.inl ⟨_,_,rfl⟩) PySem.F.slot_list_append PySem.F.type_list_append (rI hx (n:=39) (by kernel_rfl) ?_ _);simp only[hs];refine of_eq (Yz _ e _ n ns v _ k _ _) (fW g3 rfl (hz _ (by exact(abG) ▸ eC ▸ abW eC)) (cQ ⟨rfl,⟨_,rfl⟩,?_⟩));exact C9 _ eC
theorem HF(hx:Cx e)(hq:e.k=q+4)(hn:aq.length<=1000)(pD:∀p∈ns,0<=p/\p<aq.length)(hz:ns.length<=1000)(BK:∀nd∈aq,nd.2.length<=1000):af e ([.ref 0,.pv (.int aq.length)]++ns.map fun n=>.pv (.int n)) (.ref 147) (bR (.pv .none) po fi ep (ents aq.length) (aQ 0 aq)) fun v σ=>v= .pv .none/\∃dJ,σ=bR (.pv .none) po fi dJ (ents (aq.length+1)) (aQ 0 (i3 aq.length ns (aq++ [((ns.length:Int),[])]))):=by
 refine zy hx hq (WE _) (names:= [s "self",s "node"]) (nr:=s "predecessors") (bY 0x186a05f03e83f0918 hz) rfl (fun Z Z Z Z Z Z vs rs hv=>by refine eP (iW hv) fun Z Z NN=> ?_;subst NN;cases rs <;> kernel_rfl) (by kernel_rfl) fun e' aL hw cH hs=> ?_;refine Yr ▸ (b8 aL hs ?_);refine of_eq (Ys _ e' _ aq.length ns po fi ep _ _) ((Hw aL cH (fg aq 0) (bY 0x186a05f03e83f0918 hn)).mono fun v σ hv=> ?_);obtain⟨rfl,dJ,rfl⟩:=hv;have zL:aQ 0 aq++ [.dict [],.slot 100 (3+3*aq.length) [some (.pv (.int aq.length)),some (.pv (.int 0)),some (.ref (5+3*aq.length))],.vals .int []]=aQ 0 (aq++ [(0,[])])++ []:=by simp only[zF,aeH,ab5];rfl
 rw[zL];have eC:(aq++ [((0:Int),([]:List Int))])[aq.length]? =some (0,[]):=by simp
 refine bL (gi (R:=.pv .none) (po:=po) (fi:=fi) (ep:=dJ) (es:=ents (aq.length+1)) (g:= []) eC) fun g1 g2 g3=>aT ?_;refine HB ▸ (jZ (aB aL hs (Yt _ e' _ aq.length ns _ _) (dB aL g2 g1 (ef _).2.1 rfl rfl (aB aL hs (Yu _ e' _ aq.length ns _ _) (zJ (bY 0x186a05f03e83f0918 hz) (yK (eF aL g2 g1 (eE _).2.1 (lx [] [] 268502284552) ?_)))))));have e1:(bR (.pv .none) po fi dJ (ents (aq.length+1)) (aQ 0 (aq++ [(0,[])])++ [])).set (4+3*aq.length) (.slot 100 (3+3*aq.length) (rz [some (.pv (.int aq.length)),some (.pv (.int 0)),some (.ref (5+3*aq.length))] 1 (.pv (.int (0+ns.length)))))=
   bR (.pv .none) po fi dJ (ents (aq.length+1)) (aQ 0 (aq++ [((ns.length:Int),[])])++ []):=by
  rw[adQ];refine Eq.trans (ly (R:=.pv .none) (po:=po) (fi:=fi) (ep:=dJ) (es:=ents (aq.length+1)) (g:= []) (ns.length:Int) eC) ?_;congr 4;simp
 dsimp only;refine e1 ▸ (aT ?_);refine HC ▸ ?_;refine aA (⟨_,rfl⟩:∃L0,aq++ [((ns.length:Int),([]:List Int))]=L0) fun L0 YA=>YA ▸ ?_;have hlen:L0.length=aq.length+1:=by refine YA ▸ ?_;simp
 have J7:∀nd∈L0,nd.2.length<=1000:=fun nd h=>by
  have h:=YA ▸ h;rcases abn.mp h with h | h
  ·exact BK nd h
  ·refine(abH.mp h) ▸ ?_;simp
 refine gU aL (hs ▸ Yw) (fun Z=>rfl) (us:=yg .int ns) (K:=fun Z=>True) (fun k c=>∃l L,(l= []\/∃p u,l= [(s "pred",.pv (.int p)),(s "pred_info",u)])/\c=⟨zK aq.length ns++(s "nodeinfo",V.ref (4+3*aq.length))::l,bR (.pv .none) po fi dJ (ents (aq.length+1)) (aQ 0 L++ [])⟩/\L.length=aq.length+1/\(∀nd∈L,nd.2.length<=1000+k)/\i3 aq.length (ns.drop k) L=i3 aq.length ns L0)
  (ji aL (aB aL hs (Yv _ e' _ aq.length ns [(s "nodeinfo",_)] _) ⟨rfl,[],L0,.inl rfl,rfl,hlen,J7,rfl⟩)) (fun k u c hu hI Z=> ?_) (fun c hI Z=> ?_)
 ·obtain⟨l,L,hl,rfl,Uw,Ux,Uy⟩:=hI;simp only[aa0,abh]at hu;obtain⟨p,hp,rfl⟩:=hu;have De:=(aab.mp hp).1;have Uz:=pD p (abW hp);have YB:put (zK aq.length ns++(s "nodeinfo",V.ref (4+3*aq.length))::l) (s "pred") (.pv (.int p))=Dc aq.length ns (.ref (4+3*aq.length)) p++(l.drop 1):=by
   rcases hl with rfl | ⟨p',u,rfl⟩ <;> kernel_rfl
  dsimp only[Kd.inj];simp only[YB];refine(Dd (q:=q+2) aL (aac (ba 0xbc1990d190918 (bh cH)) (ba 488224263805208 (bl cH))) hs (l:=l.drop 1) (by
   rcases hl with rfl | ⟨p',u,rfl⟩
   ·exact .inl rfl
   ·exact .inr ⟨u,rfl⟩) (m:=aq.length+1) ⟨Uz.1,lx [_] [_] 0xb098b0908b09110 Uz.2⟩ Uw (fun nd h=>by have:=Ux nd h;exact bj 0x186a05fb093e83f292b19913e83f90938 this De hz)).mono fun fl c2 h2=> ?_
  obtain⟨rfl,⟨u,h3⟩,h4⟩:=h2;obtain⟨l2,σ2⟩:=c2;have h3:l2=_:=h3;have h4:σ2=_:=h4;subst h3;subst h4;refine⟨⟨[(s "pred",.pv (.int p)),(s "pred_info",u)],_,.inr ⟨p,u,rfl⟩,rfl,by simpa using Uw,fun nd h=> ?_,?_⟩,trivial⟩
  ·rcases List.mem_or_eq_of_mem_set h with h | h
   ·have:=Ux nd h;exact ba 0xb193e83f9013e83f90918 this
   ·subst h;have ph:p.toNat<L.length:=lx [_,_,_] [_] 0x2b092b19918b091008138 (ij (abC Uz.1)) Uz.2 (bl Uw);simp only[aag,acn,acQ];exact ba 0xb193e83f9ba90913e83f90918 (Ux _ (abW (eL (d:=((0,[]):Nd)) ph)))
  ·simp only[<-Uy,acs De];have:ns[k]=p:=by have hp:=(aad De) ▸ hp;exact aah.inj hp
   rw[this];rfl
 ·refine cI hI fun l L hl NO Uw Ux Uy=> ?_;subst NO;refine cQ ⟨rfl,dJ,?_⟩;simp only[aaR,aec]at Uy;simp only[<-Uy,ab5];rfl
end
section
variable{e:Fm}{c:St}
theorem Wp.Ft (h:Wp e VR t c fun v c'=>∃σ g,c'.aj=σ++g/\c.aj.length<=σ.length/\v.under σ.length=true/\σ.all (AO.under σ.length)=true/\c'.loc.all (fun x=>x.2.under σ.length)=true/\Q v ⟨c'.loc,σ⟩):Wp e VR t c Q:=
 fun x ad m aa n R E p=>h x ad m aa n R E fun v v' c' h' tk aF m' ag q n' y rv=>by refine KP q fun σ g h1 h2 h3 h4 h5 h6=> ?_;obtain⟨l,τ⟩:=c';have h1:τ=_:=h1;subst h1;exact p v v' _ h' tk _ m' ag h6 (n'.take h4 h5) (y.take (by exact n.len ▸ h2)) (VR.take h3 rv)
theorem Wp.Fu (h:Wp e bN t c fun f c'=>∃σ g,c'.aj=σ++g/\c.aj.length<=σ.length/\(match f with | .ret v=>v.under σ.length=true | _=>True)/\σ.all (AO.under σ.length)=true/\c'.loc.all (fun x=>x.2.under σ.length)=true/\Q f ⟨c'.loc,σ⟩):Wp e bN t c Q:=
 fun x ad m aa n R E p=>h x ad m aa n R E fun v v' c' h' tk aF m' ag q n' y rv=>by
  refine KP q fun σ g h1 h2 h3 h4 h5 h6=> ?_;obtain⟨l,τ⟩:=c';have h1:τ=_:=h1;subst h1;refine p v v' _ h' tk _ m' ag h6 (n'.take h4 h5) (y.take (by exact n.len ▸ h2)) ?_;cases v with
  | ret u=>refine ah rv fun u' NP r=> ?_;exact NP ▸ ⟨u',rfl,VR.take h3 r⟩
  | next=>exact rv
  | brk=>exact rv
  | cont=>exact rv
end
section
abbrev zM:Scope:=au (st 36)
theorem HG:yd= .Call (.Attribute (aR yd) (s "add") (aw (hG yd))) [az 0 yd,.Starred (EW yd) (K3 yd)] [] (aw yd):=by kernel_rfl
noncomputable abbrev bA(w:Wd)(τ:List AO):Wd:={w with gh:=τ}
section
variable(P:Params)(e:Fm)(K:V->St->Prop)
theorem YC(w:Wd)(p m:Int)(t:List Int):ew e P zM 40 (aR yd) ⟨nF p m t,w.aj⟩ K=K (.ref 2) ⟨nF p m t,w.aj⟩:=by kernel_rfl
theorem YD(p m:Int)(t:List Int)(σ:List AO):ew e P zM 40 (az 0 yd) ⟨nF p m t,σ⟩ K=K (.pv (.int m)) ⟨nF p m t,σ⟩:=by kernel_rfl
theorem YE(w:Wd)(m:Int)(t:List Int)(σ:List AO):∀(p:Nat),p<3->ew e P zM 40 (EW yd) ⟨nF p m t,w.aj++σ⟩ K=K (.ref (34+p)) ⟨nF p m t,w.aj++σ⟩
 | 0,_=>by kernel_rfl
 | 1,_=>by kernel_rfl
 | 2,_=>by kernel_rfl
 | n+3,h=>gm h
theorem YF:lg P 197 (s "add")=some 147:=by kernel_rfl
theorem YG(R:V)(po fi:Int):look (BS R po fi) (s "add")=none:=by kernel_rfl
theorem YH:fnIn (KK P) 147=true:=by kernel_rfl
end
theorem wD(w:Wd)(σ:List AO):∀(p:Nat),p<3->(w.aj++σ)[34+p]? =some (.vals .int (w.ahead p))
 | 0,_=>rfl
 | 1,_=>rfl
 | 2,_=>rfl
 | n+3,h=>gm h
theorem rK:∀(l:List Nd) (j:Nat),(aQ j l).all (fun o=> !o.eX)=true:=by
 intro l;induction l with
 | nil=>exact fun Z=>rfl
 | cons nd r ih=>intro j;simp only[gV,adf,ih,aea];rfl
variable{e:Fm}
theorem NQ(hx:Cx e)(hk:e.k=k+4)(hs:e.scope=zM){w:Wd}(hp:p<3)(hw:w.gh=bR (.pv .none) po fi ep (ents aq.length) (aQ 0 aq))(hn:aq.length<=1000)(pD:∀q∈w.ahead p,0<=q/\q<aq.length)(hz:(w.ahead p).length<=1000)(BK:∀nd∈aq,nd.2.length<=1000) (h:∀dJ,Q (.pv .none) ⟨nF p aq.length t,(bA w (bR (.pv .none) po fi dJ (ents (aq.length+1)) (aQ 0 (i3 aq.length (w.ahead p) (aq++ [(((w.ahead p).length:Int),[])]))))).aj⟩):Wp e VR (eval yd e.env) ⟨nF p aq.length t,w.aj⟩ Q:=by
 rw[HG];refine Wp.Ft ?_;have rL:w.aj[2]? =some (.box (bR (.pv .none) po fi ep (ents aq.length) (aQ 0 aq))):=by rw[<-hw];rfl
 refine C0 hx (by kernel_rfl) (by kernel_rfl) (aB hx hs (YC _ e _ w p aq.length t) (pB hx rL rfl rfl (YF _) (YG _ _ _) (sG 44 147 2 ⟨rfl,rfl,YH _,?_⟩)));refine aS (aE (by kernel_rfl) _ _) (aB hx hs (YD _ e _ p aq.length t _) (rx (aB hx hs (YE _ e _ w aq.length t _ p hp) ⟨34+p,w.ahead p,rfl,wD w _ p hp,rfl,?_⟩)));have key:=af.box (σ:=w.aj++ [.bound (.ref 147) 2]) (Q:=fun v σ=>∃σ' g,σ=σ'++g/\w.aj.length<=σ'.length/\v.under σ'.length=true/\σ'.all (AO.under σ'.length)=true/\(nF p aq.length t).all (fun x=>x.2.under σ'.length)=true/\Q v ⟨nF p aq.length t,σ'⟩) (by
  rw[aaY (by show 2<44;exact lx [] [] 11861215496)];exact rL) (by
  rw[adf,abD];refine⟨rfl,?_⟩;rw[aeh,aaZ];intro _ _;rfl) (HF hx hk hn pD hz BK) fun v τ' hv=>by obtain⟨rfl,dJ,rfl⟩:=hv;refine⟨rfl,?_,(bA w _).aj,[.bound (.ref 147) 2],rfl,by show 44<=44;exact abE _,rfl,by kernel_rfl,by kernel_rfl,h dJ⟩;show((aQ 0 _).all fun o=> !o.eX)=true;exact rK _ 0
 have em:(([V.ref 0,V.pv (.int aq.length)]++(w.ahead p).map fun n=>V.pv (.int n)):List V).map (V.bQ fun Z=>2)=V.ref 2::V.pv (.int aq.length)::(w.ahead p).map fun n=>V.pv (.int n):=by simp[V.uS,V.yY]
 rw[em]at key;exact key
end
section
noncomputable abbrev vk(w:Wd)(p:Nat)(t:List Int)(k:Nat):Wd:={w with lines:=fun a b=>if a=p/\b<k/\b≠p then{w.lines a b with ps:=(w.lines a b).ps++ [t]}else w.lines a b}
theorem Df(w:Wd)(m:Int):∀(q p:Nat),q<3->p<3->(cU w p m)[7+3*p+q]? =some (w.lines p q).ao
 | 0,0,_,_=>rfl
 | 0,1,_,_=>rfl
 | 0,2,_,_=>rfl
 | 1,0,_,_=>rfl
 | 1,1,_,_=>rfl
 | 1,2,_,_=>rfl
 | 2,0,_,_=>rfl
 | 2,1,_,_=>rfl
 | 2,2,_,_=>rfl
 | n+3,_,h,_=>gm h
 | _,n+3,_,h=>gm h
theorem tF(w:Wd)(m:Int)(l:Line):∀(q p:Nat),q<3->p<3->(cU w p m).set (7+3*p+q) l.ao=cU (iQ w p q l) p m
 | 0,0,_,_=>rfl
 | 0,1,_,_=>rfl
 | 0,2,_,_=>rfl
 | 1,0,_,_=>rfl
 | 1,1,_,_=>rfl
 | 1,2,_,_=>rfl
 | 2,0,_,_=>rfl
 | 2,1,_,_=>rfl
 | 2,2,_,_=>rfl
 | n+3,_,h,_=>gm h
 | _,n+3,_,h=>gm h
theorem Dg(w:Wd)(m:Int):∀(p:Nat),p<3->(cU w p m)[30+p]? =some (.vals .tup (w.aC p))
 | 0,_=>rfl
 | 1,_=>rfl
 | 2,_=>rfl
 | n+3,h=>gm h
theorem tG(w:Wd)(m:Int)(h:List (List Int)):∀(p:Nat),p<3->(cU w p m).set (30+p) (.vals .tup h)=cU (jL w p h) p m
 | 0,_=>rfl
 | 1,_=>rfl
 | 2,_=>rfl
 | n+3,h=>gm h
theorem NR(w:Wd)(p:Nat)(t:List Int):vk w p t 0=w:=by
 have:(fun a b=>if a=p/\b<0/\b≠p then({w.lines a b with ps:=(w.lines a b).ps++ [t]}:Line)else w.lines a b)=w.lines:=by funext a b;rw[if_neg (by lia)]
 show({w with lines:=_}:Wd)=w;rw[this]
theorem zN(w:Wd)(p:Nat)(t:List Int):vk w p t (p+1)=vk w p t p:=by
 show({w with lines:=_}:Wd)={w with lines:=_};congr 1;funext a b;by_cases h:a=p/\b<p/\b≠p
 ·rw[if_pos h,if_pos (⟨h.1,adh h.2.1,adg h.2.1⟩)]
 ·rw[if_neg h,if_neg (by lia)]
theorem zO(w:Wd)(p k:Nat)(t:List Int)(h:k≠p):iQ (vk w p t k) p k {(vk w p t k).lines p k with ps:=((vk w p t k).lines p k).ps++ [t]}=vk w p t (k+1):=by
 show({w with lines:=_}:Wd)={w with lines:=_};congr 1;funext a b;unfold gJ;by_cases h1:a=p/\b=k
 ·obtain⟨rfl,rfl⟩:=h1;rw[if_pos ⟨rfl,rfl⟩,if_pos (⟨rfl,abE _,h⟩)];dsimp only;rw[if_neg (by lia)]
 ·rw[if_neg h1];dsimp only;by_cases h2:a=p/\b<k/\b≠p
  ·rw[if_pos h2,if_pos (⟨h2.1,adh h2.2.1,h2.2.2⟩)]
  ·rw[if_neg h2,if_neg (by lia)]
theorem HH(p m:Int)(t:List Int)(l:List (Str×V))(hl:l= []\/∃u,l= [(s "q",u)])(v:V):put (nF p m t++l) (s "q") v=nF p m t++ [(s "q",v)]:=by rcases hl with rfl | ⟨u,rfl⟩ <;> kernel_rfl
noncomputable abbrev vm(w:Wd)(p:Nat)(ln:Int)(pos:Nat)(word:List Nat)(τ:List AO):Wd:=
 vk (jL (bA (og (iR (eK w {w.words with ln:=ln,pos:=pos}) word) p w.ae.length) τ) p (i7 (w.aC p) [w.aP p+1,(p:Int),w.ae.length])) p [w.aP p+1,(p:Int),w.ae.length] 3
variable{e:Fm}
theorem Dh(hx:Cx e){k:Nat}(hk:e.k=k+1)(hs:e.scope=zM){w:Wd}{p:Nat}(hp:p<3){m:Int}(vo:∀q,(w.lines p q).ps.length<100000):Wp e bN (exec ye e.env) ⟨nF p m t,cU w p m⟩ fun fl c=>fl= .next/\c.aj=cU (vk w p t 3) p m:=by
 refine j9 hx Hi (by rw[hs];kernel_rfl) (n:=3) (fun Q=>by rw[hs];exact zw _ _ _) (by kernel_rfl) (by rw[hs];exact of_eq (zx _ e _ _) ⟨rfl,rfl⟩) (lx [] [] 104857992456)
  (fun k c=>∃l,(l= []\/∃u,l= [(s "q",u)])/\c=⟨nF p m t++l,cU (vk w p t k) p m⟩) ⟨[],.inl rfl,by rw[NR];rfl⟩ (fun q c hq hI=> ?_) (fun c hI=> ?_)
 ·refine ah hI fun l hl NS=> ?_;subst NS;rw[hs];dsimp only;rw[HH p m t l hl];by_cases YI:q=p
  ·subst YI;refine of_eq (X4 _ e m t _ _ q hp) ⟨[(s "q",.pv (.int q))],.inr ⟨_,rfl⟩,?_⟩;rw[zN]
  ·have h6:=fun K=>X3 e.w.params e (vk w p t q) m t [] K q p hq hp YI;simp only[ab5]at h6;refine of_eq (h6 _) ?_;refine af.box (Df (vk w p t q) m q p hq hp) rfl (Me hx hk (by
    have:=vo q;show((vk w p t q).lines p q).ps.length<100000;dsimp only;rw[if_neg (by lia)];exact this)) fun v τ' hv=> ?_
   obtain⟨rfl,rfl⟩:=hv;refine⟨rfl,rfl,[(s "q",.pv (.int q))],.inr ⟨_,rfl⟩,?_⟩;rw[<-zO w p q t YI,<-tF (vk w p t q) m _ q p hq hp]
 ·refine ah hI fun l hl NU=>NU ▸ ⟨rfl,rfl⟩
theorem Di(hx:Cx e)(hk:e.k=k+6){w:Wd}(hp:p<3)(hw:w.gh=bR (.pv .none) po fi ep (ents aq.length) (aQ 0 aq))(hm:w.ae.length=aq.length)(hn:aq.length<=1000)(pD:∀q∈w.ahead p,0<=q/\q<aq.length)(hz:(w.ahead p).length<=1000)(BK:∀nd∈aq,nd.2.length<=1000) (Fp:w.words.ps= [])(hbz:w.words.buf.length<=100000)(gW:w.words.pos<=w.words.buf.length)(Fv:ee (w.words.buf.drop w.words.pos)=some (word,r))(ht:w.told.length<100000)(hh:(w.aC p).length<100000)(vo:∀q,(w.lines p q).ps.length<100000):af e [.ref 0,.pv (.int p)] (.ref 935) w.aj fun v σ=>v= .pv .none/\∃(ln:Int) (pos dJ:Nat),pos<=w.words.buf.length/\w.words.buf.drop pos=r/\σ=cU (vm w p ln pos word (bR (.pv .none) po fi dJ (ents (aq.length+1)) (aQ 0 (i3 aq.length (w.ahead p) (aq++ [(((w.ahead p).length:Int),[])]))))) p w.ae.length:=by
 refine df hx hk (Wv _) (names:= [s "world",s "p"]) (fun Z Z Z Z Z Z vs hv=>by refine eP (iW hv) fun Z Z NV=> ?_;subst NV;kernel_rfl) (by kernel_rfl) fun e' aL hwe cH hs=>bJ aL hs ?_;refine of_eq (XX _ e' _ w p) ?_;have hb:w.aj[1]? =some (.box (b4 w.words.ln w.words.buf w.words.pos [] [])):=by rw[<-Fp];rfl
 refine af.box hb rfl (Hd aL cH hbz gW Fv) fun v τ' hv=>aI hv fun NW NX=> ?_;subst NW;refine bG NX fun iX pos' NY YJ YK=> ?_;subst NY;refine⟨rfl,rfl,?_⟩;have e1:w.aj.set 1 (.box (b4 iX w.words.buf pos' [] []))=(eK w {w.words with ln:=iX,pos:=pos'}).aj:=by rw[<-Fp];rfl
 rw[e1];refine of_eq (XY e' (eK w {w.words with ln:=iX,pos:=pos'}) _ word _) ⟨ht,?_⟩;have vp:((eK w {w.words with ln:=iX,pos:=pos'}).ae.length:Int)=(aq.length:Int):=by rw[<-hm]
 refine of_eq (XZ _ e' _ (iR (eK w {w.words with ln:=iX,pos:=pos'}) word) (w.ae.length:Int) p hp) ⟨⟨aa1 _,by simp;exact bY 0xdb089db09910 hp⟩,⟨aa1 _,by simp;exact bY 0xdb089db09910 hp⟩,⟨aa1 _,by simp;exact bY 0xdb089db09910 hp⟩,by simp,by show w.ae.length<100000;exact ba 0x186a05fb093e83f191808128 (ij vp) hn,?_⟩;rw[hm];refine NQ (w:=og (iR (eK w {w.words with ln:=iX,pos:=pos'}) word) p aq.length) aL cH hs hp hw hn pD hz BK fun dJ=> ?_;refine of_eq (X0 _ e' _ (bA (og (iR (eK w {w.words with ln:=iX,pos:=pos'}) word) p aq.length) _) aq.length _ p hp) ⟨by simp,af.Ck (us:= [.ref 0,.pv (.tup [w.aP p+1,(p:Int),aq.length])]) (Dg _ _ p hp) rfl (uZ (k:=k+3) aL (aac (ba 0xcd199051f190918 (bh cH)) (ba 0x1cd099151f09918 (bl cH))) hh) fun v τ' hv=> ?_⟩;obtain⟨rfl,rfl⟩:=hv;refine⟨rfl,.tup,_,rfl,?_⟩;rw[tG _ _ _ p hp];refine of_eq (X1 _ e' _ _) ((Dh (k:=k+4) aL (aac (ba 0xbe199051f190918 (bh cH)) (ba 0x1be099151f09918 (bl cH))) hs hp (w:=jL (bA (og (iR (eK w {w.words with ln:=iX,pos:=pos'}) word) p aq.length) _) p _) vo).mono fun fl c hc=> ?_);obtain⟨rfl,hc⟩:=hc;refine of_eq (X2 _ e' _ c) ⟨rfl,iX,pos',dJ,YJ,YK,?_⟩;rw[hc];show _=cU (vm w p iX pos' word _) p aq.length;unfold vm;rw[hm]
end
section
variable{e:Fm}{c:St}
theorem aM.ofMap {kd:Kd}{xs:List kd.ty}(h:aM (VP aa) (xs.map kd.inj) its)(a b:Nat):aM (VP aa) (((xs.drop a).take b).map kd.inj) ((its.drop a).take b):=by rw[List.map_take,List.map_drop];exact(h.drop a).take b
def J8(_:Ad)(_:Led)(a:Option Int)(v:Value):Prop:=IsPart v a
theorem lz(h:Q none c):Wp e J8 (evalPart none e.env) c Q:=
 fun x ad m aa n R E p=>wpAny_pure (p _ _ _ _ _ _ _ _ h n (Ext.refl ..) .none)
theorem lB(h:Wp e VR (eval y e.env) c fun v c1=>∃i,v= .pv (.int i)/\Q (some i) c1):Wp e J8 (evalPart (some y) e.env) c Q:=
 fun x ad m aa n R E p=>by show wpAny _ _ (eval y e.env) _ _ _;refine h x ad m aa n _ E fun v v' c1 h1 dF bx m1 av q1 n1 x1 r1=>ah q1 fun i NZ q=> ?_;subst NZ;obtain⟨t,rfl⟩:=r1;exact p _ _ _ _ _ _ _ _ q n1 x1 (.int i t)
theorem zP{lo up:Option Expr} (h:Wp e VR (eval v e.env) c fun u c1=>Wp e J8 (evalPart lo e.env) c1 fun a c2=>Wp e J8 (evalPart up e.env) c2 fun b c3=>∃(i:Nat) (kd:Kd) (xs:List kd.ty) (s k:Nat),u= .ref i/\c3.aj[i]? =some (.vals kd xs)/\(∀its:Array Value,its.size=xs.length->(slicePick its a b none).toList=(its.toList.drop s).take k)/\Q (.ref c3.aj.length) {c3 with aj:=c3.aj++ [.vals kd ((xs.drop s).take k)]}):Wp e VR (eval (.Subscript v (.Slice lo up none p) pos) e.env) c Q:=
 fun x ad m aa n R E pp=>Subscript_ (h x ad m aa n _ E fun u u' c1 h1 dF bx m1 av q1 n1 x1 r1=>wpAny_Slice (q1 _ bx m1 av n1 _ E fun a a' c2 h2 gI bp m2 ay q2 n2 x2 r2=>q2 _ bp m2 ay n2 _ E fun b b' c3 h3 jr iq m3 cn q3 n3 x3 r3=>by
  obtain⟨i,kd,xs,st,k,rfl,hs,HI,q⟩:=q3;refine wpAny_pure (cI (n3.at hs (VR.mono (x2.trans x3) r1)) fun l ob N6 ha hm N7 ho=> ?_);subst N6;obtain⟨its,k',rfl,hi,hz⟩:=N7;have hlen:=hi.length;rw[aaR]at hlen;refine kba_turn (value':=.Name (s "_") ⟨0,0,0,0⟩) (fun Z=>rfl) (kmk_slice n3.F n3.N (aO ho) r2 r3 (fun D h' F' N' hl=> ?_) rfl (fun Z=>rfl) (by have:=aD;simp;lia));have e1:slicePick its.toArray a b none=((its.drop st).take k).toArray:=by apply Array.toList_inj.mp;rw[HI _ (by simp;exact hlen.symm)]
  rw[e1]at N';refine aI (n3.new (o:=.vals kd ((xs.drop st).take k)) hl F' N' ⟨_,0,rfl,(aM.ofMap hi st k).mono fun Z Z=>VP.mono (jH (ad:=iq)),ab3 EV hz⟩) fun n4 x4=>pp _ _ _ _ _ _ _ _ q n4 (((x1.trans x2).trans x3).trans x4) ⟨D,by show(iq.m++ [D])[_]? =_;rw[<-n3.len];simp,rfl⟩))
theorem kc(h:0<=y)(its:Array Value):(slicePick its none (some y) none).toList=(its.toList.drop 0).take y.toNat:=by
 have e:sliceBounds none (some y) none its.size=(((0:Nat):Int),((min y.toNat its.size:Nat):Int),1):=by simp only[sliceBounds,Option.getD_none,show(1:Int) > 0 by decide,if_true,if_neg (show ¬(y<0) by lia)];congr 1;congr 1;exact aA (Int.eq_ofNat_of_zero_le h) fun n e=>e ▸ lfM n _
 rw[kmk_pick_nat _ e];simp only[aeB,Nat.sub_zero];rw[<-Array.length_toList,kmk_take_min]
theorem wF(its:Array Value):(slicePick its (some (-1)) none none).toList=(its.toList.drop (its.size-1)).take its.size:=by
 have e:sliceBounds (some (-1)) none none its.size=(((its.size-1:Nat):Int),((its.size:Nat):Int),1):=by
  simp only[sliceBounds,Option.getD_none,show(1:Int) > 0 by decide,if_true,show((-1:Int)<0) by decide];congr 1;cases its.size with
  | zero=>rfl
  | succ m=>rw[show(-1:Int)+((m+1:Nat):Int)=(m:Int) by lia];exact(lfM m (m+1)).trans (congrArg _ (Nat.min_eq_left (Nat.le_succ m)))
 rw[kmk_pick_nat _ e];show((its.toList.drop (its.size-1)).take (its.size-(its.size-1)))=_;rw[adD (by simp),adD (by simp)]
theorem tH(hi:c.aj[i]? =some (.vals kd xs))(hj:c.aj[j]? =some (.vals kd ys))(hz:xs.length+ys.length<=100000)(h:Q (.ref c.aj.length) {c with aj:=c.aj++ [.vals kd (xs++ys)]}):bM e VR (.ref i) (.ref j) (binaryOp .Add) c Q:=by rintro x ad m aa _ _ n r r' R E p;refine cI (n.at hi r) fun a ob N8 ha hm N9 ho=> ?_;subst N8;obtain⟨its,k1,rfl,BJ,hz1⟩:=N9;refine cI (n.at hj r') fun b ob' Oa hb fQ Ob Lr=> ?_;subst Oa;obtain⟨gd,k2,rfl,vi,J6⟩:=Ob;have l1:=BJ.length;have l2:=vi.length;rw[aaR]at l1 l2;refine add_arrays n.F n.N (aO ho) (aO Lr) (fun h' F' N'=> ?_) (by have:=aD;simp;lia);refine aI (n.new (o:=.vals kd (xs++ys)) (fun q hq=>Heap.lt_size (n.N q hq).1) F' N' ⟨its++gd,0,by simp,by rw[acq];exact((BJ.append vi).mono fun Z Z=>VP.mono (jH (ad:=ad))),by simp;exact hz⟩) fun n2 x2=>p _ _ _ _ _ _ _ _ h n2 x2 ⟨_,by show(ad.m++ [_])[_]? =_;rw[<-n.len];simp,rfl⟩
theorem wG(mX:isSlice sl=false)(hs:c.aj[i]? =some (.vals kd (xs++ [q])))(h:Q (.pv (kd.inj q)) c):bM e VR (.ref i) (.pv (.int (-1))) (subscriptTail y sl) c Q:=by
 refine .ri fun x ad m aa a t n ha R E p=>n.lL hs ha fun its k' hm hi hz ho=> ?_;refine ah (hi.get (i:=xs.length) (a:=kd.inj q) (by simp)) fun v hv rv=> ?_;have hlen:=hi.length;have hl:=aO ho;simp only[aaR,aag,acn,acQ]at hlen;exact tail_any hl.typeIs slot_list_getitem.lookup (wpAny_getItem_list_neg hl (lx [] [] 2881153280) (by simp;exact ba 27151618316560 (bh hlen)) (by lia) (by
  have:((-1:Int)+(its.toArray.size:Int)).toNat=xs.length:=by simp;lia
  rw[this];simpa using hv) (p _ _ _ _ _ _ _ _ h n (Ext.refl ..) rv)) (bz mX _ _)
end
section
theorem pI(h:nv x=some a):Nm nv m x (.ref a):=by unfold Nm;rw[h]
theorem cL.cells (cv:Str->Option V):∀ {cs:List (Str×Addr)} {cells:List (Addr×Obj)} {ad:Ad} {aa:Led} {l:List (Str×V)} {σ:List AO},CellsAre cm cs cells->cs.Pairwise (fun a b=>b.2<a.2)->(∀a∈cs,∀p∈aa,p.1<a.2)-> News h₀ L h (cells++aa)->(∀aF ag,Gr ad aa aF ag->∀a∈cs,SR aF ag (cv a.1) (cm a.1))->cL w h₀ L nv ad m aa ⟨l,σ⟩ h->∃aF,cL w h₀ L nv aF m (cells++aa) ⟨l,σ++cs.reverse.map fun a=>.cell (cv a.1)⟩ h/\Ext ad aa aF (cells++aa)/\aF.m=ad.m++cs.reverse.map (·.2):=by
 intro cs cells ad aa l σ Dj;induction Dj with
 | nil=>intro _ _ N _ n;exact⟨ad,by simpa using n,Ext.refl ..,by simp⟩
 | cons ho hr ih=>
  rename_i x a o YL zQ;intro hp hl N hv n;rw[adT]at hp;refine bD (ih hp.2 (fun b hb=>hl b (.tail _ hb)) (fun p qo=>N p (.tail _ qo)) (fun aF ag g b hb=>hv aF ag g b (.tail _ hb)) n) fun bx n1 x1 e1=> ?_;have ll:∀p∈zQ++aa,p.1<a:=fun p qo=>by
   rcases abn.mp qo with h1 | h1
   ·have:∃b∈YL,b.2=p.1:=by
     clear ih hl N hv n hp n1 x1 e1 qo;induction hr with
     | nil=>exact bg h1
     | cons Lr _ ih=>
      rcases abi.mp h1 with z | z
      ·exact z ▸ ⟨_,.head _,rfl⟩
      ·refine ah (ih z) fun b hb eb=> ?_;exact⟨b,.tail _ hb,eb⟩
    refine ah this fun b hb eb=> ?_;rw[<-eb];exact hp.1 b hb
   ·exact hl (x,a) (.head _) p h1
  have gr:Gr ad aa (bx.snoc a) ((a,o)::(zQ++aa)):=by obtain⟨⟨t,et,_⟩,tp,_,_⟩:=x1;exact⟨⟨t++ [a],by show bx.m++ [a]=_;rw[et];simp⟩,fun b its hb=>.tail _ (tp _ _ hb)⟩
  obtain⟨n2,x2⟩:=n1.new (o:=.cell (cv x)) ll n1.F N ⟨cm x,ho,hv _ _ gr (x,a) (.head _)⟩;refine⟨bx.snoc a,?_,x1.trans x2,?_⟩
  ·have e2:((x,a)::YL).reverse.map (fun a=>AO.cell (cv a.1))=(YL.reverse.map fun a=>AO.cell (cv a.1))++ [.cell (cv x)]:=by simp
   rw[e2,<-acx];exact n2
  ·show bx.m++ [a]=_;rw[e1];simp
theorem mv(l:List (Str×NameKind)):∀(n:Nat) (acc:List (Str×Addr)),(acc.lookup x).isSome=true\/(x,NameKind.cell)∈l->((cellsFrom n l acc).lookup x).isSome=true:=by
 induction l with
 | nil=>exact fun n acc h=>h.elim id fun h=>bg h
 | cons p r ih=>
  intro n acc h;obtain⟨y,k⟩:=p;show((if(k== .cell)=true then cellsFrom (n+1) r ((y,n)::acc)else cellsFrom n r acc).lookup x).isSome=true;by_cases hk:(k== .cell)=true
  ·rw[if_pos hk];refine ih (n+1) _ ?_;rcases h with h | h
   ·left;rw[adw];cases x==y with
    | true=>rfl
    | false=>exact h
   ·rcases abi.mp h with z | z
    ·cases z;exact .inl (congrArg Option.isSome aed)
    ·exact .inr z
  ·rw[if_neg hk];refine ih n acc (h.imp id fun h=> ?_);rcases abi.mp h with z | z
   ·cases z;exact absurd (by rfl) hk
   ·exact z
noncomputable def HJ(sc:Scope):Bool:=sc.names.all fun x=>x.2== .local||x.2== .globalImplicit||x.2== .cell
theorem ot(h:HJ e.scope=true)(h1:e.env.scope=e.scope)(h2:e.env.locals=e.L)(h3:e.env.cells=cellsFrom n e.scope.names [])(h4:∀x,e.nv x=match e.scope.names.lookup x with | some .cell=>(cellsFrom n e.scope.names []).lookup x | _=>none):s9 e:=fun x=>by
 have hk:e.env.kindOf x=e.scope.names.lookup x:=by rw[<-h1];rfl
 have h4:=h4 x;cases q:e.scope.names.lookup x with
 | none=>trivial
 | some k=>
  rw[q]at hk h4;rw[cj]at q;have hm:=gy q;have:=aaZ.mp h _ hm;cases k with
  | «local»=>exact⟨hk,h2,h4⟩
  | globalImplicit=>exact hk
  | cell=>obtain⟨a,ha⟩:=acX.mp (mv e.scope.names n [] (.inr hm));exact⟨hk,a,by rw[h3];exact ha,by rw[h4];exact ha⟩
  | free=>exact gu this
  | globalExplicit=>exact gu this
abbrev fh:Scope:=au (st 38)
theorem jO(n:Nat):cellsFrom n fh.names []= [(s "q",n+1),(s "world",n)]:=by kernel_rfl
theorem Oc(P:Params):∃kV doc pm an dS ct,(KK P).lookup 947=some ⟨.type "function",none,.func (fnOf (fnName (st 38)) (s "_law_put_out") (fy (st 38)) (ar (st 38)) fh .none kV doc pm an dS ct),#[]⟩/\codeIn (KK P) dS (s "_law_put_out")=true:=
 ⟨.none,.none,(vs "law_om0195_01" 1428),none,(.ref 946),.none,by kernel_rfl,by kernel_rfl⟩
abbrev UA(n:Nat):List (Str×V):= [(s "world",.ref n),(s "q",.ref (n+1))]
theorem Od(n:Nat)(x:Str)(v:V)(N:Nat)(h:look (UA N) x=some v):(match fh.names.lookup x with | some .cell=>(cellsFrom n fh.names []).lookup x | _=>none)=some (if x=s "q" then n+1 else n)/\v= .ref (if x=s "q" then N+1 else N):=by
 simp only[eQ]at h;cases q1:Fast.sEq (s "world") x with
 | true=>rw[q1]at h;obtain rfl:=aah.inj h;have:=Fast.sEq_iff.mp q1;exact this ▸ ⟨by kernel_rfl,by rw[if_neg (by decide +kernel)]⟩
 | false=>
  rw[q1]at h;cases q2:Fast.sEq (s "q") x with
  | true=>rw[q2]at h;obtain rfl:=aah.inj h;have:=Fast.sEq_iff.mp q2;exact this ▸ ⟨by kernel_rfl,by rw[if_pos rfl]⟩
  | false=>rw[q2]at h;exact aZ h
variable{e:Fm}
theorem Oe(hx:Cx e)(hk:e.k=k+1) (h:∀e':Fm,Cx e'->e'.w=e.w->e'.k=k->e'.scope=fh->Wp e' bN (execs (ar (st 38)) e'.env) ⟨UA σ.length,σ++ [.cell (some u1),.cell (some u2)]⟩ (oW Q)):af e [u1,u2] (.ref 947) σ Q:=by
 refine KU (Oc e.w.params) fun kV doc pm an dS ct ho mY=> ?_;intro x ad m aa vs n ru R E p;refine eP (show ∃v1 v2,vs= [v1,v2] from by
  cases ru with
  | cons _ r=>cases r with
   | cons _ r=>cases r;exact⟨_,_,rfl⟩) fun v1 v2 Of=> ?_
 subst Of;refine aI (show VR ad aa u1 v1/\VR ad aa u2 v2 from by
  cases ru with
  | cons h1 r=>cases r with
   | cons h2 r=>exact⟨h1,h2⟩) fun r1 r2=> ?_
 refine hY hx.T fun fc mg mb T=> ?_;have hX:=hx.X.keeps n.F.keep;refine callX_cells (binds:= [(s "world",v1),(s "q",v2)]) hx.B n.F n.N T.nolimit hx.hA rfl hx.uH (hX _ _ ho) rfl (codeRec_of hX mY) (by have:=hx.dep;exact bj 757094035331352 this) (BindsTo.of_eq (by kernel_rfl)) (fun q y hy=> ?_) (by rw[jO];decide +kernel)
  (fun g L' h₁ tk cells FG FL NG CA BG stg bT=> ?_) (by kernel_rfl) (by kernel_rfl) (by kernel_rfl)
 ·rcases abi.mp hy with z | z
  ·exact z ▸ .inr ⟨by kernel_rfl,by rw[jO];kernel_rfl⟩
  ·rw[abH.mp z];exact .inr ⟨by kernel_rfl,by rw[jO];kernel_rfl⟩
 ·refine aA (⟨_,rfl⟩:∃e':Fm,e'=⟨e.w,e.A.deeper (envOfC (s "_law_put_out") fh L' 947 dS),e.A,e.base,g,e.iU::e.outer,L',s "_law_put_out",fh,947,dS,k,fh,cellsFrom (L'+1) fh.names [],none,fun x=>match fh.names.lookup x with | some .cell=>(cellsFrom (L'+1) fh.names []).lookup x | _=>none⟩) fun e' ka=> ?_;have cx:Cx e':=by
   subst ka;refine⟨BG,hx.X.keeps stg,⟨fc,mg,mb,T.keeps stg⟩,?_,by kernel_rfl,by kernel_rfl,rfl,rfl,ot (by kernel_rfl) rfl rfl rfl (fun Z=>rfl),?_,?_,hx.hh⟩
   ·show e.A.frames.map _=_;rw[hx.hA];rfl
   ·exact(hx.dn hk).1
   ·exact(hx.dn hk).2
  rw[jO]at CA;have qp:¬s "world" =s "q" :=by decide +kernel
  have YM:bindC (envOfC (s "_law_put_out") fh L' 947 dS).kindOf [(s "world",v1),(s "q",v2)] (fun Z=>none) (s "q")=some v2:=by kernel_rfl
  have YN:bindC (envOfC (s "_law_put_out") fh L' 947 dS).kindOf [(s "world",v1),(s "q",v2)] (fun Z=>none) (s "world")=some v1:=by kernel_rfl
  have n0:cL e.w g L' (fun x=>match fh.names.lookup x with | some .cell=>(cellsFrom (L'+1) fh.names []).lookup x | _=>none) ad (bindL (envOfC (s "_law_put_out") fh L' 947 dS).kindOf [(s "world",v1),(s "q",v2)] fun Z=>none) aa ⟨[],σ⟩ h₁:=
   ⟨FL,fun q hq=>NG q (abn.mpr (.inr hq)),n.nd,(fun Z Z z=>aZ z),n.len,n.fP,n.fb,n.gp,n.rep⟩
  refine bD (cL.cells (fun y=>if y=s "q" then some u2 else some u1) CA (by simp) (fun a ha q hq=>by
   have:=bT q hq;rcases abi.mp ha with z | z
   ·exact z ▸ adZ (adZ this)
   ·rw[abH.mp z];exact adZ this) NG (fun aF ag gr a ha=>by
   rcases abi.mp ha with z | z
   ·subst z;rw[YM,if_pos rfl];exact VR.fA gr r2
   ·rw[abH.mp z];rw[YN,if_neg qp];exact VR.fA gr r1) n0) fun bx n1 x1 em=> ?_
  have hcs:([(s "q",L'+1+1),(s "world",L'+1)]:List (Str×Addr)).reverse.map (fun a=>AO.cell (if a.1=s "q" then some u2 else some u1))= [.cell (some u1),.cell (some u2)]:=by simp only[List.reverse_cons,List.reverse_nil,aey,aev,acu,aeK];rw[if_neg qp];simp
  rw[hcs]at n1;have hlen:ad.m.length=σ.length:=n.len;have now:aU e' bx (bindL (envOfC (s "_law_put_out") fh L' 947 dS).kindOf [(s "world",v1),(s "q",v2)] fun Z=>none) (cells++aa) ⟨UA σ.length,σ++ [.cell (some u1),.cell (some u2)]⟩ h₁:=by
   subst ka;refine cL.names n1 fun y v ey=>aI (Od (L'+1) y v σ.length ey) fun f1 f2=> ?_;refine⟨.ref (if y=s "q" then L'+1+1 else L'+1),pI f1,?_⟩;rw[f2];refine⟨_,?_,rfl⟩;rw[em];show(ad.m++ [L'+1,L'+1+1])[if y=s "q" then σ.length+1 else σ.length]? =some (if y=s "q" then L'+1+1 else L'+1);split
   ·rw[<-hlen];simp
   ·rw[<-hlen];simp
  have body:=h e' cx (by rw[ka]) (by rw[ka]) (by rw[ka]);subst ka;refine body _ bx _ (cells++aa) now _ _ fun fl JZ c' h' Co aF m' ag q n' y r=>⟨L',m',ag,n'.F,n'.N,fun F0 N0=> ?_⟩;have nn:lR e aF m ag c'.aj h':=⟨F0,N0,n'.nd,(fun Z Z e=>aZ e),n'.len,n'.fP,n'.fb,n'.gp,n'.rep⟩;cases fl with
  | next=>cases r;exact p _ _ _ _ _ _ _ q nn (x1.trans y) rfl
  | brk=>cases r;exact p _ _ _ _ _ _ _ q nn (x1.trans y) rfl
  | cont=>cases r;exact p _ _ _ _ _ _ _ q nn (x1.trans y) rfl
  | ret v=>refine ah r fun v' Og rv=> ?_;exact Og ▸ p _ _ _ _ _ _ _ q nn (x1.trans y) rv
end
abbrev pJ:Expr:=ak (at_ (ar (st 38)) 1)
abbrev pK:Scope:=kC (cb pJ) fh
abbrev zR:Expr:=bH pJ
abbrev qs:Expr:=ie (dh zR)
theorem zS:pJ= .ListComp zR [⟨.Name (s "p") (aw (dT pJ).target),(dT pJ).iter,(dT pJ).ifs,0⟩] (cb pJ) (aw pJ):=by kernel_rfl
theorem HK:zR= .Subscript (.BinOp (gc (dh zR)) .Add qs (aw (dh zR))) (ec zR) (aw zR):=by kernel_rfl
theorem HL:qs= .ListComp (bH qs) [⟨.Name (s "mail") (aw (dT qs).target),(dT qs).iter,[],0⟩] (cb qs) (aw qs):=by kernel_rfl
theorem HM:(dT qs).iter= .Subscript (dh (dT qs).iter) (.Slice (some (jI (yA (dT qs).iter))) none none (nQ (dT qs).iter)) (aw (dT qs).iter):=by kernel_rfl
theorem HN:b7 (cb pJ) fh (s "p")=true:=by kernel_rfl
theorem HO:b7 (cb qs) pK (s "mail")=true:=by kernel_rfl
abbrev pL(w:Wd)(q:Int):List AO:=w.aj++ [.cell (some (.ref 0)),.cell (some (.pv (.int q)))]
abbrev Oh(q:Nat):List (Str×V):= [(s "world",.ref 44),(s "q",.ref 45),(s "heap",.ref (30+q))]
abbrev ou(q:Nat):List (Str×V):=Oh q++ [(s "p",.ref 47)]
noncomputable def eO(t:List Int):Int:=t.getD 0 0
noncomputable def eU(l:List (List Int)):List (List Int):=(l.drop (l.length-1)).take l.length
noncomputable def dY(l:List (List Int)):Int:=(([0]++(eU l).map eO).getLast?).getD 0
theorem wH:dY []=0:=rfl
theorem jj(l:List (List Int))(t:List Int):dY (l++ [t])=eO t:=by
 unfold dY;have:eU (l++ [t])= [t]:=by unfold eU;rw[show(l++ [t]).length-1=l.length by simp,List.drop_left,adD (by simp)]
 rw[this];simp
theorem tI(l:List (List Int)):∃xs,[0]++(eU l).map eO=xs++ [dY l]:=by
 unfold dY;generalize hy: [0]++(eU l).map eO=ys;have qp:ys≠ []:=by rw[<-hy];simp
 cases hl:ys.getLast? with
 | none=>exact absurd (List.getLast?_eq_none_iff.mp hl) qp
 | some v=>obtain⟨zs,hz⟩:=List.getLast?_eq_some_iff.mp hl;exact⟨zs,hz⟩
section
variable{e:Fm}{c:St}
theorem pM(hx:Cx e){K:St->Prop} (tB:b7 sc e.scope x=true)(zh:∀v,foldedSetIterable iter e.env v=pure v)(C4:look c.loc x=none)(jg:look c.loc (s ".0")=none)(o₀:AO)(MZ:(∃kd,o₀= .vals kd [])\/o₀= .refs [])(I:Nat->Nat->List AO->Prop)(pD:∀a k σ,I a k σ->∃l,σ[a+1]? =some (.ns l)) (lr:eT e iter c (fun c1=>c1.loc=c.loc/\I c1.aj.length 0 (c1.aj++ [o₀]++ [.ns []])/\K ⟨c.loc,c1.aj++ [o₀]++ [.ns []]⟩) us K)(hK:∀(l l':List (Str×V)) (σ:List AO),K ⟨l,σ⟩->K ⟨l',σ⟩) (turn:∀(e':Fm),Cx e'->e'.w=e.w->e'.k=e.k->e'.scope=kC sc e.scope->∀(a k:Nat) (u:V) (σ:List AO),us[k]? =some u->I a k σ->K ⟨c.loc,σ⟩-> zz e' ifs ⟨put c.loc x (.ref (a+1)),σ.set (a+1) (.ns [(x,u)])⟩ fun ok c3=>(match ok with
    | true=>Wp e' VR (eval elt e'.env) c3 fun v c4=>cN e' VR [.ref a,v] (fun vs=>call (.builtin "list.append") vs) c4 fun Z c5=>c5.loc=put c.loc x (.ref (a+1))/\I a (k+1) c5.aj/\K ⟨c.loc,c5.aj⟩
    | false=>c3.loc=put c.loc x (.ref (a+1))/\I a (k+1) c3.aj/\K ⟨c.loc,c3.aj⟩))
  (fin:∀a σ,I a us.length σ->Q (.ref a) ⟨c.loc,σ.set (a+1) (.ns [])⟩):Wp e VR (eval (.ListComp elt [⟨.Name x px,iter,ifs,0⟩] sc pos) e.env) c Q:=fun sh ad m aa n R E p=>by
 rw[eval_ListComp];exact om hx tB zh C4 jg o₀ MZ I pD lr hK turn n fun a σ h' tk aF m' ag v hI n' x' r h3 n3 nn xx=>p _ _ _ _ _ _ _ _ (fin a σ hI) nn xx r
theorem tJ(hx:Cx e){K:St->Prop} (J9:swapsWith (.ListComp elt [⟨.Name x px,iter,ifs,0⟩] sc pos) (some (.Name y py)) YO.line e.env=pure true)(hy:look e.scope.names y=some .local) (tB:b7 sc e.scope x=true)(zh:∀v,foldedSetIterable iter e.env v=pure v)(C4:look c.loc x=none)(jg:look c.loc (s ".0")=none)(o₀:AO)(MZ:(∃kd,o₀= .vals kd [])\/o₀= .refs [])(I:Nat->Nat->List AO->Prop)(pD:∀a k σ,I a k σ->∃l,σ[a+1]? =some (.ns l)) (lr:eT e iter c (fun c1=>c1.loc=c.loc/\I c1.aj.length 0 (c1.aj++ [o₀]++ [.ns []])/\K ⟨c.loc,c1.aj++ [o₀]++ [.ns []]⟩) us K)(hK:∀(l l':List (Str×V)) (σ:List AO),K ⟨l,σ⟩->K ⟨l',σ⟩) (turn:∀(e':Fm),Cx e'->e'.w=e.w->e'.k=e.k->e'.scope=kC sc e.scope->∀(a k:Nat) (u:V) (σ:List AO),us[k]? =some u->I a k σ->K ⟨c.loc,σ⟩-> zz e' ifs ⟨put c.loc x (.ref (a+1)),σ.set (a+1) (.ns [(x,u)])⟩ fun ok c3=>(match ok with
    | true=>Wp e' VR (eval elt e'.env) c3 fun v c4=>cN e' VR [.ref a,v] (fun vs=>call (.builtin "list.append") vs) c4 fun Z c5=>c5.loc=put c.loc x (.ref (a+1))/\I a (k+1) c5.aj/\K ⟨c.loc,c5.aj⟩
    | false=>c3.loc=put c.loc x (.ref (a+1))/\I a (k+1) c3.aj/\K ⟨c.loc,c3.aj⟩))
  (fin:∀a σ,I a us.length σ->Q .next ⟨put c.loc y (.ref a),σ.set (a+1) (.ns [])⟩):Wp e bN (exec (.Assign [.Name y py] (.ListComp elt [⟨.Name x px,iter,ifs,0⟩] sc pos) YO) e.env) c Q:=fun sh ad m aa n R E p=>by
 rw[exec_Assign_Name_used _ _ _ _ J9];refine wpAny_bind (wpAny_standAt (wpAny_bind ?_));show wpAny _ _ (do let _ <-comprehension (.ListComp elt [⟨.Name x px,iter,ifs,0⟩] sc pos) sc e.env _ (newList []) false (eval iter e.env) (some (assign (.Name y py) e.env))) _ _ _;refine wpAny_bind (wpAny_mono (om hx tB zh C4 jg o₀ MZ I pD lr hK turn n fun a σ h' tk aF m' ag v hI n' x' r=> ?_) (fun Z s' hq=>wpAny_pure (wpAny_pure hq)) fun Z Z z=>z);refine wpAny_assign_Name ((cE (v:=.ref a) (Q:=fun Z c'=>c'=⟨put c.loc y (.ref a),σ⟩) hx hy rfl) _ aF m' ag v n' r _ E fun Z Z c2 h2 gI bp m2 ay q2 n2 x2 Z=> ?_);subst q2;exact Ge bp m2 ay _ h2 gI ⟨rfl,n2,pD a _ σ hI,x2,fun h3 n3 nn xx=>p .next .next _ _ _ _ _ _ (fin a σ hI) nn xx rfl⟩
end
section
variable(P:Params)(e:Fm)(K:V->St->Prop)
theorem YQ(q:Nat)(σ:List AO):ew e P pK 40 (gc (dh zR)) ⟨ou q,σ⟩ K=([V.pv (.int 0)].length<=100000/\K (.ref σ.length) ⟨ou q,σ++ [.vals .int [0]]⟩):=by kernel_rfl
theorem YR(q:Nat)(σ:List AO):ew e P pK 40 (ec zR) ⟨ou q,σ⟩ K=K (.pv (.int (-1))) ⟨ou q,σ⟩:=by kernel_rfl
theorem YS(w:Wd)(acc:List Int)(g:List AO):∀(q p:Nat),q<3->p<3->ew e P pK 40 (dh (dT qs).iter) ⟨ou q,pL w q++ [.vals .int acc,.ns [(s "p",.pv (.int p))]]++g⟩ K=K (.ref (20+3*p+q)) ⟨ou q,pL w q++ [.vals .int acc,.ns [(s "p",.pv (.int p))]]++g⟩
 | 0,0,_,_=>by kernel_rfl
 | 0,1,_,_=>by kernel_rfl
 | 0,2,_,_=>by kernel_rfl
 | 1,0,_,_=>by kernel_rfl
 | 1,1,_,_=>by kernel_rfl
 | 1,2,_,_=>by kernel_rfl
 | 2,0,_,_=>by kernel_rfl
 | 2,1,_,_=>by kernel_rfl
 | 2,2,_,_=>by kernel_rfl
 | n+3,_,h,_=>gm h
 | _,n+3,_,h=>gm h
theorem YT(q:Nat)(σ:List AO):ew e P pK 40 (jI (yA (dT qs).iter)) ⟨ou q,σ⟩ K=K (.pv (.int (-1))) ⟨ou q,σ⟩:=by kernel_rfl
theorem YU(w:Wd)(q:Nat)(a1 a2 a3 a4 a5:AO)(t:List Int):ew e P (kC (cb qs) pK) 40 (bH qs) ⟨ou q++ [(s "mail",.ref 51)],pL w q++ [a1,a2,a3,a4,a5,.ns [(s "mail",.pv (.tup t))]]⟩ K=((0<=(0:Int)/\(0:Int)<t.length/\t.length<=100000)/\K (.pv (.int (t.getD 0 0))) ⟨ou q++ [(s "mail",.ref 51)],pL w q++ [a1,a2,a3,a4,a5,.ns [(s "mail",.pv (.tup t))]]⟩):=by kernel_rfl
end
section
theorem Dk(w:Wd)(g:List AO):∀(q p:Nat),q<3->p<3->(w.aj++g)[20+3*p+q]? =some (.vals .tup (w.aY p q))
 | 0,0,_,_=>rfl
 | 0,1,_,_=>rfl
 | 0,2,_,_=>rfl
 | 1,0,_,_=>rfl
 | 1,1,_,_=>rfl
 | 1,2,_,_=>rfl
 | 2,0,_,_=>rfl
 | 2,1,_,_=>rfl
 | 2,2,_,_=>rfl
 | n+3,_,h,_=>gm h
 | _,n+3,_,h=>gm h
theorem zT:∀(q:Nat),q<3->(ou q).all (fun x=>x.2.under 48)=true
 | 0,_=>by kernel_rfl
 | 1,_=>by kernel_rfl
 | 2,_=>by kernel_rfl
 | n+3,h=>gm h
variable{e:Fm}
theorem HQ(hx:Cx e)(hs:e.scope=pK)(hq:q<3)(hp:p<3)(hc:∀t∈w.aY p q,0<t.length/\t.length<=1000)(hz:(w.aY p q).length<=1000) (h:Q (.pv (.int (dY (w.aY p q)))) ⟨ou q,pL w q++ [.vals .int acc,.ns [(s "p",.pv (.int p))]]⟩):Wp e VR (eval zR e.env) ⟨ou q,pL w q++ [.vals .int acc,.ns [(s "p",.pv (.int p))]]⟩ Q:=by
 refine Wp.Ft ?_;rw[HK];refine aA (⟨_,rfl⟩:∃cm,w.aY p q=cm) fun cm hcm=> ?_;rw[hcm]at hc hz h;have hcz:(eU cm).length<=1:=by unfold eU;simp;exact ba 1894266767640 eH
 have hcc:∀t∈eU cm,0<t.length/\t.length<=1000:=fun t ht=>hc t (List.mem_of_mem_drop (adu ht));refine dj (fR (aB hx hs (YQ _ e _ q _) ⟨by decide,?_⟩));rw[HL];have e1:(pL w q++ [AO.vals .int acc,.ns [(s "p",V.pv (.int p))]]++ [.vals .int [0]])=pL w q++ [.vals .int acc,.ns [(s "p",.pv (.int p))],.vals .int [0]]:=rfl;refine pM hx (x:=s "mail") (us:=yg .tup (eU cm)) (K:=fun c=>c.aj[49]? =some (.vals .tup (eU cm))) (hs ▸ HO) (fun Z=>rfl) (by kernel_rfl) (by kernel_rfl) (.vals .int []) (.inl ⟨.int,rfl⟩)
  (fun a k σ=>a=50/\∃l,σ=pL w q++ [.vals .int acc,.ns [(s "p",.pv (.int p))],.vals .int [0],.vals .tup (eU cm),.vals .int (((eU cm).take k).map eO),.ns l]) (fun a k σ hI=>by obtain⟨rfl,l,rfl⟩:=hI;exact⟨l,rfl⟩)
  (dr hx (i:=49) (kd:=.tup) (xs:=eU cm) ?_) (fun Z Z Z z=>z) (fun e' aL J4 cH qn a k u σ hu hI hK=> ?_) (fun a σ hI=> ?_)
 ·rw[HM];refine zP (aB hx hs (YS _ e _ w acc [.vals .int [0]] q p hq hp) (lB (aB hx hs (YT _ e _ q _) ⟨-1,rfl,lz ⟨20+3*p+q,.tup,cm,cm.length-1,cm.length,rfl,?_,fun its hi=> ?_,rfl,rfl,rfl,⟨rfl,[],rfl⟩,rfl⟩⟩)))
  ·rw[<-hcm];exact Dk w _ q p hq hp
  ·rw[wF,hi]
 ·obtain⟨rfl,l,rfl⟩:=hI;simp only[aa0,abh]at hu;obtain⟨t,ht,rfl⟩:=hu;have vq:=hcc t (abW ht);have De:=(aab.mp ht).1;show Wp e' VR (eval (bH qs) e'.env) ⟨ou q++ [(s "mail",.ref 51)],pL w q++ [.vals .int acc,.ns [(s "p",.pv (.int p))],.vals .int [0],.vals .tup (eU cm),.vals .int (((eU cm).take k).map eO),.ns [(s "mail",.pv (.tup t))]]⟩ _;refine aB aL (by rw[qn,hs]) (YU _ e' _ w q _ _ _ _ _ t) ⟨⟨acd _,bY 9597385087248 vq.1,bY 0x186a05f03e83f0918 vq.2⟩,?_⟩;refine ed (kd:=.int) (xs:=((eU cm).take k).map eO) rfl (by simp;lia) ⟨by kernel_rfl,⟨rfl,[(s "mail",.pv (.tup t))],?_⟩,rfl⟩;rw[adG,ht];simp only[Option.toList_some,acq,acu,aeK];rfl
 ·obtain⟨rfl,l,rfl⟩:=hI;rw[aaR,adk];show bM e VR _ _ _ ⟨ou q,pL w q++ [.vals .int acc,.ns [(s "p",.pv (.int p))],.vals .int [0],.vals .tup (eU cm),.vals .int ((eU cm).map eO),.ns []]⟩ _;refine tH (kd:=.int) (xs:= [0]) (ys:=(eU cm).map eO) rfl rfl (by simp;exact bY 0x186a05f0b9b0918 hcz) ?_;refine aA (tI cm) fun xs Ka=> ?_;show Wp e VR (eval (ec zR) e.env) ⟨ou q,pL w q++ [.vals .int acc,.ns [(s "p",.pv (.int p))],.vals .int [0],.vals .tup (eU cm),.vals .int ((eU cm).map eO),.ns [],.vals .int ([0]++(eU cm).map eO)]⟩ _;refine aB hx hs (YR _ e _ q _) (wG (kd:=.int) (xs:=xs) (q:=dY cm) (by kernel_rfl) (by rw[Ka];rfl) ?_);exact k5 _ ([.vals .int [0],.vals .tup (eU cm),.vals .int ((eU cm).map eO),.ns [],.vals .int ([0]++(eU cm).map eO)]) ⟨rfl,abE _,rfl,by kernel_rfl,zT q hq,h⟩
end
theorem gG{α:Type}:∀ {xs:List α} {i:Nat} {t:α},i<xs.length->(xs.set i t).Perm (t::xs.eraseIdx i)
 | [],i,t,h=>by simp at h
 | x::r,0,t,_=>by rfl
 | x::r,i+1,t,h=>by exact((gG (by simpa using h)).cons x).trans (List.Perm.swap _ _ _)
theorem mw{α:Type}{xs:List α}(h:i<xs.length):xs.Perm (xs[i]::xs.eraseIdx i):=by have:=gG (t:=xs[i]) h;rwa [List.set_getElem_self]at this
theorem oy{α:Type}{xs:List α}{t:α}(hp:p<xs.length)(hq:q<xs.length)(fF:q≠p):((xs.set p xs[q]).set q t).Perm (xs.set p t):=by
 have BU:q<(xs.set p xs[q]).length:=by simpa using hq
 have h1:=mw BU;rw[(show(xs.set p xs[q])[q]=xs[q] from by rw[List.getElem_set_ne (Ne.symm fF)])]at h1;exact(gG BU).trans ((((h1.symm.trans (gG hp)).cons_inv).cons t).trans (gG hp).symm)
theorem getD_at{α:Type}{xs:List α}{d:α}(h:i<xs.length):xs.getD i d=xs[i]:=by simp[acU,h]
theorem rM(t:List Int):∀(n:Nat) (xs:List (List Int)) (p:Nat),p<xs.length->(uY t n xs p).Perm (xs.set p t):=by
 intro n;induction n with
 | zero=>exact fun Z Z Z=>.refl _
 | succ n ih=>
  intro xs p h;rw[oa];by_cases h0:p=0
  ·rw[if_pos h0]
  ·rw[if_neg h0];by_cases hl:lexLt t (xs.getD ((p-1) / 2) [])=true
   ·rw[if_pos hl];have hp:(p-1) / 2<p:=by lia
    have hq:=aeF hp h;refine(ih _ _ (by simpa using hq)).trans ?_;rw[getD_at hq];exact oy h hq (adg hp)
   ·rw[if_neg hl]
theorem gX(xs:List (List Int))(t:List Int):(i7 xs t).Perm (t::xs):=by unfold i7;refine(rM t _ _ _ (by simp)).trans ?_;rw[(show(xs++ [t]).set xs.length t=xs++ [t] from by simp)];exact(List.perm_append_comm)
theorem zU(t:List Int)(e:Nat):∀(n:Nat) (xs:List (List Int)) (p:Nat),e<=xs.length->p<xs.length->((sup e n xs p).1.set (sup e n xs p).2 t).Perm (xs.set p t):=by
 intro n;induction n with
 | zero=>exact fun Z Z Z Z=>.refl _
 | succ n ih=>
  intro xs p he h;rw[oe];by_cases q:2*p+1<e
  ·rw[if_pos q];refine aI (pj (xs:=xs) q) fun h1 h2=> ?_;have hc:nC e xs p<xs.length:=ab3 h2 he;exact(ih _ _ (acN.symm ▸ he) (acN.symm ▸ hc)).trans ((getD_at hc) ▸ oy h hc (Nat.ne_of_gt h1))
  ·rw[if_neg q]
theorem wI(h:0<xs.length):(qZ xs).Perm xs:=by unfold qZ;refine(rM _ _ _ _ (by simp;exact ab3 (G3 xs.length xs.length xs 0 h) (bl (CM xs.length xs.length xs 0)))).trans ?_;rw[List.set_set];refine(zU _ xs.length xs.length xs 0 (abE _) h).trans ?_;rw[getD_at h,List.set_getElem_self]
theorem take_snoc{α:Type}{xs:List α}{d:α}(h:0<xs.length):xs=xs.take (xs.length-1)++ [xs.getD (xs.length-1) d]:=uW h
theorem kf(h:0<xs.length):((eS xs).1::(eS xs).2).Perm xs:=by
 have hs:=take_snoc (d:=([]:List Int)) h;unfold eS;generalize hl:xs.getD (xs.length-1) []=l at hs ⊢;generalize hr:xs.take (xs.length-1)=r at hs ⊢;dsimp only;rw[hs];split
 ·rename_i he;have:r= []:=by simpa using he
  exact this.symm ▸ .refl _
 ·rename_i he;have gW:0<r.length:=by rw[adj];intro z;rw[z]at he;simp at he
  have h2:=mw gW;rw[<-getD_at gW]at h2;refine(((wI (by simpa using gW)).trans (gG gW)).cons _).trans ((List.Perm.swap _ _ _).trans ((h2.symm.cons l).trans ?_));exact List.perm_append_comm (l₁:= [l])
theorem mx(h:0<xs.length):(eS xs).2.length=xs.length-1:=by have:=(kf h).length_eq;simp at this;exact aac (bj 9203537539012904 (bh this) eH) (bj 9203537539012904 (cA (ba 7276108056 (bh this))) (bl this))
section
noncomputable def dP(w:Wd)(q k:Nat):List Int:=((acj k).filter fun p=>decide (p≠q)).map fun p=>dY (w.aY p q)
noncomputable def kg(m:Int):Nat->List (List Int)->List (List Int)->List (List Int)×List (List Int)
 | 0,h,o=>(h,o)
 | n+1,h,o=>if 0<h.length/\eO (h.getD 0 [])<=m then kg m n (eS h).2 (o++ [(eS h).1])else(h,o)
noncomputable abbrev Dl(w:Wd)(q:Nat):Wd:={w with aC:=up1 w.aC q (kg (fC (dP w q 3)) (w.aC q).length (w.aC q) (w.out q)).1,out:=up1 w.out q (kg (fC (dP w q 3)) (w.aC q).length (w.aC q) (w.out q)).2}
abbrev UB:Stmt:=at_ (ar (st 38)) 1
abbrev Fw:Stmt:=at_ (ar (st 38)) 2
theorem Dm:ar (st 38)= [at_ (ar (st 38)) 0]++ [.Assign [.Name (s "lasts") (aw (i6 0 UB))] pJ (bZ UB),.While (bU Fw) (ax Fw) [] (yy Fw)]:=by kernel_rfl
abbrev Dp(q:Nat):List (Str×V):=Oh q++ [(s "lasts",.ref 46)]
abbrev HR(w:Wd)(q:Nat)(ls:List Int):List AO:=pL w q++ [.vals .int ls,.ns []]
section
variable(P:Params)(e:Fm)(Q:AF->St->Prop)(K:V->St->Prop)
theorem YV(w:Wd):∀(q:Nat),q<3->cZ (xw e P fh 40) [at_ (ar (st 38)) 0] ⟨UA 44,pL w q⟩ Q=Q .next ⟨Oh q,pL w q⟩
 | 0,_=>by kernel_rfl
 | 1,_=>by kernel_rfl
 | 2,_=>by kernel_rfl
 | n+3,h=>gm h
theorem YW(c:St):cM P fh (s "range") c K False=K (.glob (.type "range")) c:=by kernel_rfl
theorem YX(c:St):ew e P fh 40 ((dE (dT pJ).iter).headD z0) c K=K (.pv (.int 3)) c:=by kernel_rfl
theorem YY(w:Wd)(q p:Nat)(acc:List Int)(B:Bool->St->Prop):tw e (ew e P pK 40) 40 ((dT pJ).ifs.headD z0) ⟨ou q,pL w q++ [.vals .int acc,.ns [(s "p",.pv (.int p))]]⟩ B=B ((p:Int) != (q:Int)) ⟨ou q,pL w q++ [.vals .int acc,.ns [(s "p",.pv (.int p))]]⟩:=by kernel_rfl
theorem YZ(q:Nat):put (Oh q) (s "p") (.ref 47)=ou q:=by kernel_rfl
theorem Y0(q:Nat):put (Oh q) (s "lasts") (.ref 46)=Dp q:=by kernel_rfl
theorem Oi:(dT pJ).ifs= [(dT pJ).ifs.headD z0]/\(dT pJ).iter= .Call (.Name (s "range") (fJ (hG (dT pJ).iter))) [(dE (dT pJ).iter).headD z0] [] (aw (dT pJ).iter):=⟨by kernel_rfl,by kernel_rfl⟩
theorem Y1(w:Wd)(ls:List Int)(QB:AF->St->Prop)(QE:St->Prop):∀(q:Nat),q<3->qX e P fh (bU Fw) (ax Fw) ⟨Dp q,HR w q ls⟩ QB QE= fL (!(w.aC q).isEmpty) (((0:Int)<=0/\(0:Int)<(w.aC q).length)/\((0:Int)<=0/\(0:Int)<((w.aC q).getD 0 []).length/\((w.aC q).getD 0 []).length<=100000)/\0<ls.length/\fL (decide (((w.aC q).getD 0 []).getD 0 0<=fC ls)) (af e [.ref (30+q)] (.ref 215) (HR w q ls) fun v σ=>gD e (.builtin "list.append") [.ref (38+q),v] ⟨Dp q,σ⟩ fun Z c1=>QB .next c1) (QE ⟨Dp q,HR w q ls⟩)) (QE ⟨Dp q,HR w q ls⟩)
 | 0,_=>by kernel_rfl
 | 1,_=>by kernel_rfl
 | 2,_=>by kernel_rfl
 | n+3,h=>gm h
end
noncomputable abbrev fX(w:Wd)(q:Nat)(h o:List (List Int)):Wd:={w with aC:=up1 w.aC q h,out:=up1 w.out q o}
theorem Dq(w:Wd)(q:Nat):fX w q (w.aC q) (w.out q)=w:=by
 have h1:up1 w.aC q (w.aC q)=w.aC:=by funext j;unfold up1;split <;> simp_all
 have h2:up1 w.out q (w.out q)=w.out:=by funext j;unfold up1;split <;> simp_all
 show({w with aC:=_,out:=_}:Wd)=w;rw[h1,h2]
theorem Oj(w:Wd)(q:Nat)(h o:List (List Int)):(fX w q h o).aC q=h:=by show up1 _ _ _ _=_;unfold up1;rw[if_pos rfl]
theorem zV(w:Wd)(g:List AO):∀(q:Nat),q<3->(w.aj++g)[30+q]? =some (.vals .tup (w.aC q))/\(w.aj++g)[38+q]? =some (.vals .tup (w.out q))
 | 0,_=>⟨rfl,rfl⟩
 | 1,_=>⟨rfl,rfl⟩
 | 2,_=>⟨rfl,rfl⟩
 | n+3,h=>gm h
theorem Dr(w:Wd)(g:List AO)(h o h':List (List Int)):∀(q:Nat),q<3->((fX w q h o).aj++g).set (30+q) (.vals .tup h')=(fX w q h' o).aj++g
 | 0,_=>rfl
 | 1,_=>rfl
 | 2,_=>rfl
 | n+3,h=>gm h
theorem Ds(w:Wd)(g:List AO)(h o o':List (List Int)):∀(q:Nat),q<3->((fX w q h o).aj++g).set (38+q) (.vals .tup o')=(fX w q h o').aj++g
 | 0,_=>rfl
 | 1,_=>rfl
 | 2,_=>rfl
 | n+3,h=>gm h
theorem kF(w:Wd)(q k:Nat):dP w q (k+1)=if k=q then dP w q k else dP w q k++ [dY (w.aY k q)]:=by
 unfold dP;rw[adq,ac3,acq];by_cases h:k=q
 ·rw[if_pos h];simp[h]
 ·rw[if_neg h];simp[h]
theorem tK(w:Wd)(q k:Nat):(dP w q k).length<=k:=by unfold dP;rw[aaR];exact ab3 (ada _ _) (by simp)
theorem tL(w:Wd)(q:Nat):0<(dP w q 3).length:=by unfold dP;rw[aaR,adj];intro h;rw[ad7]at h;have h0:=h 0 (.head _);have h1:=h 1 (by decide);simp at h0 h1;lia
theorem pN{h o:List (List Int)}:kg m (n+1) h o=if 0<h.length/\eO (h.getD 0 [])<=m then kg m n (eS h).2 (o++ [(eS h).1])else(h,o):=rfl
theorem wJ(m:Int)(n:Nat):∀(n':Nat) (h o:List (List Int)),h.length<=n->h.length<=n'->kg m n h o=kg m n' h o:=by
 induction n with
 | zero=>
  intro n' h o h1 _;cases n' with
  | zero=>rfl
  | succ n'=>exact(if_neg fun z=>Nat.not_lt.mpr h1 z.1).symm
 | succ n ih=>
  intro n' h o h1 h2;by_cases hc:0<h.length/\eO (h.getD 0 [])<=m
  ·cases n' with
   | zero=>exact absurd hc.1 (Nat.not_lt.mpr h2)
   | succ n'=>have:=mx hc.1;rw[pN,pN,ih n' _ _ (dZ 0x30b39292b19910938 (bh this) (cA (bY 2965018904 hc.1)) h1) (dZ 0x30b39292b19910938 (bh this) (cA (bY 2965018904 hc.1)) h2)]
  ·cases n' with
   | zero=>exact if_neg hc
   | succ n'=>exact(if_neg hc).trans (if_neg hc).symm
variable{e:Fm}
theorem zW(hx:Cx e)(hs:e.scope=fh):swapsWith pJ (some (.Name (s "lasts") (aw (i6 0 UB)))) (bZ UB).line e.env=pure true:=by
 have k:=hx.sH (y:=s "lasts") (o:=some .local) (hs ▸ by kernel_rfl);have hb:e.env.blockKind= .function:=by unfold Env.blockKind;rw[hx.hk];rfl
 rw[zS];show(pure (e.env.blockKind== .function&&e.env.kindOf (s "lasts")==some .local&&_&&_):Sem Bool)=_;rw[hb,k.1];kernel_rfl
theorem HS(hx:Cx e){k:Nat}(hk:e.k=k+4){w:Wd}(hq:q<3)(hc:∀p,∀t∈w.aY p q,0<t.length/\t.length<=1000)(hz:∀p,(w.aY p q).length<=1000)(hh:∀t∈w.aC q,0<t.length/\t.length<=1000)(hlen:(w.out q).length+(w.aC q).length<100000):af e [.ref 0,.pv (.int q)] (.ref 947) w.aj fun v σ=>v= .pv .none/\σ=(Dl w q).aj:=by
 refine af.drop (Oe hx hk fun e' aL hw cH hs=> ?_);rw[Dm];refine b8 aL hs (of_eq (YV _ e' _ w q hq) (aT ?_));have J9:=zW aL hs;rw[zS]at J9 ⊢;refine tJ aL J9 (by rw[hs];kernel_rfl) (us:=iZ 3) (K:=fun Z=>True) (hs ▸ HN) (fun Z=>rfl) (by kernel_rfl) (by kernel_rfl) (.vals .int []) (.inl ⟨.int,rfl⟩)
  (fun a k σ=>a=46/\∃l,σ=pL w q++ [.vals .int (dP w q k),.ns l]) (fun a k σ hI=>by refine aI hI fun Ol Om=> ?_;obtain rfl:=Ol.symm;refine aA Om fun l Oo=> ?_;exact Oo ▸ ⟨l,rfl⟩) ?_ (fun Z Z Z Z=>trivial) (fun e2 i9 rL iV kG a p u σ hu hI Z=> ?_) (fun a σ hI=> ?_)
 ·rw[Oi.2];refine cy aL (lx [] [] 104857992456) (dm aL (by kernel_rfl) (cu aL False.elim ?_));rw[hs];refine of_eq (YW _ _ _) ⟨_,rfl,rfl,aS (aE (by kernel_rfl) _ _) (aB aL hs (YX _ e' _ _) (aN (fV ⟨rfl,⟨rfl,[],rfl⟩,trivial⟩)))⟩
 ·obtain⟨rfl,l,rfl⟩:=hI;simp only[aa0,abh]at hu;obtain⟨p',qo,rfl⟩:=hu;have wK:=(aab.mp qo).1;rw[acV]at wK;rw[acz wK]at qo;obtain rfl:=aah.inj qo;rw[Oi.1];rw[YZ];show Wp e2 cD (isTrue _ e2.env (eval _ e2.env)) ⟨ou q,pL w q++ [.vals .int (dP w q p),.ns [(s "p",.pv (.int p))]]⟩ _;have lj:e2.scope=pK:=by rw[kG,hs]
  refine jE i9 lj (of_eq (YY _ e2 w q p _ _) ?_);by_cases fF:p=q
  ·have:((p:Int) != (q:Int))=false:=by simp[fF]
   rw[this];refine⟨rfl,⟨rfl,[(s "p",.pv (.int p))],?_⟩,trivial⟩;rw[kF,if_pos fF]
  ·have:((p:Int) != (q:Int))=true:=by simp;exact fun zq=>cB (ba 0xab081811b09928 (aca (acF.mp (ij zq)) fF) (jv zq))
   rw[this];refine HQ i9 lj hq wK (hc p) (hz p) ?_;refine ed (kd:=.int) rfl (by have:=tK w q p;exact ba 0x186a05fb09db19910928 this wK) ⟨rfl,⟨rfl,[(s "p",.pv (.int p))],?_⟩,trivial⟩;rw[kF,if_neg fF];rfl
 ·obtain⟨rfl,l,rfl⟩:=hI;rw[Y0];refine aA (⟨_,rfl⟩:∃ls,dP w q 3=ls) fun ls vo=> ?_;have hlp:=tL w q;have e3:(iZ 3).length=3:=rfl;rw[e3,vo];rw[vo]at hlp;show Wp e' bN (execs [.While (bU Fw) (ax Fw) [] (yy Fw)] e'.env) ⟨Dp q,HR w q ls⟩ _;refine aT (jF aL (fun a:List (List Int)×List (List Int)=>⟨Dp q,HR (fX w q a.1 a.2) q ls⟩) (fun n a=>n=a.1.length/\(∀t∈a.1,0<t.length/\t.length<=1000)/\a.2.length+a.1.length<100000/\kg (fC ls) a.1.length a.1 a.2=kg (fC ls) (w.aC q).length (w.aC q) (w.out q)) (fun n a hI=> ?_) (w.aC q).length (w.aC q,w.out q) ⟨rfl,hh,hlen,rfl⟩ (by
   dsimp only;rw[Dq];exact Le.refl _))
  obtain⟨h,o⟩:=a;obtain⟨hn,Oq,ll,wL⟩:=hI;dsimp only at hn Oq ll wL ⊢;rw[hs];refine of_eq (Y1 _ e' (fX w q h o) ls _ _ q hq) ?_;rw[Oj];have fin:(h,o)=kg (fC ls) (w.aC q).length (w.aC q) (w.out q)->Wp e' bN (execs [] e'.env) ⟨Dp q,HR (fX w q h o) q ls⟩ fun fl c'=>∃rk g,c'.aj=rk++g/\w.aj.length<=rk.length/\(match fl with | .ret v=>v | _=>V.pv .none).under rk.length=true/\rk.all (AO.under rk.length)=true/\(match fl with | .ret v=>v | _=>V.pv .none)= .pv .none/\rk=(Dl w q).aj:=fun hf=>by refine cQ ⟨(fX w q h o).aj,_,rfl,abE _,rfl,by kernel_rfl,rfl,?_⟩;show _=(Dl w q).aj;unfold Dl;rw[vo,<-hf]
  cases hb:h.isEmpty with
  | true=>
   have:h= []:=by simpa using hb
   obtain rfl:=this.symm;exact fin (by rw[<-wL];rfl)
  | false=>
   have gW:0<h.length:=by rw[adj];intro z;rw[z]at hb;exact lI hb
   have Fx:=Oq (h.getD 0 []) (by rw[getD_at gW];exact ady gW);refine⟨⟨acd _,bY 9597385087248 gW⟩,⟨acd _,bY 9597385087248 Fx.1,bY 0x186a05f03e83f0918 Fx.2⟩,hlp,?_⟩;have oz:=wL;refine aA (⟨h.length-1,aac eH ((cA (bY 2965018904 gW)))⟩:∃r,h.length=r+1) fun r hr=> ?_;rw[hr]at oz;rw[pN]at oz;by_cases hle:(h.getD 0 []).getD 0 0<=fC ls
   ·rw[decide_eq_true hle];rw[if_pos ⟨ba 1900819814680 (bl hr),hle⟩]at oz;have ph:=mx gW;have hpp:=kf gW;refine af.Ck (zV (fX w q h o) _ q hq).1 rfl (by rw[Oj];exact G4 aL cH gW) fun v τ' hv=> ?_;obtain⟨rfl,rfl⟩:=hv;refine⟨rfl,.tup,_,rfl,?_⟩;show gD e' _ _ ⟨Dp q,((fX w q h o).aj++([AO.cell (some (V.ref 0)),AO.cell (some (V.pv (.int q)))]++ [AO.vals .int ls,AO.ns []])).set (30+q) _⟩ _;rw[Dr _ _ _ _ _ q hq];refine fW (zV (fX w q (eS h).2 o) _ q hq).2 rfl ?_ ?_
    ·show(up1 w.out q o q).length<100000;unfold up1;rw[if_pos rfl];exact ba 0x186a05fb09186a05fb1099918 ll
    ·have eo:(fX w q (eS h).2 o).out q=o:=by show up1 _ _ _ _=_;unfold up1;rw[if_pos rfl]
     rw[eo];dsimp only;rw[Ds _ _ _ _ _ q hq];refine⟨(eS h).2.length,((eS h).2,o++ [(eS h).1]),dZ 0x3b093292b19910938 (bh ph) (cA (ba 7276108056 (bl hr))) (bl hn),⟨rfl,fun t ht=>Oq t (hpp.subset (.tail _ ht)),by simp;exact dZ 0x186a05fb2b09991b399329186a05fb1099938 ll (bh ph) (cA (ba 7276108056 (bl hr))),?_⟩,Le.refl _⟩;rw[<-oz];exact wJ _ _ _ _ _ (abE _) (by show(eS h).2.length<=r;exact dZ 0x30b39292b19910938 (bh ph) (cA (ba 7276108056 (bl hr))) (bh hr))
   ·rw[decide_eq_false hle];rw[if_neg (fun z=>hle z.2)]at oz;exact fin oz
end
section
structure PW where
 rest:List Nat
 aq:List Nd
 lines:Nat->Nat->List (List Int)
 aY:Nat->Nat->List (List Int)
 aC:Nat->List (List Int)
 ahead:Nat->List Int
 out:Nat->List (List Int)
 aP:Nat->Int
 told:List (List Nat)
 ae:List (List Int)
abbrev T3(t:List Int):Prop:=∃a b m,t= [a,b,m]
structure PW.Ok (x:PW):Prop where
 aq:x.aq.length=x.ae.length/\x.ae.length<=100/\∀nd∈x.aq,nd.2.length<=900
 qt:∀p,(x.ahead p).length<=900/\∀q∈x.ahead p,0<=q/\q<x.ae.length
 wM:∀p q,(x.aY p q).length<=900/\∀t∈x.aY p q,T3 t
 vr:∀q,(x.aC q).length<=900/\∀t∈x.aC q,T3 t
 tM:∀p q,(x.lines p q).length<=900/\∀t∈x.lines p q,T3 t
 out:∀q,(x.out q).length<=900
 Dt:x.told.length<=900
structure Rep(w:Wd)(x:PW):Prop where
 Ot:w.words.ps= []
 Ou:w.words.buf.length<=100000
 UC:w.words.pos<=w.words.buf.length
 UD:w.words.buf.drop w.words.pos=x.rest
 zX:∃ep,w.gh=bR (.pv .none) 0 0 ep (ents x.aq.length) (aQ 0 x.aq)
 tM:∀p q,(w.lines p q).ps=x.lines p q
 Fy:∀p q,(w.lines p q).Quiet
 wM:w.aY=x.aY
 vr:w.aC=x.aC
 qt:w.ahead=x.ahead
 out:w.out=x.out
 tN:w.aP=x.aP
 Dt:w.told=x.told
 sM:w.ae=x.ae
noncomputable abbrev PW.take (x:PW)(q p:Nat)(a b m:Int)(ps:List (List Int)):PW:=
 {x with lines:=gJ x.lines p q ps,aY:=gJ x.aY p q (x.aY p q++ [[a,b,m]]),aP:=up1 x.aP q (imax (x.aP q) a+1),ahead:=up1 x.ahead q (x.ahead q++ [m]),aC:=up1 x.aC q (i7 (x.aC q) [a,b,m])}
noncomputable abbrev jk(x:PW)(q k:Nat):List Int:=((acj k).filter fun p=>decide (p≠q)).map fun p=>dY (x.aY p q)
noncomputable abbrev PW.put (x:PW)(q:Nat):PW:=
 {x with aC:=up1 x.aC q (kg (fC (jk x q 3)) (x.aC q).length (x.aC q) (x.out q)).1,out:=up1 x.out q (kg (fC (jk x q 3)) (x.aC q).length (x.aC q) (x.out q)).2}
noncomputable abbrev PW.fM (x:PW)(p:Nat):List Int:= [x.aP p+1,(p:Int),x.ae.length]
noncomputable abbrev PW.send (x:PW)(p:Nat)(word rst:List Nat):PW where
 rest:=rst
 aq:=i3 x.aq.length (x.ahead p) (x.aq++ [(((x.ahead p).length:Int),[])])
 lines:=fun a b=>if a=p/\b<3/\b≠p then x.lines a b++ [x.fM p]else x.lines a b
 aY:=x.aY
 aC:=up1 x.aC p (i7 (x.aC p) (x.fM p))
 ahead:=up1 x.ahead p [(x.ae.length:Int)]
 out:=x.out
 aP:=up1 x.aP p (x.aP p+1)
 told:=x.told++ [word]
 ae:=x.ae++ [x.fM p]
variable{e:Fm}
theorem my(hx:Cx e)(hk:e.k=k+6)(hr:Rep w x)(hq:q<3)(hp:p<3)(hl:x.lines p q= []):af e [.ref 0,.pv (.int q),.pv (.int p)] (.ref 942) w.aj fun v σ=>v= .pv (.bool false)/\∃w',σ=w'.aj/\Rep w' x:=by
 refine(wq hx hk hq hp (hr.Fy p q) ((hr.tM p q).trans hl)).mono fun v σ hv=> ?_;obtain⟨rfl,ln,rfl⟩:=hv;refine⟨rfl,_,rfl,hr.Ot,hr.Ou,hr.UC,hr.UD,hr.zX,fun a b=> ?_,fun a b=> ?_,hr.wM,hr.vr,hr.qt,hr.out,hr.tN,hr.Dt,hr.sM⟩
 ·show(gJ w.lines p q _ a b).ps=_;unfold gJ;split
  ·rename_i h;obtain⟨rfl,rfl⟩:=h;exact hr.tM a b
  ·exact hr.tM a b
 ·show(gJ w.lines p q _ a b).Quiet;unfold gJ;split
  ·rename_i h;obtain⟨rfl,rfl⟩:=h;exact hr.Fy a b
  ·exact hr.Fy a b
theorem mz(hx:Cx e)(hk:e.k=k+6)(hr:Rep w x)(ok:x.Ok)(hq:q<3)(hp:p<3)(hl:x.lines p q= [a,b,m]::ps):af e [.ref 0,.pv (.int q),.pv (.int p)] (.ref 942) w.aj fun v σ=>v= .pv (.bool true)/\∃w',σ=w'.aj/\Rep w' (x.take q p a b m ps):=by
 have h1:=(ok.wM p q).1;have h2:=(ok.qt q).1;have h3:=(ok.vr q).1;refine(wu hx hk hq hp ((hr.tM p q).trans hl) (by rw[hr.wM];exact bY 0x186a05fb093843f0918 h1) (by rw[hr.qt];exact bY 0x186a05fb093843f0918 h2) (by rw[hr.vr];exact bY 0x186a05fb093843f0918 h3)).mono fun v σ hv=> ?_;obtain⟨rfl,rfl⟩:=hv;refine⟨rfl,_,rfl,hr.Ot,hr.Ou,hr.UC,hr.UD,hr.zX,fun c d=> ?_,fun c d=> ?_,?_,?_,?_,hr.out,?_,hr.Dt,hr.sM⟩
 ·show(gJ w.lines p q _ c d).ps=gJ x.lines p q ps c d;unfold gJ;split
  ·rfl
  ·exact hr.tM c d
 ·show(gJ w.lines p q _ c d).Quiet;unfold gJ;split
  ·rename_i h;obtain⟨rfl,rfl⟩:=h;exact hr.Fy c d
  ·exact hr.Fy c d
 ·show gJ w.aY p q _=gJ x.aY p q _;rw[hr.wM]
 ·show up1 w.aC q _=up1 x.aC q _;rw[hr.vr]
 ·show up1 w.ahead q _=up1 x.ahead q _;rw[hr.qt]
 ·show up1 w.aP q _=up1 x.aP q _;rw[hr.tN]
theorem Ov(hx:Cx e)(hk:e.k=k+4)(hr:Rep w x)(ok:x.Ok){q:Nat}(hq:q<3):af e [.ref 0,.pv (.int q)] (.ref 947) w.aj fun v σ=>v= .pv .none/\∃w',σ=w'.aj/\Rep w' (x.put q):=by
 have t3:∀t,T3 t->0<t.length/\t.length<=1000:=fun t ht=>by refine hY ht fun a b m Ow=> ?_;subst Ow;simp
 refine(HS hx hk hq (fun p t ht=>t3 t ((ok.wM p q).2 t (by rw[<-hr.wM];exact ht))) (fun p=>by rw[hr.wM];have:=(ok.wM p q).1;exact bY 0x3e83f03843f0918 this) (fun t ht=>t3 t ((ok.vr q).2 t (by rw[<-hr.vr];exact ht))) (by rw[hr.vr,hr.out];have:=(ok.vr q).1;have:=ok.out q;lia)).mono fun v σ hv=>aI hv fun Ox Oy=> ?_;subst Ox;subst Oy;have vo:dP w q 3=jk x q 3:=by unfold dP;rw[hr.wM]
 refine⟨rfl,_,rfl,hr.Ot,hr.Ou,hr.UC,hr.UD,hr.zX,hr.tM,hr.Fy,hr.wM,?_,hr.qt,?_,hr.tN,hr.Dt,hr.sM⟩
 ·show up1 w.aC q _=up1 x.aC q _;rw[vo,hr.vr,hr.out]
 ·show up1 w.out q _=up1 x.out q _;rw[vo,hr.vr,hr.out]
theorem Oz(hx:Cx e)(hk:e.k=k+6)(hr:Rep w x)(ok:x.Ok){p:Nat}(hp:p<3)(Fv:ee x.rest=some (word,rest)):af e [.ref 0,.pv (.int p)] (.ref 935) w.aj fun v σ=>v= .pv .none/\∃w':Wd,σ=cU w' p x.ae.length/\Rep {w' with ahead:=up1 w'.ahead p [(x.ae.length:Int)]} (x.send p word rest):=by
 refine aA hr.zX fun ep Y2=> ?_;have h1:=ok.aq;have h2:=ok.qt p;refine(Di hx hk hp Y2 (by rw[hr.sM];exact h1.1.symm) (ba 0x3e83f0642f1910928 (bh h1.1) h1.2.1) (fun q hq=>by rw[hr.qt]at hq;have:=h2.2 q hq;exact⟨this.1,lx [_,_] [_] 0x18b0910908b09120 this.2 (bl h1.1)⟩) (by rw[hr.qt];exact bY 0x3e83f03843f0918 h2.1) (fun nd eC=>by have:=h1.2.2 nd eC;exact bY 0x3e83f03843f0918 this) hr.Ot hr.Ou hr.UC (by rw[hr.UD];exact Fv)
  (by rw[hr.Dt];have:=ok.Dt;exact bY 0x186a05fb093843f0918 this) (by rw[hr.vr];have:=(ok.vr p).1;exact bY 0x186a05fb093843f0918 this) (fun q=>by rw[hr.tM];have:=(ok.tM p q).1;exact bY 0x186a05fb093843f0918 this)).mono fun v σ hv=> ?_
 refine aI hv fun OA OB=> ?_;subst OA;refine Ga OB fun ln pos dJ YJ YK OC=> ?_;subst OC;have vp:w.ae.length=x.ae.length:=by rw[hr.sM]
 refine⟨rfl,vm w p ln pos word (bR (.pv .none) 0 0 dJ (ents (x.aq.length+1)) (aQ 0 (i3 x.aq.length (w.ahead p) (x.aq++ [(((w.ahead p).length:Int),[])])))),by rw[vp],hr.Ot,hr.Ou,YJ,YK,⟨dJ,?_⟩,fun a b=> ?_,fun a b=> ?_,hr.wM,?_,?_,hr.out,?_,?_,?_⟩
 ·show bR _ _ _ _ _ _=bR _ _ _ _ _ _;rw[rJ];simp only[aag,acn,acQ];rw[hr.qt]
 ·show(if a=p/\b<3/\b≠p then({w.lines a b with ps:=(w.lines a b).ps++ [[w.aP p+1,(p:Int),w.ae.length]]}:Line)else w.lines a b).ps=if a=p/\b<3/\b≠p then x.lines a b++ [x.fM p]else x.lines a b;split
  ·show(w.lines a b).ps++_=_;rw[hr.tM,hr.tN,vp]
  ·exact hr.tM a b
 ·show(if a=p/\b<3/\b≠p then({w.lines a b with ps:=(w.lines a b).ps++ [[w.aP p+1,(p:Int),w.ae.length]]}:Line)else w.lines a b).Quiet;split
  ·exact hr.Fy a b
  ·exact hr.Fy a b
 ·show up1 w.aC p _=up1 x.aC p _;rw[hr.vr,hr.tN,vp]
 ·show up1 w.ahead p _=up1 x.ahead p _;rw[hr.qt]
 ·show up1 w.aP p _=up1 x.aP p _;rw[hr.tN]
 ·show w.told++_=x.told++_;rw[hr.Dt]
 ·show w.ae++_=x.ae++_;rw[hr.tN,hr.sM]
end
section
noncomputable def gj(q p:Nat):List (List Int)->PW->PW
 | [],x=>x
 | t::ps,x=>gj q p ps (x.take q p (t.getD 0 0) (t.getD 1 0) (t.getD 2 0) ps)
noncomputable abbrev PW.drain (x:PW)(q p:Nat):PW:=if p=q then x else gj q p (x.lines p q) x
noncomputable def PW.b9 (x:PW)(q:Nat):Nat->PW
 | 0=>x
 | k+1=>(x.b9 q k).drain q k
noncomputable def PW.aV (x:PW):Nat->PW
 | 0=>x
 | k+1=>((x.aV k).b9 k 3).put k
abbrev pO:Scope:=au (st 39)
abbrev wN:Stmt:=at_ (ar (st 39)) 0
abbrev zY:Stmt:=at_ (ax wN) 0
abbrev emI:Stmt:=at_ (ax zY) 0
abbrev Fz:Stmt:=at_ (ax emI) 0
theorem Du:ar (st 39)= [wN]:=by kernel_rfl
theorem HT:wN= .For (.Name (s "q") (eI wN)) (.Call (.Name (s "range") (fJ (hG (aG wN)))) [(dE (aG wN)).headD z0] [] (s8 (aG wN))) (ax wN) [] (di wN):=by kernel_rfl
theorem HU:zY= .For (.Name (s "p") (eI zY)) (.Call (.Name (s "range") (fJ (hG (aG zY)))) [(dE (aG zY)).headD z0] [] (s8 (aG zY))) (ax zY) [] (di zY):=by kernel_rfl
theorem HV:Fz= .While (bU Fz) (ax Fz) [] (yy Fz):=by kernel_rfl
abbrev sN(q p:Int):List (Str×V):= [(s "world",.ref 0),(s "q",.pv (.int q)),(s "p",.pv (.int p))]
section
variable(P:Params)(e:Fm)(Q:AF->St->Prop)(K:V->St->Prop)
theorem OD(c:St):cM P pO (s "range") c K False=K (.glob (.type "range")) c:=by kernel_rfl
theorem Y3(c:St):ew e P pO 40 ((dE (aG wN)).headD z0) c K=K (.pv (.int 3)) c:=by kernel_rfl
theorem Y4(c:St):ew e P pO 40 ((dE (aG zY)).headD z0) c K=K (.pv (.int 3)) c:=by kernel_rfl
theorem Y5(c:St):cZ (xw e P pO 40) (ax wN) c Q=Wp e bN (exec zY e.env) c (fun fl c1=>match fl with | .next=>cZ (xw e P pO 40) ((ax wN).drop 1) c1 Q | fl=>Q fl c1):=by kernel_rfl
theorem Y6(q p:Int)(σ:List AO):cZ (xw e P pO 40) ((ax wN).drop 1) ⟨sN q p,σ⟩ Q=af e [.ref 0,.pv (.int q)] (.ref 947) σ fun Z σ'=>Q .next ⟨sN q p,σ'⟩:=by kernel_rfl
theorem Y7(q p:Int)(σ:List AO):cZ (xw e P pO 40) (ax zY) ⟨sN q p,σ⟩ Q=fL (p != q) (Wp e bN (exec Fz e.env) ⟨sN q p,σ⟩ (nextK (nextK Q))) (Q .next ⟨sN q p,σ⟩):=by kernel_rfl
theorem Y8(q p:Int)(σ:List AO)(QB:AF->St->Prop)(QE:St->Prop):qX e P pO (bU Fz) (ax Fz) ⟨sN q p,σ⟩ QB QE=af e [.ref 0,.pv (.int q),.pv (.int p)] (.ref 942) σ fun v σ'=>CH v ⟨sN q p,σ'⟩ (fun b c1=>fL b (QB .next c1) (QE c1)) (cP e cD v truthy ⟨sN q p,σ'⟩ fun b c1=>fL b (QB .next c1) (QE c1)):=by kernel_rfl
end
structure Inv(J:PW->Prop):Prop where
 ok:∀x,J x->x.Ok
 take:∀x q p a b m ps,J x->q<3->p<3->p≠q->x.lines p q= [a,b,m]::ps->J (x.take q p a b m ps)
 put:∀x q,J x->q<3->J (x.put q)
variable{e:Fm}
theorem zZ(hx:Cx e)(hk:e.k=k+6)(hs:e.scope=pO)(I:Inv J)(hr:Rep w x)(hj:J x){q p:Nat}(hq:q<3)(hp:p<3)(fF:p≠q):Wp e bN (exec Fz e.env) ⟨sN q p,w.aj⟩ fun fl c=>fl= .next/\∃w',c=⟨sN q p,w'.aj⟩/\Rep w' (gj q p (x.lines p q) x)/\J (gj q p (x.lines p q) x):=by
 refine Wp.gen fun K9 jf=> ?_;rw[HV];refine jF hx (fun a:Wd=>⟨sN q p,a.aj⟩) (fun n a=>∃y,Rep a y/\J y/\n=(y.lines p q).length/\gj q p (y.lines p q) y=gj q p (x.lines p q) x) (fun n a hI=> ?_) (x.lines p q).length w ⟨x,hr,hj,rfl,rfl⟩ (Le.refl _);refine nf hI fun y hry Y9 hn he=> ?_;rw[hs];refine of_eq (Y8 _ e q p _ _ _) ?_;cases hl:y.lines p q with
 | nil=>refine(my hx hk hry hq hp hl).mono fun v σ hv=> ?_;obtain⟨rfl,w',rfl,rA⟩:=hv;rw[hl]at he;have he:y=_:=he;exact jf _ _ (⟨rfl,w',rfl,he ▸ rA,he ▸ Y9⟩)
 | cons t ps=>
  have ok:=I.ok y Y9;refine hY ((ok.tM p q).2 t (by rw[hl];exact .head _)) fun a' b m OE=> ?_;subst OE;refine(mz hx hk hry ok hq hp hl).mono fun v σ hv=> ?_;obtain⟨rfl,w',rfl,rA⟩:=hv;have e1:(y.take q p a' b m ps).lines p q=ps:=by show gJ _ _ _ _ _ _=_;unfold gJ;rw[if_pos ⟨rfl,rfl⟩]
  refine k5 ps.length w' ⟨by rw[hn,hl];simp,⟨y.take q p a' b m ps,rA,I.take y q p a' b m ps Y9 hq hp fF hl,by rw[e1],?_⟩,Le.refl _⟩;rw[e1,<-he,hl];rfl
theorem HW(hx:Cx e)(hk:e.k=k+7)(I:Inv J)(hr:Rep w x)(hj:J x):af e [.ref 0] (.ref 954) w.aj fun v σ=>v= .pv .none/\∃w',σ=w'.aj/\Rep w' (x.aV 3)/\J (x.aV 3):=by
 refine af.gen fun K9 jf=> ?_;refine df hx hk (Ww _) (names:= [s "world"]) (fun Z Z Z Z Z Z vs hv=>by refine aA (je hv) fun Z OF=> ?_;subst OF;kernel_rfl) (by kernel_rfl) fun e' aL hw cH hs=> ?_;rw[Du];refine aT ((j9 (Q:=fun fl c=>fl= .next/\∃w',c.aj=w'.aj/\Rep w' (x.aV 3)/\J (x.aV 3)) aL HT (by rw[hs];kernel_rfl) (fun Q=>by rw[hs];exact OD _ _ _) (by kernel_rfl) (by rw[hs];exact of_eq (Y3 _ e' _ _) ⟨rfl,rfl⟩) (lx [] [] 104857992456)
  (fun q c=>∃l w',(l= [(s "world",.ref 0)]\/∃a b,l=sN a b)/\c=⟨l,w'.aj⟩/\Rep w' (x.aV q)/\J (x.aV q)) ⟨_,w,.inl rfl,rfl,hr,hj⟩ (fun q c hq hI=> ?_) (fun c hI=> ?_)).mono fun fl c hc=> ?_)
 ·refine ng hI fun l w1 hl OG Dv z5=> ?_;subst OG;rw[hs];refine of_eq (Y5 _ e' _ _) ?_;have ll:∃l2,(l2= [(s "world",.ref 0),(s "q",.pv (.int q))]\/∃b,l2=sN q b)/\put l (s "q") (.pv (.int q))=l2:=by
   rcases hl with rfl | ⟨a,b,rfl⟩
   ·exact⟨_,.inl rfl,by kernel_rfl⟩
   ·exact⟨_,.inr ⟨b,rfl⟩,by kernel_rfl⟩
  refine ah ll fun l2 ll el2=> ?_;dsimp only;rw[el2];refine(j9 (Q:=fun fl c=>fl= .next/\∃b w',c=⟨sN q b,w'.aj⟩/\Rep w' ((x.aV q).b9 q 3)/\J ((x.aV q).b9 q 3)) aL HU (by rw[hs];kernel_rfl) (fun Q=>by rw[hs];exact OD _ _ _) (by kernel_rfl) (by rw[hs];exact of_eq (Y4 _ e' _ _) ⟨rfl,rfl⟩) (lx [] [] 104857992456)
   (fun p c=>∃l w',((p=0/\l= [(s "world",.ref 0),(s "q",.pv (.int q))])\/∃b,l=sN q b)/\c=⟨l,w'.aj⟩/\Rep w' ((x.aV q).b9 q p)/\J ((x.aV q).b9 q p)) ⟨l2,w1,ll.imp (fun z=>⟨rfl,z⟩) id,rfl,Dv,z5⟩ (fun p c hp hI=> ?_) (fun c hI=> ?_)).mono fun fl c hc=> ?_
  ·refine ng hI fun l3 w2 z6 OH FA HX=> ?_;subst OH;have el3:put l3 (s "p") (.pv (.int p))=sN q p:=by
    rcases z6 with⟨_,rfl⟩ | ⟨b,rfl⟩ <;> kernel_rfl
   rw[hs];dsimp only;rw[el3];refine of_eq (Y7 _ e' _ q p _) ?_;by_cases fF:p=q
   ·have:((p:Int) != (q:Int))=false:=by simp[fF]
    rw[this];refine k5 _ w2 ⟨.inr ⟨_,rfl⟩,rfl,?_,?_⟩
    ·show Rep w2 (((x.aV q).b9 q p).drain q p);unfold PW.drain;rw[if_pos fF];exact FA
    ·show J (((x.aV q).b9 q p).drain q p);unfold PW.drain;rw[if_pos fF];exact HX
   ·have:((p:Int) != (q:Int))=true:=by simp;lia
    rw[this];refine(zZ aL cH hs I FA HX hq hp fF).mono fun fl c hc=>aI hc fun OI OJ=> ?_;subst OI;refine bD OJ fun w3 OK Za vt=> ?_;subst OK;refine k5 _ w3 ⟨.inr ⟨_,rfl⟩,rfl,?_,?_⟩
    ·show Rep w3 (((x.aV q).b9 q p).drain q p);unfold PW.drain;rw[if_neg fF];exact Za
    ·show J (((x.aV q).b9 q p).drain q p);unfold PW.drain;rw[if_neg fF];exact vt
  ·refine ng hI fun l3 w2 z6 OL FA HX=> ?_;subst OL;rcases z6 with⟨z,_⟩ | ⟨b,rfl⟩
   ·exact Gh z
   ·exact⟨rfl,b,w2,rfl,FA,HX⟩
  ·refine aI hc fun OM ON=> ?_;subst OM;refine bG ON fun b w2 OO FA HX=> ?_;subst OO;refine of_eq (Y6 _ e' _ q b _) ((Ov (k:=k+2) aL (aac (ba 0xec199061f190918 (bh cH)) (ba 0x1ec099161f09918 (bl cH))) FA (I.ok _ HX) hq).mono fun v σ hv=>aI hv fun OP OQ=> ?_);subst OP;refine ah OQ fun w3 OS Za=>OS ▸ k5 _ w3 ⟨.inr ⟨_,_,rfl⟩,rfl,Za,I.put _ q HX hq⟩
 ·refine ng hI fun l w1 hl OT Dv z5=>OT ▸ ⟨rfl,w1,rfl,Dv,z5⟩
 ·refine aI hc fun OU OV=> ?_;subst OU;refine bD OV fun w1 h1 Dv z5=>cQ (jf _ _ ⟨rfl,w1,h1,Dv,z5⟩)
end
section
variable{e:Fm}{c:St}
theorem Dw(hs:c.aj[i]? =some (.vals .int xs))(h:Q (.pv (.tup xs)) c):cN e VR [.ref i] (fun vs=>call (.type "tuple") vs) c Q:=by refine .x7 (.r fun x ad m aa a n ha R E q=>n.lL hs ha fun its k' hm hi hz ho=> ?_);have hlen:=hi.length;rw[aaR]at hlen;refine call_tuple_list (aO ho) (fun h' hk=> ?_) (by have:=aD;simp;lia);have F':=n.F.keeps hk;have N':News e.h₀ e.L h' aa:=fun p hp=>⟨hk _ _ (n.N p hp).1,(n.N p hp).2⟩;refine bL (Fr.en F' N' (gw its)) fun F2 N2 hl=>aI ((n.heap F' N').more hl F2 N2) fun n2 x2=> ?_;exact q _ _ _ _ _ _ _ _ h n2 x2 ⟨_,its,rfl,.head _,ints_of hi⟩
theorem Dx(hs:c.aj[i]? =some (.vals kd xs))(h:Q (.pv .none) {c with aj:=c.aj.set i (.vals kd [])}):cN e VR [.ref i] (fun vs=>call (.builtin "list.clear") vs) c Q:=by
 refine .x7 (.r fun x ad m aa a n ha R E q=>n.lL hs ha fun its k' hm hi hz ho=> ?_);have hlen:=hi.length;rw[aaR]at hlen;by_cases h0:its= []
 ·obtain rfl:=h0.symm;have:xs= []:=acT (by simpa using hlen);refine cps fun _ zk=> ?_;subst this;refine zk ?_;clear zk;have BI:=n.N _ hm;refine call_meets PySem.F.slot_list_clear ⟨_,ho,rfl⟩ PySem.F.entry_list_clear (PySem.F.args_list_clear_1 _) (PySem.AutoSeq1.list_clear_list_0 a #[] k' (by decide)) ⟨ho,?_⟩;have e1:bB aa a (listOf #[] k')=aa:=by
   unfold bB
   conv=>rhs;rw[<-aeA aa]
   apply acH;intro p hp;split
   ·rename_i z;obtain⟨b,o⟩:=p;have z:b=a:=z;obtain rfl:=z.symm;rw[dz n.nd hp hm];rfl
   ·rfl
  have F':Fr e.h₀ e.L (x.heap.update a (Obj.mapSeq fun _=> #[])) m:=n.F.change (Heap.SameBut.update ..) BI.2.1 BI.2.2;have N':News e.h₀ e.L (x.heap.update a (Obj.mapSeq fun _=> #[])) aa:=by
   have N0:News e.h₀ e.L (x.heap.update a (Obj.mapSeq fun _=> #[])) (bB aa a (listOf #[] k')):=by exact dA n.nd hm n.N (Heap.SameBut.update ..) (Heap.get?_update_self (Obj.mapSeq fun _=> #[]) ho rfl)
   rw[e1]at N0;exact N0
  have e2:c.aj.set i (.vals kd [])=c.aj:=by
   apply adi;intro j;by_cases hj:j=i
   ·obtain rfl:=hj.symm;have bT:=(aab.mp hs).1;rw[hs,acK,if_pos rfl,if_pos bT]
   ·rw[acr (Ne.symm hj)]
  rw[e2]at h;exact q _ _ _ _ _ _ _ _ h (n.heap F' N') (Ext.refl ..) rfl
 ·refine kl_clear n.F n.N (cJ n.nd hm) (by simpa using h0) (by have:=aD;simp;lia) (fun h' F' N'=> ?_);have x':Ext ad aa ad (bB aa a (listOf #[] (k'+1))):=cf n.nd (Ad.bk ha) hm (by simp);exact q (.pv .none) .none _ h' x.toks ad m _ h (n.upd hs ha hm (by simp) F' N' ⟨[],k'+1,rfl,.nil,by simp⟩) x' rfl
end
abbrev iF:Scope:=au (cst 9 4)
abbrev sO(t:List Int):List (Str×V):= [(s "self",.ref 0),(s "result",.pv (.tup t)),(s "n2i",.ref 2)]
abbrev HY:Stmt:=at_ (ar (cst 9 4)) 3
abbrev Dy:Stmt:=at_ (ax HY) 0
theorem HZ:ax HY= [.Assign [.Attribute (.Subscript (dh (qC Dy)) (ec (qC Dy)) (aw (qC Dy))) (s "npredecessors") (aw (i6 0 Dy))] (ak Dy) (bZ Dy)]:=by kernel_rfl
section
variable(P:Params)(e:Fm)(Q:AF->St->Prop)(K:V->St->Prop)
theorem Zb(t:List Int)(l:List (Str×V))(σ:List AO):ew e P iF 40 (aG HY) ⟨sO t++l,σ⟩ K=K (.pv (.tup t)) ⟨sO t++l,σ⟩:=by kernel_rfl
theorem Zc(t:List Int)(k:Int)(σ:List AO):ew e P iF 40 (dh (qC Dy)) ⟨sO t++ [(s "node",.pv (.int k))],σ⟩ K=K (.ref 2) ⟨sO t++ [(s "node",.pv (.int k))],σ⟩:=by kernel_rfl
theorem Zd(t:List Int)(k:Int)(σ:List AO):ew e P iF 40 (ec (qC Dy)) ⟨sO t++ [(s "node",.pv (.int k))],σ⟩ K=K (.pv (.int k)) ⟨sO t++ [(s "node",.pv (.int k))],σ⟩:=by kernel_rfl
theorem Ze(c:St):ew e P iF 40 (ak Dy) c K=K (.pv (.int (-1))) c:=by kernel_rfl
end
section
noncomputable def dI:List Int->List Nd->List Nd
 | [],l=>l
 | r::rs,l=>dI rs (l.set r.toNat (-1,(l.getD r.toNat (0,[])).2))
theorem gY(rs:List Int):∀l:List Nd,(dI rs l).length=l.length:=by
 induction rs with
 | nil=>exact fun Z=>rfl
 | cons r rs ih=>exact fun l=>(ih _).trans acN
abbrev grC:Stmt:=at_ (ar (cst 9 4)) 4
abbrev UE:Expr:=ak grC
theorem z7:ar (cst 9 4)=(ar (cst 9 4)).take 3++(.For (.Name (s "node") (eI HY)) (aG HY) (ax HY) [] (di HY):: .Expr (.Call (.Attribute (aR UE) (s "clear") (aw (hG UE))) [] [] (aw UE)) (bZ grC)::(ar (cst 9 4)).drop 5):=by kernel_rfl
section
variable(P:Params)(e:Fm)(Q:AF->St->Prop)(K:V->St->Prop)
theorem Zf(i:Nat)(po fi:Int)(ep:Nat)(es:List (Int×V))(r:List AO):cZ (xw e P iF 40) ((ar (cst 9 4)).take 3) ⟨[(s "self",.ref 0)],bR (.ref i) po fi ep es r⟩ Q=cN e VR [.ref i] (fun dc=>call (.type "tuple") dc) ⟨[(s "self",.ref 0)],bR (.ref i) po fi ep es r⟩ fun v c1=>cZ (xw e P iF 40) [at_ (ar (cst 9 4)) 2] {c1 with loc:=put c1.loc (s "result") v} Q:=by kernel_rfl
theorem Zg(t:List Int)(i:Nat)(po fi:Int)(ep:Nat)(es:List (Int×V))(r:List AO):cZ (xw e P iF 40) [at_ (ar (cst 9 4)) 2] ⟨[(s "self",.ref 0),(s "result",.pv (.tup t))],bR (.ref i) po fi ep es r⟩ Q=Q .next ⟨sO t,bR (.ref i) po fi ep es r⟩:=by kernel_rfl
theorem Zh(t:List Int)(l:List (Str×V))(i:Nat)(po fi:Int)(ep:Nat)(es:List (Int×V))(r:List AO):ew e P iF 40 (aR UE) ⟨sO t++l,bR (.ref i) po fi ep es r⟩ K=K (.ref i) ⟨sO t++l,bR (.ref i) po fi ep es r⟩:=by kernel_rfl
theorem Zi(i:Nat)(c:St):mQ e P iF 39 [] K (.builtin "list.clear",[.ref i]) c=cN e VR [.ref i] (fun dc=>call (.builtin "list.clear") dc) c K:=by kernel_rfl
theorem Zj(t:List Int)(l:List (Str×V))(i:Nat)(po fi:Int)(ep:Nat)(es:List (Int×V))(r:List AO):cZ (xw e P iF 40) ((ar (cst 9 4)).drop 5) ⟨sO t++l,bR (.ref i) po fi ep es r⟩ Q= cN e VR [.pv (.tup t)] (fun dc=>call (.builtin "len") dc) ⟨sO t++l,bR (.ref i) po fi ep es r⟩ (fun v c3=>iw .Add (.pv (.int po)) v c3 (fun rr c4=>Fc P (.ref 0) (s "_npassedout") rr c4 (fun Z c5=>cZ (xw e P iF 40) ((ar (cst 9 4)).drop 6) c5 Q) (bM e cD (.ref 0) rr (fun o v=>setAttr o (s "_npassedout") v) c4 fun(_:Unit) c5=>cZ (xw e P iF 40) ((ar (cst 9 4)).drop 6) c5 Q)) (bM e VR (.pv (.int po)) v (inplaceOp .Add) c3 fun rr c4=>Fc P (.ref 0) (s "_npassedout") rr c4 (fun Z c5=>cZ (xw e P iF 40) ((ar (cst 9 4)).drop 6) c5 Q) (bM e cD (.ref 0) rr (fun o v=>setAttr o (s "_npassedout") v) c4 fun(_:Unit) c5=>cZ (xw e P iF 40) ((ar (cst 9 4)).drop 6) c5 Q))):=by kernel_rfl
theorem Zk(t:List Int)(l:List (Str×V))(i:Nat)(po fi x:Int)(ep:Nat)(es:List (Int×V))(r:List AO)(F G:Prop):iw .Add (.pv (.int po)) (.pv (.int x)) ⟨sO t++l,bR (.ref i) po fi ep es r⟩ (fun rr c4=>Fc P (.ref 0) (s "_npassedout") rr c4 (fun Z c5=>cZ (xw e P iF 40) ((ar (cst 9 4)).drop 6) c5 Q) (bM e cD (.ref 0) rr (fun o v=>setAttr o (s "_npassedout") v) c4 fun(_:Unit) c5=>cZ (xw e P iF 40) ((ar (cst 9 4)).drop 6) c5 Q)) G=Q (.ret (.pv (.tup t))) ⟨sO t++l,bR (.ref i) (po+x) fi ep es r⟩:=by kernel_rfl
theorem Zl(t:List Int):put [(s "self",V.ref 0)] (s "result") (.pv (.tup t))= [(s "self",.ref 0),(s "result",.pv (.tup t))]:=by kernel_rfl
theorem Zm:look iF.names (s "node")=some .local:=by kernel_rfl
theorem Zn(t:List Int)(l:List (Str×V))(hl:l= []\/∃u,l= [(s "node",u)])(v:V):put (sO t++l) (s "node") v=sO t++ [(s "node",v)]:=by rcases hl with rfl | ⟨u,rfl⟩ <;> kernel_rfl
end
abbrev rN(po fi:Int)(ep:Nat)(aq:List Nd)(rs:List Int)(g:List AO):List AO:=bR (.ref (3+3*aq.length)) po fi ep (ents aq.length) (aQ 0 aq++ .vals .int rs::g)
theorem lC(po fi:Int)(ep:Nat)(aq:List Nd)(rs:List Int)(g:List AO)(x:List AO)(R:V)(es:List (Int×V))(h:x.length=3*aq.length):(bR R po fi ep es (x++ .vals .int rs::g))[3+3*aq.length]? =some (.vals .int rs):=by rw[show 3+3*aq.length=3*aq.length+3 by lia];show(x++ .vals .int rs::g)[3*aq.length]? =_;rw[<-h];simp
theorem lD(po fi:Int)(ep:Nat)(aq:List Nd)(rs sP:List Int)(g:List AO)(x:List AO)(R:V)(es:List (Int×V))(h:x.length=3*aq.length):(bR R po fi ep es (x++ .vals .int rs::g)).set (3+3*aq.length) (.vals .int sP)=bR R po fi ep es (x++ .vals .int sP::g):=by rw[show 3+3*aq.length=3*aq.length+3 by lia];show _::_::_::(x++ .vals .int rs::g).set (3*aq.length) _=_;rw[<-h];simp
variable{e:Fm}
theorem rO(hx:Cx e)(hk:e.k=k+1)(hrs:∀r∈rs,0<=r/\r<aq.length)(hz:rs.length<=1000):af e [.ref 0] (.ref 159) (rN po fi ep aq rs g) fun v σ=>v= .pv (.tup rs)/\σ=rN (po+rs.length) fi ep (dI rs aq) [] g:=by
 refine df hx hk (WH _) (names:= [s "self"]) (fun Z Z Z Z Z Z vs hv=>by refine aA (je hv) fun Z OW=> ?_;subst OW;kernel_rfl) (by kernel_rfl) fun e' aL hw cH hs=> ?_;rw[z7];refine b8 aL hs (of_eq (Zf _ e' _ (3+3*aq.length) po fi ep _ _) (Dw (lC po fi ep aq rs g _ _ _ (fg aq 0)) ?_));dsimp only;rw[Zl];refine of_eq (Zg _ e' _ rs (3+3*aq.length) po fi ep _ _) (aT ?_);refine gU aL (hs ▸ Zm) (fun Z=>rfl) (fun j c=>∃l L,(l= []\/∃u,l= [(s "node",u)])/\c=⟨sO rs++l,bR (.ref (3+3*aq.length)) po fi ep (ents aq.length) (aQ 0 L++ .vals .int rs::g)⟩/\L.length=aq.length/\dI (rs.drop j) L=dI rs aq)
  (ji aL (aB aL hs (Zb _ e' _ rs [] _) ⟨rfl,[],aq,.inl rfl,rfl,rfl,by rfl⟩)) (fun j u c hu hI Z=> ?_) (fun c hI Z=> ?_)
 ·refine ng hI fun l L hl OX hL he=> ?_;subst OX;simp only[aa0,abh]at hu;refine ah hu fun r hr OY=> ?_;subst OY;have yh:=(aab.mp hr).1;have h0:=hrs r (abW hr);refine aA (⟨adH r,(abC h0.1).symm⟩:∃q:Nat,r=(q:Int)) fun q OZ=> ?_;subst OZ;dsimp only[Kd.inj];rw[Zn rs l hl,HZ];have hqL:q<L.length:=bj 0x2b0921918b089128 h0.2 (bl hL);have eC:=eL (d:=((0,[]):Nd)) hqL;refine bL (gi (R:=.ref (3+3*aq.length)) (po:=po) (fi:=fi) (ep:=ep) (es:=ents aq.length) (g:=.vals .int rs::g) eC) fun g1 g2 g3=>aT (cq rfl (aB aL hs (Ze _ e' _ _) (dj (aB aL hs (Zc _ e' _ rs q _) (aB aL hs (Zd _ e' _ rs q _) (pF (by kernel_rfl) rfl (fD (acL.mp h0.2)) (eF aL g2 g1 (eE _).2.1 (lx [] [] 268502284552) (cQ ⟨⟨[(s "node",.pv (.int q))],L.set q (-1,(L.getD q (0,[])).2),.inr ⟨_,rfl⟩,?_,?_,?_⟩,trivial⟩))))))))
  ·have:=ly (R:=.ref (3+3*aq.length)) (po:=po) (fi:=fi) (ep:=ep) (es:=ents aq.length) (g:=.vals .int rs::g) (-1) eC;dsimp only;rw[<-this];rfl
  ·simpa using hL
  ·rw[<-he,acs yh];have:rs[j]=(q:Int):=by rw[aad yh]at hr;exact aah.inj hr
   rw[this];rfl
 ·refine ng hI fun l L hl O0 hL he=> ?_;subst O0;rw[aaR,aec]at he;have he:L=dI rs aq:=he;subst he;have jg:(aQ 0 (dI rs aq)).length=3*aq.length:=by rw[fg,gY]
  have hg:=lC po fi ep aq rs g _ (.ref (3+3*aq.length)) (ents aq.length) jg;refine aT (gO aL.hk (aH rfl _ _ _) (dp aL (by kernel_rfl) rfl (acy _) (by kernel_rfl) (aB aL hs (Zh _ e' _ rs l _ po fi ep _ _) fun pl=>gP hg (.inl ⟨_,_,rfl⟩) PySem.F.slot_list_clear PySem.F.type_list_clear (rI aL (n:=39) rfl ?_ _))));rw[hs];refine of_eq (Zi _ e' _ _ _) (Dx hg ?_);dsimp only;rw[lD po fi ep aq rs [] g _ _ _ jg];refine bJ aL hs (of_eq (Zj _ e' _ rs l _ po fi ep _ _) (zJ (bY 0x186a05f03e83f0918 hz) (of_eq (Zk _ e' _ rs l _ po fi _ ep _ _ True _) ⟨rfl,?_⟩)));rw[<-gY rs aq]
end
noncomputable def d0:List Int->List Nd×List Int->List Nd×List Int
 | [],a=>a
 | x::xs,a=>d0 xs (a.1.set x.toNat ((a.1.getD x.toNat (0,[])).1-1,(a.1.getD x.toNat (0,[])).2),if(a.1.getD x.toNat (0,[])).1-1=0 then a.2++ [x]else a.2)
abbrev eV:Scope:=au (cst 9 7)
abbrev vu:Stmt:=at_ (ar (cst 9 7)) 2
abbrev Zo:Stmt:=at_ (ax vu) 0
abbrev O1:Stmt:=at_ (ax vu) 1
abbrev Kb:Stmt:=at_ (ax vu) 3
abbrev z8:Stmt:=at_ (ax vu) 4
abbrev yi:Expr:=bU Zo
abbrev H5:Stmt:=at_ (ax z8) 0
abbrev Kc:Stmt:=at_ (ax z8) 1
abbrev FC:Stmt:=at_ (ax z8) 2
abbrev H6:Stmt:=at_ (ax FC) 0
theorem Dz:ar (cst 9 7)=(ar (cst 9 7)).take 2++ [.For (.Name (s "node") (eI vu)) (aG vu) (ax vu) [] (di vu)]:=by kernel_rfl
theorem z9:ax vu= .If yi (ax Zo) [] (bZ Zo):: .Assign [.Name (s "stat") (aw (i6 0 O1))] (.Attribute (aR (ak O1)) (s "npredecessors") (aw (ak O1))) (bZ O1)::([at_ (ax vu) 2]++(.Assign [.Attribute (qC Kb) (s "npredecessors") (aw (i6 0 Kb))] (ak Kb) (bZ Kb):: .For (.Name (s "successor") (eI z8)) (.Attribute (aR (aG z8)) (s "successors") (aw (aG z8))) (ax z8) [] (di z8)::(ax vu).drop 5)):=by kernel_rfl
theorem H7:yi= .Compare (.NamedExpr (.Name (s "nodeinfo") (aw (nxT (gM yi)))) (EX (gM yi)) (aw (gM yi))) [.Is] [.Constant .none 0 (fJ (rE yi))] (aw yi):=by kernel_rfl
theorem Aa:ax z8= [.Assign [.Name (s "successor_info") (aw (i6 0 H5))] (.Subscript (dh (ak H5)) (ec (ak H5)) (aw (ak H5))) (bZ H5),.AugAssign (.Attribute (Ci Kc) (s "npredecessors") (K7 Kc)) .Sub (Cj Kc) (bZ Kc),.If (.Compare (.Attribute (aR (gM (bU FC))) (s "npredecessors") (aw (gM (bU FC)))) [.Eq] [rE (bU FC)] (aw (bU FC))) [.Expr (.Call (.Attribute (aR (ak H6)) (s "append") (aw (hG (ak H6)))) (dE (ak H6)) [] (aw (ak H6))) (bZ H6)] [] (bZ FC)]:=by kernel_rfl
abbrev H8(v:Int):List (Str×V):= [(s "self",.ref 0),(s "nodes",.pv (.tup [v])),(s "n2i",.ref 2)]
abbrev FD(v:Int):List (Str×V):=H8 v++ [(s "node",.pv (.int v))]
abbrev Ke(v:Int)(i:V):List (Str×V):=FD v++ [(s "nodeinfo",i)]
abbrev yj(v:Int)(i:V)(x:Int):List (Str×V):=Ke v i++ [(s "stat",.pv (.int x))]
section
variable(P:Params)(e:Fm)(Q:AF->St->Prop)(K:V->St->Prop)
theorem Zp(v:Int)(i:Nat)(po fi:Int)(ep:Nat)(es:List (Int×V))(r:List AO):cZ (xw e P eV 40) ((ar (cst 9 7)).take 2) ⟨[(s "self",.ref 0),(s "nodes",.pv (.tup [v]))],bR (.ref i) po fi ep es r⟩ Q=Q .next ⟨H8 v,bR (.ref i) po fi ep es r⟩:=by kernel_rfl
theorem Zq(v:Int)(σ:List AO):ew e P eV 40 (aG vu) ⟨H8 v,σ⟩ K=K (.pv (.tup [v])) ⟨H8 v,σ⟩:=by kernel_rfl
theorem Zr(v:Int)(i:Nat)(po fi:Int)(ep:Nat)(es:List (Int×V))(r:List AO):ew e P eV 40 (EX (gM yi)) ⟨FD v,bR (.ref i) po fi ep es r⟩ K=∀pl,cP e MR (.ref 2) (fun v=>getMethod v (s "get") pl) ⟨FD v,bR (.ref i) po fi ep es r⟩ (mQ e P eV 39 (dE (EX (gM yi))) K):=by kernel_rfl
theorem Zs(v:Int)(σ:List AO):mQ e P eV 39 (dE (EX (gM yi))) K (.builtin "dict.get",[.ref 2]) ⟨FD v,σ⟩=cN e VR [.ref 2,.pv (.int v)] (fun dc=>call (.builtin "dict.get") dc) ⟨FD v,σ⟩ K:=by kernel_rfl
theorem Zt(v:Int)(i:V)(σ:List AO):ew e P eV 40 (aR (ak O1)) ⟨Ke v i,σ⟩ K=K i ⟨Ke v i,σ⟩:=by kernel_rfl
theorem Zu(v:Int)(i:V)(σ:List AO):cZ (xw e P eV 40) [at_ (ax vu) 2] ⟨yj v i (-1),σ⟩ Q=Q .next ⟨yj v i (-1),σ⟩:=by kernel_rfl
theorem Zv(v:Int)(i:V)(x:Int)(σ:List AO):ew e P eV 40 (qC Kb) ⟨yj v i x,σ⟩ K=K i ⟨yj v i x,σ⟩:=by kernel_rfl
theorem Zw(c:St):ew e P eV 40 (ak Kb) c K=K (.pv (.int (-2))) c:=by kernel_rfl
theorem Zx(v:Int)(i:V)(x:Int)(σ:List AO):ew e P eV 40 (aR (aG z8)) ⟨yj v i x,σ⟩ K=K i ⟨yj v i x,σ⟩:=by kernel_rfl
theorem Zy(v:Int)(i:V)(x:Int)(l:List (Str×V))(k:Nat)(po fi:Int)(ep:Nat)(es:List (Int×V))(r:List AO):cZ (xw e P eV 40) ((ax vu).drop 5) ⟨yj v i x++l,bR (.ref k) po fi ep es r⟩ Q=Q .next ⟨yj v i x++l,bR (.ref k) po (fi+1) ep es r⟩:=by kernel_rfl
abbrev FE(v:Int)(i:V)(x y:Int):List (Str×V):=yj v i x++ [(s "successor",.pv (.int y))]
theorem Zz(v:Int)(i:V)(x y:Int)(l:List (Str×V))(σ:List AO):ew e P eV 40 (dh (ak H5)) ⟨FE v i x y++l,σ⟩ K=K (.ref 2) ⟨FE v i x y++l,σ⟩:=by kernel_rfl
theorem ZA(v:Int)(i:V)(x y:Int)(l:List (Str×V))(σ:List AO):ew e P eV 40 (ec (ak H5)) ⟨FE v i x y++l,σ⟩ K=K (.pv (.int y)) ⟨FE v i x y++l,σ⟩:=by kernel_rfl
abbrev BV(v:Int)(i:V)(x y:Int)(j:V):List (Str×V):=FE v i x y++ [(s "successor_info",j)]
theorem ZC(v:Int)(i:V)(x y:Int)(j:V)(σ:List AO):ew e P eV 40 (Ci Kc) ⟨BV v i x y j,σ⟩ K=K j ⟨BV v i x y j,σ⟩:=by kernel_rfl
theorem ZD(c:St):ew e P eV 40 (Cj Kc) c K=K (.pv (.int 1)) c:=by kernel_rfl
theorem ZE(v:Int)(i:V)(x y:Int)(j:V)(σ:List AO):ew e P eV 40 (aR (gM (bU FC))) ⟨BV v i x y j,σ⟩ K=K j ⟨BV v i x y j,σ⟩:=by kernel_rfl
theorem ZF(c:St):ew e P eV 40 (rE (bU FC)) c K=K (.pv (.int 0)) c:=by kernel_rfl
theorem ZG(v:Int)(i:V)(x y:Int)(j:V)(k:Nat)(po fi:Int)(ep:Nat)(es:List (Int×V))(r:List AO):ew e P eV 40 (aR (ak H6)) ⟨BV v i x y j,bR (.ref k) po fi ep es r⟩ K=K (.ref k) ⟨BV v i x y j,bR (.ref k) po fi ep es r⟩:=by kernel_rfl
theorem ZH(v:Int)(i:V)(x y:Int)(j:V)(k:Nat)(σ:List AO):mQ e P eV 39 (dE (ak H6)) K (.builtin "list.append",[.ref k]) ⟨BV v i x y j,σ⟩=gD e (.builtin "list.append") [.ref k,.pv (.int y)] ⟨BV v i x y j,σ⟩ K:=by kernel_rfl
theorem ZI(v:Int):put (H8 v) (s "node") (.pv (.int v))=FD v:=by kernel_rfl
theorem ZJ(v:Int)(i:V):put (FD v) (s "nodeinfo") i=Ke v i:=by kernel_rfl
theorem ZK(v:Int)(i:V)(x:Int):put (Ke v i) (s "stat") (.pv (.int x))=yj v i x:=by kernel_rfl
theorem ZL(v:Int)(i:V)(x y:Int)(l:List (Str×V))(hl:l= []\/∃u j,l= [(s "successor",u),(s "successor_info",j)]):put (yj v i x++l) (s "successor") (.pv (.int y))=FE v i x y++l.drop 1:=by rcases hl with rfl | ⟨u,j,rfl⟩ <;> kernel_rfl
theorem ZM(v:Int)(i:V)(x y:Int)(l:List (Str×V))(hl:l= []\/∃j,l= [(s "successor_info",j)])(j:V):put (FE v i x y++l) (s "successor_info") j=BV v i x y j:=by rcases hl with rfl | ⟨j',rfl⟩ <;> kernel_rfl
theorem rP:look eV.names (s "node")=some .local/\look eV.names (s "nodeinfo")=some .local/\look eV.names (s "stat")=some .local/\look eV.names (s "successor")=some .local/\look eV.names (s "successor_info")=some .local:=by and_intros<;>kernel_rfl
end
section
theorem Ab(xs:List Int):∀a:List Nd×List Int,(d0 xs a).1.length=a.1.length:=by
 induction xs with
 | nil=>exact fun Z=>rfl
 | cons x xs ih=>exact fun a=>(ih _).trans acN
variable{e:Fm}
abbrev sQ(N:Nat)(po fi:Int)(ep:Nat)(L:List Nd)(rs:List Int)(g:List AO):List AO:=bR (.ref (3+3*N)) po fi ep (ents N) (aQ 0 L++ .vals .int rs::g)
theorem pP(h:L.length=N):(sQ N po fi ep L rs g)[3+3*N]? =some (.vals .int rs):=by subst h;exact lC po fi ep L rs g _ _ _ (fg L 0)
theorem DA(h:L.length=N):(sQ N po fi ep L rs g).set (3+3*N) (.vals .int sP)=sQ N po fi ep L sP g:=by subst h;exact lD po fi ep L rs sP g _ _ _ (fg L 0)
theorem DB(hx:Cx e)(hs:e.scope=eV){N:Nat}{v:Int}{i:V}{x:Int}{y:Nat}(hy:y<N){l:List (Str×V)}(hl:l= []\/∃j,l= [(s "successor_info",j)]){po fi:Int}{ep:Nat}{L:List Nd}{rs:List Int}{g:List AO}(hL:L.length=N)(hz:rs.length<100000) (h:Q .next ⟨BV v i x y (.ref (4+3*y)),sQ N po fi ep (L.set y ((L.getD y (0,[])).1-1,(L.getD y (0,[])).2)) (if(L.getD y (0,[])).1-1=0 then rs++ [(y:Int)]else rs) g⟩):Wp e bN (execs (ax z8) e.env) ⟨FE v i x y++l,sQ N po fi ep L rs g⟩ Q:=by
 rw[Aa];have hyL:y<L.length:=ab3 hy (bl hL);have eC:=eL (d:=((0,[]):Nd)) hyL;refine bL (gi (R:=.ref (3+3*N)) (po:=po) (fi:=fi) (ep:=ep) (es:=ents N) (g:=.vals .int rs::g) eC) fun g1 g2 g3=>aT (cR (aH rfl _ _ _) (dj (aB hx hs (Zz _ e _ v i x y l _) (aB hx hs (ZA _ e _ v i x y l _) (pF (by kernel_rfl) rfl (fD hy) (cE hx (hs ▸ rP.2.2.2.2) ?_))))));dsimp only;rw[ZM v i x y l hl];refine aT (jZ (aB hx hs (ZC _ e _ v i x y _ _) (dB hx g2 g1 (ef _).2.1 rfl rfl (aB hx hs (ZD _ e _ _) (yL (eF hx g2 g1 (eE _).2.1 (lx [] [] 268502284552) ?_))))));have e1:=ly (R:=.ref (3+3*N)) (po:=po) (fi:=fi) (ep:=ep) (es:=ents N) (g:=.vals .int rs::g) ((L.getD y (0,[])).1-1) eC;have e2:(sQ N po fi ep L rs g).set (4+3*y) (.slot 100 (3+3*y) (rz [some (.pv (.int y)),some (.pv (.int (L.getD y (0,[])).1)),some (.ref (5+3*y))] 1 (.pv (.int ((L.getD y (0,[])).1-1)))))=sQ N po fi ep (L.set y ((L.getD y (0,[])).1-1,(L.getD y (0,[])).2)) rs g:=e1;dsimp only;rw[e2];have ZN:(L.set y ((L.getD y (0,[])).1-1,(L.getD y (0,[])).2)).length=N:=by simpa using hL
 have ZO:(L.set y ((L.getD y (0,[])).1-1,(L.getD y (0,[])).2))[y]? =some ((L.getD y (0,[])).1-1,(L.getD y (0,[])).2):=by rw[acK,if_pos rfl,if_pos hyL]
 refine bL (gi (R:=.ref (3+3*N)) (po:=po) (fi:=fi) (ep:=ep) (es:=ents N) (g:=.vals .int rs::g) ZO) fun k1 k2 k3=>aT (oX (eB rfl (b6 (by kernel_rfl) (aB hx hs (ZE _ e _ v i x y _ _) (dB hx k2 k1 (ef _).2.1 rfl rfl (aB hx hs (ZF _ e _ _) (GK (cG ⟨fun z=> ?_,fun z=> ?_⟩))))))))
 ·have z:(L.getD y (0,[])).1-1=0:=by simpa using z
  rw[if_pos z]at h;refine aT (gO hx.hk (aH rfl _ _ _) (dp hx (by kernel_rfl) (by kernel_rfl) (of_decide_eq_true (by kernel_rfl)) (by kernel_rfl) (aB hx hs (ZG _ e _ v i x y _ _ po fi ep _ _) fun pl=>gP (pP ZN) (.inl ⟨_,_,rfl⟩) PySem.F.slot_list_append PySem.F.type_list_append (rI hx (n:=39) (by kernel_rfl) ?_ _))));rw[hs];refine of_eq (ZH _ e _ v i x y _ _ _) (fW (pP ZN) rfl hz (cQ (cQ ?_)));dsimp only;rw[DA ZN];exact h
 ·have z:¬(L.getD y (0,[])).1-1=0:=by simpa using z
  rw[if_neg z]at h;exact cQ (cQ h)
theorem DC(hx:Cx e){k:Nat}(hk:e.k=k+1){aq:List Nd}{rs:List Int}{po fi:Int}{ep:Nat}{g:List AO}(hv:v<aq.length)(i4:(aq.getD v (0,[])).1= -1)(CN:∀r∈(aq.getD v (0,[])).2,0<=r/\r<aq.length)(hz:rs.length+(aq.getD v (0,[])).2.length<100000):af e [.ref 0,.pv (.int v)] (.ref 180) (rN po fi ep aq rs g) fun u σ=>u= .pv .none/\σ=rN po (fi+1) ep (d0 (aq.getD v (0,[])).2 (aq.set v (-2,(aq.getD v (0,[])).2),rs)).1 (d0 (aq.getD v (0,[])).2 (aq.set v (-2,(aq.getD v (0,[])).2),rs)).2 g:=by
 have key:=zy (e:=e) (k:=k) hx hk (WJ _) (names:= [s "self"]) (nr:=s "nodes") (us:= [.ref 0]) (ns:= [(v:Int)]) (σ:=rN po fi ep aq rs g) (acy _) rfl (fun Z Z Z Z Z Z vs rs hv=>by refine aA (je hv) fun Z O2=> ?_;subst O2;cases rs <;> kernel_rfl) (by kernel_rfl) (Q:=fun u σ=>u= .pv .none/\σ=rN po (fi+1) ep (d0 (aq.getD v (0,[])).2 (aq.set v (-2,(aq.getD v (0,[])).2),rs)).1 (d0 (aq.getD v (0,[])).2 (aq.set v (-2,(aq.getD v (0,[])).2),rs)).2 g) fun e' aL hw cH hs=> ?_
 ·exact key
 rw[Dz];refine b8 aL hs (of_eq (Zp _ e' _ v (3+3*aq.length) po fi ep _ _) (aT ?_));refine aA (⟨_,rfl⟩:∃N,aq.length=N) fun N hN=>aA (⟨_,rfl⟩:∃nd,aq.getD v (0,[])=nd) fun nd O3=> ?_;have eC:aq[v]? =some nd:=by rw[<-O3];exact eL hv
 rw[O3]at i4 CN hz ⊢;have ZP:∀L sP,(L,sP)=d0 nd.2 (aq.set v (-2,nd.2),rs)->sQ N po (fi+1) ep L sP g=rN po (fi+1) ep (d0 nd.2 (aq.set v (-2,nd.2),rs)).1 (d0 nd.2 (aq.set v (-2,nd.2),rs)).2 g:=fun L sP h=>by
  have hl:=Ab nd.2 (aq.set v (-2,nd.2),rs);rw[<-h]at hl ⊢;have hl:L.length=N:=by simpa[hN]using hl
  show sQ N _ _ _ _ _ _=sQ L.length _ _ _ _ _ _;rw[hl]
 show Wp e' bN _ ⟨H8 v,bR (.ref (3+3*aq.length)) po fi ep (ents aq.length) (aQ 0 aq++ .vals .int rs::g)⟩ _;rw[hN]at hv CN ⊢;refine gU aL (hs ▸ rP.1) (fun Z=>rfl) (us:=yg .int [(v:Int)]) (K:=fun Z=>True) (fun j c=>(j=0/\c=⟨H8 v,sQ N po fi ep aq rs g⟩)\/(j=1/\c.aj=rN po (fi+1) ep (d0 nd.2 (aq.set v (-2,nd.2),rs)).1 (d0 nd.2 (aq.set v (-2,nd.2),rs)).2 g))
  (ji aL (aB aL hs (Zq _ e' _ v _) ⟨rfl,.inl ⟨rfl,rfl⟩⟩)) (fun j u c hu hI Z=> ?_) (fun c hI Z=> ?_)
 ·rcases hI with⟨rfl,rfl⟩ | ⟨rfl,_⟩
  ·simp at hu;subst hu;dsimp only[Kd.inj];rw[ZI,z9];refine bL (gi (R:=.ref (3+3*N)) (po:=po) (fi:=fi) (ep:=ep) (es:=ents N) (g:=.vals .int rs::g) eC) fun g1 g2 g3=> ?_;have O4:Wp e' cD (isTrue yi e'.env (eval yi e'.env)) ⟨FD v,sQ N po fi ep aq rs g⟩ fun b c=>b=false/\c=⟨Ke v (.ref (4+3*v)),sQ N po fi ep aq rs g⟩:=by
    rw[H7];refine eB rfl (vf aL (hs ▸ rP.2.1) (aB aL hs (Zr _ e' _ v _ po fi ep _ _) fun pl=>tD rfl PySem.F.slot_dict_get PySem.F.type_dict_get (of_eq (Zs _ e' _ v _) (zE aL rfl ?_))));dsimp only;rw[ZJ];refine ta ?_;rw[fD hv];exact yM rfl (cG ⟨rfl,rfl⟩)
   refine aT (oX (O4.mono fun b c hbc=>aI hbc fun O5 O6=> ?_));subst O5;subst O6;refine⟨(fun z=>gu z),fun Z=>cQ (aT (cR (aH rfl _ _ _) (b6 (by kernel_rfl) (aB aL hs (Zt _ e' _ v _ _) (dB aL g2 g1 (ef _).2.1 rfl rfl (cE aL (hs ▸ rP.2.2.1) ?_))))))⟩;dsimp only;rw[ZK,i4];refine b8 aL hs (of_eq (Zu _ e' _ v _ _) (aT (cq rfl (aB aL hs (Zw _ e' _ _) (aB aL hs (Zv _ e' _ v _ _ _) (eF aL g2 g1 (eE _).2.1 (lx [] [] 268502284552) ?_))))));have e1:(sQ N po fi ep aq rs g).set (4+3*v) (.slot 100 (3+3*v) (rz [some (.pv (.int v)),some (.pv (.int nd.1)),some (.ref (5+3*v))] 1 (.pv (.int (-2)))))=sQ N po fi ep (aq.set v (-2,nd.2)) rs g:=ly (R:=.ref (3+3*N)) (po:=po) (fi:=fi) (ep:=ep) (es:=ents N) (g:=.vals .int rs::g) (-2) eC;dsimp only;rw[e1];have O7:(aq.set v (-2,nd.2))[v]? =some (-2,nd.2):=by rw[acK,if_pos rfl,if_pos (by lia)]
   refine bL (gi (R:=.ref (3+3*N)) (po:=po) (fi:=fi) (ep:=ep) (es:=ents N) (g:=.vals .int rs::g) O7) fun k1 k2 k3=> ?_;refine aT (gU aL (hs ▸ rP.2.2.2.1) (fun Z=>rfl) (us:=yg .int nd.2) (K:=fun c=>c.aj[5+3*v]? =some (.vals .int nd.2)) (fun j c=>∃l L sP,(l= []\/∃u i,l= [(s "successor",u),(s "successor_info",i)])/\c=⟨yj v (.ref (4+3*v)) (-1)++l,sQ N po fi ep L sP g⟩/\L.length=N/\sP.length<=rs.length+j/\d0 (nd.2.drop j) (L,sP)=d0 nd.2 (aq.set v (-2,nd.2),rs)/\∃q,L[v]? =some (q,nd.2))
    (dr aL (i:=5+3*v) (kd:=.int) (b6 (by kernel_rfl) (aB aL hs (Zx _ e' _ v _ _ _) (dB aL k2 k1 (ef _).2.2 rfl rfl ⟨rfl,k3,[],_,rs,.inl rfl,rfl,by simpa using hN,ab2 _ _,by rfl,_,O7⟩)))) (fun j u c hu hI hK=> ?_) (fun c hI Z=> ?_))
   ·refine B3 hI fun l L sP hl O8 hL hr hd O9=> ?_;subst O8;refine aA O9 fun q hq=> ?_;simp only[aa0,abh]at hu;refine ah hu fun y hy Pa=> ?_;subst Pa;have yh:=(aab.mp hy).1;have h0:=CN y (abW hy);refine aA (⟨adH y,(abC h0.1).symm⟩:∃y':Nat,y=(y':Int)) fun y' Pb=> ?_;subst Pb;dsimp only[Kd.inj];rw[ZL v _ _ _ l hl];have hyN:y'<N:=acL.mp h0.2;refine DB aL hs hyN (by
     rcases hl with rfl | ⟨u,i,rfl⟩
     ·exact .inl rfl
     ·exact .inr ⟨i,rfl⟩) hL (dZ 0x186a05fb093b299186a05fb319992190938 hr hz yh) ?_
    have Kf:∃q',(L.set y' ((L.getD y' (0,[])).1-1,(L.getD y' (0,[])).2))[v]? =some (q',nd.2):=by
     by_cases hvy:v=y'
     ·subst hvy;refine⟨(L.getD v (0,[])).1-1,?_⟩;rw[acK,if_pos rfl,if_pos (by lia)];have:L.getD v (0,[])=(q,nd.2):=by rw[abG,hq];rfl
      rw[this]
     ·exact⟨q,by rw[acr (Ne.symm hvy)];exact hq⟩
    have hL3:(L.set y' ((L.getD y' (0,[])).1-1,(L.getD y' (0,[])).2)).length=N:=by simpa using hL
    refine⟨⟨[(s "successor",.pv (.int y')),(s "successor_info",.ref (4+3*y'))],_,_,.inr ⟨_,_,rfl⟩,rfl,hL3,?_,?_,Kf⟩,?_⟩
    ·split
     ·rw[aag];simp only[acn,acQ];exact bj 0xb2919ba9092190918 hr
     ·exact bj 0xb291902190918 hr
    ·rw[<-hd,acs yh];have:nd.2[j]=(y':Int):=by rw[aad yh]at hy;exact aah.inj hy
     rw[this];rfl
    ·refine aA Kf fun q' BU=>(gi (R:=.ref (3+3*N)) (po:=po) (fi:=fi) (ep:=ep) (es:=ents N) (g:=.vals .int _::g) BU).2.2
   ·refine B3 hI fun l L sP hl Pc hL hr hd Pd=> ?_;subst Pc;refine aA Pd fun q hq=> ?_;rw[aaR,aec]at hd;refine bJ aL hs (of_eq (Zy _ e' _ v _ _ l _ po fi ep _ _) ?_);exact⟨.inr ⟨rfl,ZP L sP hd⟩,trivial⟩
  ·exact aZ hu
 ·rcases hI with⟨h0,_⟩ | ⟨_,h1⟩
  ·exact Gh h0
  ·exact cQ ⟨rfl,h1⟩
end
section
theorem kX(l:Addr):Meets (Builtin.«bool.__new__» ⟨[.type "bool",.ref l],[]⟩) (fun A R s=>∃items:Array Value,s.heap.IsList l items/\(items.size:Int)<2 ^ 63/\R (.ok (.ret (.bool (!items.isEmpty)))) {s with toks:=s.toks+1+1}):=
 Meets.of_wp fun prog w A R s hs=>by
  refine bD hs fun items h1 h2 h3=> ?_;obtain⟨hp,g,d,tk,os⟩:=s;have f1:=F.conv_sub_bool
  repeat (any_goals (first | assumption | (with_reducible refine wpAny_truthy_list h1 h2 ?_) | wp_step))
  all_goals first | exact⟨_,rfl,h3⟩ | exact h3 | skip
section
variable{e:Fm}{c:St}
theorem DD(hs:c.aj[i]? =some (.vals kd xs))(h:Q (.pv (.bool (!xs.isEmpty))) c):cN e VR [.ref i] (fun vs=>call (.type "bool") vs) c Q:=by
 refine .x7 (.r fun x ad m aa a n ha R E q=>n.lL hs ha fun its k' hm hi hz ho=> ?_);have hlen:=hi.length;rw[aaR]at hlen;refine call_bool_1 (kX a) ⟨its.toArray,aO ho,by simp;exact ba 0x8000000000000000efb089186a05f1910920 (bl hlen) hz,rfl,?_⟩;have:(!its.toArray.isEmpty)= !xs.isEmpty:=by cases xs <;> cases its <;> simp_all
 rw[this];exact q _ _ _ _ _ _ _ _ h n (Ext.refl ..) rfl
theorem Pe(h:Wp e VR (eval a e.env) c fun u c1=>cP e cD u truthy c1 fun t c2=>match t with | true=>Q u c2 | false=>Wp e VR (eval b e.env) c2 Q):Wp e VR (eval (.BoolOp .Or [a,b] pos) e.env) c Q:=
 fun x ad m aa n R E p=>BoolOp_or (h x ad m aa n _ E fun u u' c1 h1 dF bx m1 av q1 n1 x1 r1=>q1 _ bx m1 av u' n1 r1 _ E fun t t' c2 h2 gI bp m2 ay q2 n2 x2 r2=>by
  subst r2;cases t with
  | true=>exact p _ _ _ _ _ _ _ _ q2 n2 (x1.trans x2) (VR.mono x2 r1)
  | false=>exact BoolOp_one (q2 _ bp m2 ay n2 R E (p.ext (x1.trans x2))))
end
abbrev H9:Scope:=au (cst 9 5)
abbrev Pf:Expr:=ak (at_ (ar (cst 9 5)) 1)
theorem DE:ar (cst 9 5)= [at_ (ar (cst 9 5)) 0]++ [.Return (some (.BoolOp .Or [yC 0 Pf,yC 1 Pf] (aw Pf))) (bZ (at_ (ar (cst 9 5)) 1))]:=by kernel_rfl
section
variable(P:Params)(e:Fm)(Q:AF->St->Prop)(K:V->St->Prop)
theorem ZQ(i:Nat)(po fi:Int)(ep:Nat)(es:List (Int×V))(r:List AO):cZ (xw e P H9 40) [at_ (ar (cst 9 5)) 0] ⟨[(s "self",.ref 0)],bR (.ref i) po fi ep es r⟩ Q=Q .next ⟨[(s "self",.ref 0)],bR (.ref i) po fi ep es r⟩:=by kernel_rfl
theorem ZR(i:Nat)(po fi:Int)(ep:Nat)(es:List (Int×V))(r:List AO):ew e P H9 40 (yC 0 Pf) ⟨[(s "self",.ref 0)],bR (.ref i) po fi ep es r⟩ K=K (.pv (.bool (decide (fi<po)))) ⟨[(s "self",.ref 0)],bR (.ref i) po fi ep es r⟩:=by kernel_rfl
theorem ZS(i:Nat)(po fi:Int)(ep:Nat)(es:List (Int×V))(r:List AO):ew e P H9 40 (yC 1 Pf) ⟨[(s "self",.ref 0)],bR (.ref i) po fi ep es r⟩ K=cN e VR [.ref i] (fun dc=>call (.type "bool") dc) ⟨[(s "self",.ref 0)],bR (.ref i) po fi ep es r⟩ K:=by kernel_rfl
end
variable{e:Fm}
theorem wO(hx:Cx e)(hk:e.k=k+1):af e [.ref 0] (.ref 166) (rN po po ep aq [] g) fun v σ=>v= .pv (.bool false)/\σ=rN po po ep aq [] g:=by refine df hx hk (WI _) (names:= [s "self"]) (fun Z Z Z Z Z Z vs hv=>by refine aA (je hv) fun Z Pg=> ?_;subst Pg;kernel_rfl) (by kernel_rfl) fun e' aL hw cH hs=> ?_;rw[DE];refine b8 aL hs (of_eq (ZQ _ e' _ _ po po ep _ _) (aT (ix (Pe (aB aL hs (ZR _ e' _ _ po po ep _ _) (cG ?_))))));rw[decide_eq_false (adx (acd _))];exact aB aL hs (ZS _ e' _ _ po po ep _ _) (DD (pP rfl) ⟨rfl,rfl⟩)
end
noncomputable def Ac(S:Int->Bool)(k:Int):Int->Bool:=fun k'=>S k'||decide (k'=k)
section
variable{e:Fm}{c:St}
theorem Ph(h:Q (.ref c.aj.length) {c with aj:=c.aj++ [.ig (fun Z=>false) 0]}):cN e VR [] (fun vs=>call (.type "set") vs) c Q:=by rintro x ad m aa _ n (_ | _) R E q;refine newSet_N n.F n.N fun h' led F' N'=> ?_;obtain⟨n2,x2⟩:=n.new (o:=.ig (fun Z=>false) 0) (fun p hp=>Heap.lt_size (n.N p hp).1) F' N' (setObjOf_fresh led);exact q _ _ _ _ _ _ _ _ h n2 x2 ⟨_,by show(ad.m++ [_])[_]? =_;rw[<-n.len];simp,rfl⟩
theorem vv(hs:c.aj[i]? =some (.ig S k))(hb:k<1000)(h:Q (.pv (.bool (S z))) c):bM e VR (.pv (.int z)) (.ref i) (compareOp .In) c Q:=by rintro x ad m aa _ _ n ⟨t,rfl⟩ r R E q;refine cI (n.at hs r) fun a ob Pj ha hm hS ho=> ?_;exact Pj ▸ kse_in n.N (gF n.nd hm) hS (adB hb (by decide)) (by simp[intKind,Value.isInt]) rfl (q _ _ _ _ _ _ _ _ h n (Ext.refl ..) rfl)
theorem Pk(hs:c.aj[i]? =some (.ig S k))(hb:k<1000)(h:Q (.builtin "set.add",[.ref i]) c):cP e MR (.ref i) (fun v=>getMethod v "add" pl) c Q:=by rintro x ad m aa v n r R E q;refine cI (n.at hs r) fun a ob Pl ha hm hS ho=> ?_;subst Pl;exact kse_method n.N (gF n.nd hm) hS (adB hb (by decide)) (q _ _ _ _ _ _ _ _ h n (Ext.refl ..) ⟨rfl,.cons r .nil⟩)
theorem p_add(hs:c.aj[i]? =some (.ig S k))(hb:k<1000)(h:Q (.pv .none) {c with aj:=c.aj.set i (.ig (Ac S z) (if S z then k else k+1))}):cN e VR [.ref i,.pv (.int z)] (fun vs=>call (.builtin "set.add") vs) c Q:=by refine .of2 (.ri fun x ad m aa a t n ha R E q=>bD (n.nq hs ha) fun ob hm hS ho=> ?_);refine kse_add (k:=z) n.F n.N (gF n.nd hm) hS (adB (Nat.succ_lt_succ hb) (by decide)) (by simp[intKind,Value.isInt]) rfl fun h' o' F' N' BL=> ?_;have lJ:NT ob:=(show OR e.w ad aa (.ig S k) ob from hS).cls;exact q _ _ _ h' _ ad m _ h (n.oV hs ha hm lJ F' N' BL) (cV n.nd (Ad.bk ha) hm lJ) rfl
end
theorem DF:typeLookup (.type "list_iterator") "__next__" =pure (some (.builtin "list_iterator.__next__")):=by rw[typeLookup_type,builtinLookup_eq_fast];kernel_rfl
theorem gZ:Slot "list_iterator" "__getattribute__" "object.__getattribute__" :=
 .of (owner:= "object") (n:= "__getattribute__") (by rw[typeLookup_type,builtinLookup_eq_fast];kernel_rfl) (by decide +kernel) (by decide +kernel) (by decide +kernel)
  (by first | exact .inl (by decide +kernel) | exact .inr (by decide +kernel)) (by rw[isSubtype_type];kernel_rfl)
theorem kH:entryFor table "object.__getattribute__" =some Builtin.«object.__getattribute__»:=entryFor_of_tree (by kernel_rfl)
theorem mA(a b:Value):argsOk "object.__getattribute__" ⟨[a,b],[]⟩:=by unfold argsOk;kernel_rfl
theorem rQ:typeOf (.builtin "list_iterator.__next__")=pure (.type "wrapper_descriptor"):=by show builtinType _=_;rw[builtinType_eq_fast];kernel_rfl
theorem kJ:Slot "wrapper_descriptor" "__get__" "wrapper_descriptor.__get__" :=
 .of (owner:= "wrapper_descriptor") (n:= "__get__") (by rw[typeLookup_type,builtinLookup_eq_fast];kernel_rfl) (by decide +kernel) (by decide +kernel) (by decide +kernel)
  (by first | exact .inl (by decide +kernel) | exact .inr (by decide +kernel)) (by rw[isSubtype_type];kernel_rfl)
theorem pQ:entryFor table "wrapper_descriptor.__get__" =some Builtin.«wrapper_descriptor.__get__»:=entryFor_of_tree (by kernel_rfl)
theorem rR(a b c:Value):argsOk "wrapper_descriptor.__get__" ⟨[a,b,c],[]⟩:=by unfold argsOk;kernel_rfl
theorem Ae:typeLookup (.type "wrapper_descriptor") "__set__" =pure none:=by rw[typeLookup_type,builtinLookup_eq_fast];kernel_rfl
theorem Af:typeLookup (.type "wrapper_descriptor") "__delete__" =pure none:=by rw[typeLookup_type,builtinLookup_eq_fast];kernel_rfl
theorem Ia:isSubtype (.type "list_iterator") (.type "list_iterator")=pure true:=by rw[isSubtype_type];kernel_rfl
theorem Ib{s:Shared}{vs:List Value}(ho:s.heap.get? a=some (bI "list_iterator" vs))(h:P (.done (.ret (.ref s.heap.objs.size))) {s with heap:=s.heap.push (bI "method-wrapper" [.builtin "list_iterator.__next__",.ref a])}):wpAny M A (Builtin.«wrapper_descriptor.__get__» ⟨[.builtin "list_iterator.__next__",.ref a,.type "list_iterator"],[]⟩) P E s:=by
 unfold Builtin.«wrapper_descriptor.__get__»;refine wpAny_bind (wpAny_of_eq (by first | rfl | kernel_rfl) ?_);have hT:s.TypeIs (.ref a) "list_iterator" :=⟨_,ho,rfl⟩;have f1:=Ia;refine wpAny_bind (wpAny_bind (wpAny_of_eq (a:=(PySem.Str.ofString "__next__",.type "list_iterator")) (by first | rfl | kernel_rfl) ?_));dsimp only
 repeat (any_goals (first | assumption | wp_step))
 all_goals exact h
theorem rS(a:Addr)(vs:List Value)(u:Tok):Meets (Builtin.«object.__getattribute__» ⟨[.ref a,.str "__next__" u],[]⟩) (fun A R s=>s.heap.get? a=some (bI "list_iterator" vs)/\R (.ok (.ret (.ref s.heap.objs.size))) {s with heap:=s.heap.push (bI "method-wrapper" [.builtin "list_iterator.__next__",.ref a])}):=
 Meets.of_wp fun prog w A R s hs=>by
  obtain⟨hp,g,d,tk,os⟩:=s;obtain⟨hx,hs⟩:=hs;have hT:(⟨hp,g,d,tk,os⟩:Shared).TypeIs (.ref a) "list_iterator" :=⟨_,hx,rfl⟩;have f1:=DF;have f2:=rQ;have f3:=kJ.lookup;have f4:=Ae;have f5:=Af;have aL:=hx;unfold bI at hx;unfold Builtin.«object.__getattribute__»
  repeat (any_goals (first | assumption | ((with_reducible show wpAny _ _ (call (Value.builtin "wrapper_descriptor.__get__") _ _) _ _ _);refine wpAny_call_entry kJ rQ pQ (Ib aL ?_) (rR _ _ _)) | wp_step))
  exact⟨_,rfl,wpAny_pure ⟨_,rfl,hs⟩⟩
theorem tO{s:Shared}{vs:List Value} (hx:s.heap.get? a=some (bI "list_iterator" vs))(h:∀tk,Q (.ref s.heap.objs.size) {s with heap:=s.heap.push (bI "method-wrapper" [.builtin "list_iterator.__next__",.ref a]),toks:=tk}):wpAny (model prog w) A (getAttr (.ref a) "__next__" ex) Q E s:=by
 obtain⟨hp,g,d,tk,os⟩:=s;have hT:∀Co,(⟨hp,g,d,Co,os⟩:Shared).TypeIs (.ref a) "list_iterator" :=fun Z=>⟨_,hx,rfl⟩;have f3:=gZ.lookup;have f4:=gZ.bind (.ref a);unfold getAttr getAttrBy
 repeat (any_goals (first | assumption | exact hT _ | ((with_reducible show wpAny _ _ (call (Value.builtin "object.__getattribute__") _ _) _ _ _);refine call_meets gZ (hT _) kH (mA _ _) (rS a vs _) ⟨hx,?_⟩) | wp_step))
 rw[show(ex&&onTheHeap (Value.builtin "object.__getattribute__"))=false by cases ex <;> rfl]
 repeat (any_goals (first | assumption | exact hT _ | ((with_reducible show wpAny _ _ (call (Value.builtin "object.__getattribute__") _ _) _ _ _);refine call_meets gZ (hT _) kH (mA _ _) (rS a vs _) ⟨hx,?_⟩) | wp_step))
 exact wpAny_pure (h _)
section
variable{e:Fm}{c:St}
theorem tP(hs:c.aj[i]? =some (.cK l k))(h:Q (.ref c.aj.length) {c with aj:=c.aj++ [.wrap (.builtin "list_iterator.__next__") i]}):cP e VR (.ref i) (fun o=>getAttr o "__next__" ex) c Q:=by refine .r fun x ad m aa a n ha R E p=>bD (n.nq hs ha) fun ob hm Pm ho=> ?_;obtain⟨la,hl,rfl⟩:=Pm;refine tO ho fun tk=> ?_;refine bL (n.push (o:=.wrap (.builtin "list_iterator.__next__") i) rfl fun l hl=>⟨a,gT ha,rfl⟩) fun n2 x2 r2=>p _ _ _ _ _ _ _ _ h n2 x2 r2
end
section
set_option backward.match.sparseCases true
noncomputable abbrev Fm.at (e:Fm)(g:Heap):Fm:={e with h₀:=g}
noncomputable def Fm.fs (e:Fm):List Addr:=e.outer.filterMap (·.frame)
structure Cs(e:Fm):Prop where
 cx:Cx e
 XB:(KK e.w.params).In e.base
 TB:∃fc mg mb,Top gK (looseW gK gL) fc mg mb e.base
 D:KtsDicts e.fs e.h₀
theorem Cs.turn (hx:Cs e)(T:KtsTurn e.fs e.h₀ g):Cs (e.at g):=by
 refine hY hx.TB fun fc mg mb TB=> ?_;have B:=hx.cx.B;have B':Below e.A₀ e.base e.outer g:=⟨B.stack,fun b o q=>T.other b o (B.stays b o q) (fun hm=>by
  rw[(B.frames.mem hm).1]at q;exact aZ q),B.frames.of_keeps fun b o q Z=>by
  obtain⟨sl',qn⟩:=T.up q;exact⟨_,qn,rfl⟩⟩
 exact⟨⟨B',hx.XB.keeps B'.stays,⟨fc,mg,mb,TB.keeps B'.stays⟩,hx.cx.hA,hx.cx.uH,hx.cx.hk,hx.cx.gl,hx.cx.bu,hx.cx.kd,hx.cx.dep,hx.cx.Cn,hx.cx.hh⟩,hx.XB,hx.TB,hx.D.turn T⟩
def rT{α β:Type}(e:Fm)(g:Heap)(x:Shared)(ad:Ad)(aa:Led)(aJ:Ad->Led->α->β->Prop)(Q:α->St->Prop)(R:β->Shared->Prop):Prop:=
 ∀a b c' h' tk aF m' ag g',KtsTurn e.fs g g'->Q a c'->aU (e.at g') aF m' ag c' h'->Ext ad aa aF ag->aJ aF ag a b->R b {x with heap:=h',toks:=tk}
def fv{α β:Type}(e:Fm)(aJ:Ad->Led->α->β->Prop)(t:Sem β)(c:St)(Q:α->St->Prop):Prop:=
 ∀(g:Heap),KtsTurn e.fs e.h₀ g->∀(x:Shared) (ad:Ad) (m:Str->Option Value) (aa:Led),aU (e.at g) ad m aa c x.heap->∀(R:β->Shared->Prop) (E:Value->Shared->Prop),rT e g x ad aa aJ Q R->wpAny (model pw e.w) e.A t R E x
section
variable{e:Fm}{c:St}
theorem fv.of {α β:Type}{aJ:Ad->Led->α->β->Prop}{t:Sem β}{Q:α->St->Prop}(hx:Cs e)(h:∀g,Cs (e.at g)->Wp (e.at g) aJ t c Q):fv e aJ t c Q:=
 fun g T x ad m aa n R E p=>h g (hx.turn T) x ad m aa n R E fun a b c' h' tk aF m' ag q n' x' r=>p a b c' h' tk aF m' ag g .refl q n' x' r
theorem rT.ext {α β:Type}{aJ:Ad->Led->α->β->Prop}{Q:α->St->Prop}{R:β->Shared->Prop}{ad bx:Ad}(p:rT e g x ad aa aJ Q R)(T:KtsTurn e.fs g g1)(x1:Ext ad aa bx av):rT e g1 {x with heap:=h1,toks:=dF} bx av aJ Q R:=
 fun a b c' h' tk aF m' ag g' T' q n' x' r=>p a b c' h' tk aF m' ag g' (T.trans T') q n' (x1.trans x') r
theorem fv.mono {α β:Type}{aJ:Ad->Led->α->β->Prop}{t:Sem β}{Q Q':α->St->Prop}(h:fv e aJ t c Q)(k:∀a c',Q a c'->Q' a c'):fv e aJ t c Q':=
 fun g T x ad m aa n R E p=>h g T x ad m aa n R E fun a b c' h' tk aF m' ag g' T' q n' x' r=>p a b c' h' tk aF m' ag g' T' (k _ _ q) n' x' r
theorem mB(h:Q .next c):fv e bN (execs [] e.env) c Q:=
 fun g T x ad m aa n R E p=>wpAny_execs_nil (p _ _ _ _ _ _ _ _ _ .refl h n (Ext.refl ..) rfl)
abbrev Ic(e:Fm)(r:List Stmt)(Q:AF->St->Prop):AF->St->Prop:=fun f c=>match f with | .next=>fv e bN (execs r e.env) c Q | f=>Q f c
theorem dC(h:fv e bN (exec y e.env) c (Ic e rest Q)):fv e bN (execs (y::rest) e.env) c Q:=
 fun g T x ad m aa n R E p=>wpAny_execs_cons (h g T x ad m aa n _ E fun f f' c1 h1 dF bx m1 av g1 T1 q1 n1 x1 r1=>by
  cases f with
  | next=>subst r1;exact q1 g1 (T.trans T1) _ bx m1 av n1 R E (p.ext T1 x1)
  | brk=>subst r1;exact p .brk .brk _ _ _ _ _ _ _ T1 q1 n1 x1 rfl
  | cont=>subst r1;exact p .cont .cont _ _ _ _ _ _ _ T1 q1 n1 x1 rfl
  | ret v=>refine ah r1 fun v' Pn r=> ?_;exact Pn ▸ p (.ret v) (.ret v') _ _ _ _ _ _ _ T1 q1 n1 x1 ⟨v',rfl,r⟩)
theorem Ie(hg:Cx (e.at g))(T:KtsTurn e.fs e.h₀ g){l1:List Stmt}:∀ {c:St},cZ (xw (e.at g) e.w.params e.scope 40) l1 c (Ic e l2 Q)-> ∀(x:Shared) (ad:Ad) (m:Str->Option Value) (aa:Led),aU (e.at g) ad m aa c x.heap->∀(R:Flow->Shared->Prop) (E:Value->Shared->Prop),rT e g x ad aa bN Q R->wpAny (model pw e.w) e.A (execs (l1++l2) e.env) R E x:=by
 induction l1 with
 | nil=>exact fun h x ad m aa n R E p=>h g T x ad m aa n R E p
 | cons y r ih=>exact fun{c} h x ad m aa n R E p=>wpAny_execs_cons (uX hg 40 y c _ h x ad m aa n _ E fun f f' c1 h1 dF bx m1 av q1 n1 x1 r1=>by
  cases f with
  | next=>exact r1 ▸ ih q1 _ bx m1 av n1 R E (p.ext .refl x1)
  | brk=>exact r1 ▸ p .brk .brk _ _ _ _ _ _ _ .refl q1 n1 x1 rfl
  | cont=>exact r1 ▸ p .cont .cont _ _ _ _ _ _ _ .refl q1 n1 x1 rfl
  | ret v=>refine ah r1 fun v' Po r=> ?_;exact Po ▸ p (.ret v) (.ret v') _ _ _ _ _ _ _ .refl q1 n1 x1 ⟨v',rfl,r⟩)
theorem Ag(hx:Cs e)(h:∀g,Cs (e.at g)->cZ (xw (e.at g) e.w.params e.scope 40) l1 c (Ic e l2 Q)):fv e bN (execs (l1++l2) e.env) c Q:=
 fun g T=>Ie (hx.turn T).cx T (h g (hx.turn T))
def WsJ(e:Fm)(x:Shared)(ad:Ad)(aa:Led)(g:Heap)(I:Nat->St->Prop)(n:Nat)(s:Shared):Prop:=
 ∃c aF m' ag h' tk,I n c/\s={x with heap:=h',toks:=tk}/\(∃g',KtsTurn e.fs g g'/\aU (e.at g') aF m' ag c h')/\Ext ad aa aF ag
theorem rU(I:Nat->St->Prop) (turn:∀n c,I n c->fv e cD (isTrue test e.env (eval test e.env)) c fun b c1=> (b=true->fv e bN (execs body e.env) c1 (jx (fun c2=>∃m,m<n/\I m c2) Q))/\ (b=false->fv e bN (execs orelse e.env) c1 Q))(n:Nat)(h:I n c):fv e bN (exec (.While test body orelse pos) e.env) c Q:=by
 intro g T x ad m aa nw R E p;refine wpAny_While (codeAny_whileLoop (WsJ e x ad aa g I) ?_ n (Ge c ad m aa x.heap x.toks ⟨h,rfl,⟨g,.refl,nw⟩,Ext.refl ..⟩));intro n s hJ;refine Gd hJ fun c1 bx m1 av h1 dF hI es zg x1=> ?_;subst es;refine ah zg fun g1 T1 n1=>turn n c1 hI g1 (T.trans T1) _ bx m1 av n1 _ _ fun b b' c2 h2 gI bp m2 ay g2 T2 q2 n2 x2 r2=> ?_;cases r2;cases b with
 | true=>
  refine q2.1 rfl g2 ((T.trans T1).trans T2) _ bp m2 ay n2 _ _ fun f f' c3 h3 jr iq m3 cn g3 T3 q3 n3 x3 r3=> ?_;have xx:=(x1.trans x2).trans x3;have TT:=(T1.trans T2).trans T3;have nx:(∃j,j<n/\I j c3)->∃j,j<n/\WsJ e x ad aa g I j {x with heap:=h3,toks:=jr}:=fun q=>ah q fun k hk Li=>⟨k,hk,Ge c3 iq m3 cn h3 jr ⟨Li,rfl,⟨g3,TT,n3⟩,xx⟩⟩;cases f with
  | next=>cases r3;exact nx q3
  | cont=>cases r3;exact nx q3
  | brk=>cases r3;exact p .next .next _ _ _ _ _ _ _ TT q3 n3 xx rfl
  | ret v=>refine ah r3 fun v' Pp rv=> ?_;exact Pp ▸ p (.ret v) (.ret v') _ _ _ _ _ _ _ TT q3 n3 xx ⟨v',rfl,rv⟩
 | false=>refine q2.2 rfl g2 ((T.trans T1).trans T2) _ bp m2 ay n2 _ _ fun f f' c3 h3 jr iq m3 cn g3 T3 q3 n3 x3 r3=>p f f' _ _ _ _ _ _ _ ((T1.trans T2).trans T3) q3 n3 ((x1.trans x2).trans x3) r3
end
end
noncomputable abbrev UG(it:Addr):Obj:=bI "method-wrapper" [.builtin "list_iterator.__next__",.ref it]
theorem Ah(it:Addr):checkBoundCall "list_iterator.__next__" ⟨[.ref it],[]⟩=pure ():=by first | kernel_rfl | rfl
theorem Ai:(Code.builtin "list_iterator.__next__" as).quiet=true:=Code.quiet_builtin _ (by decide +kernel)
section
variable{w:World}{A:Around}{E:Value->Shared->Prop}{s:Shared}{Q:Value->Shared->Prop}
theorem vw(ho:s.heap.get? a=some (UG it))(h:∀A',A'.handled=A.handled->wpAny (model pw w) A' (Builtin.«list_iterator.__next__» ⟨[.ref it],[]⟩) (fun f s'=>∃v,f= .done (.ret v)/\Q v s') E s):wpAny (model pw w) A (call (.ref a) []) Q E s:=by refine wpAny_call (codeAny_of_tree ?_);show wpAny _ A.in1 (callAny (.ref a) ⟨[],[]⟩) _ _ s;show wpAny _ _ (load a >>= _) _ _ s;refine wpAny_bind (wpAny_load ho ?_);refine KFB.if_so (by rfl) ?_;refine KFB.if_so (by rfl) ?_;refine wpAny_bind (wpAny_of_eq (a:=()) (Ah it) ?_);refine wpAny_bind (wpAny_pure (wpAny_pure ?_));refine⟨Ai,codeAny_builtin entry_listiter_next ?_⟩;exact wpAny_mono (h _ rfl) (fun f s' hf=>by refine ah hf fun v Pq q=> ?_;exact Pq ▸ q) fun Z Z z=>z
theorem pR{i:Nat}(ho:s.heap.get? a=some (UG it))(hit:s.heap.get? it=some (bI "list_iterator" [.ref l,.int i 0]))(hl:s.heap.IsList l items)(hx:items[i]? =some v) (hQ:∀h',h'.get? it=some (bI "list_iterator" [.ref l,.int (i+1:Nat) 0])->Heap.SameBut it s.heap h'->Q v {s with heap:=h'}):wpAny (model pw w) A (call (.ref a) []) Q E s:=by refine vw ho fun A' Z=> ?_;refine bD hl fun ol Kg Z Pr=> ?_;refine aA Pr fun nl Kh=> ?_;show wpAny _ _ (field (.ref it) 0 >>= _) _ _ s;refine wpAny_bind (wpAny_field hit rfl (x:=.ref l) rfl ?_);show wpAny _ _ (if(Value.ref l==Value.none)=true then _ else _) _ _ s;rw[if_neg (show ¬((Value.ref l==Value.none)=true) from ack)];show wpAny _ _ (field (.ref it) 1 >>= _) _ _ s;refine wpAny_bind (wpAny_field hit rfl (x:=.int i 0) rfl ?_);show wpAny _ _ (seqItems? (.ref l) >>= _) _ _ s;refine wpAny_bind (wpAny_seqItems Kg Kh ?_);simp only[acw,hx];refine wpAny_bind (wpAny_setField hit rfl (by simp) (wpAny_pure ⟨v,rfl,hQ _ ?_ (Heap.SameBut.update ..)⟩));rw[Heap.get?_update_self _ hit rfl];rfl
theorem rV{i:Nat}(hh:A.handled=none)(ho:s.heap.get? a=some (UG it))(hit:s.heap.get? it=some (bI "list_iterator" [.ref l,.int i 0]))(hl:s.heap.IsList l items)(hx:items[i]? =none) (hQ:∀h1 h2 e,h1.get? it=some (bI "list_iterator" [.none,.int i 0])->Heap.SameBut it s.heap h1->Heap.NewExc h1 h2 e "StopIteration" ->E (.ref e) {s with heap:=h2}):wpAny (model pw w) A (call (.ref a) []) Q E s:=by
 refine vw ho fun A' Yc=> ?_;refine bD hl fun ol Kg Z Pt=> ?_;refine aA Pt fun nl Kh=> ?_;show wpAny _ _ (field (.ref it) 0 >>= _) _ _ s;refine wpAny_bind (wpAny_field hit rfl (x:=.ref l) rfl ?_);show wpAny _ _ (if(Value.ref l==Value.none)=true then _ else _) _ _ s;rw[if_neg (show ¬((Value.ref l==Value.none)=true) from ack)];show wpAny _ _ (field (.ref it) 1 >>= _) _ _ s;refine wpAny_bind (wpAny_field hit rfl (x:=.int i 0) rfl ?_);show wpAny _ _ (seqItems? (.ref l) >>= _) _ _ s;refine wpAny_bind (wpAny_seqItems Kg Kh ?_);simp only[acw,hx];refine wpAny_bind (wpAny_rule (wpAny_bind (wpAny_setField hit rfl (acy _) ?_)));have key:=fun h2 e=>hQ (s.heap.update it (Obj.mapFields (·.setIfInBounds 0 Value.none))) h2 e (by rw[Heap.get?_update_self _ hit rfl];simp[Obj.mapFields,bI]) (Heap.SameBut.update ..);show wpAny _ _ (newExc (.type "StopIteration") [] >>= _) _ _ _;refine wpAny_bind ?_;show wpAny _ _ (newObj _ _ _ >>= _) _ _ _;refine wpAny_bind (wpAny_newObj_type ?_ (by size_fits));refine wpAny_bind (m:=firstArgMember _ _) (wpAny_of_eq (a:=Value.none) (by first | rfl | (simp only[firstArgMember];rfl)) ?_);refine wpAny_newObj_type ?_ (by size_fits);refine wpAny_raiseNew_none (Yc.trans hh) ?_;refine key _ _ ⟨fun b o hb=> ?_,?_,?_⟩
 ·have k:∀(h:Heap) (o1:Obj),h.get? b=some o->(h.push o1).get? b=some o:=fun h o1 hb=>by
   rw[Heap.get?_push_ne _ _ _ (adg (Heap.lt_size hb))];exact hb
  exact k _ _ (k _ _ hb)
 ·cases q:(s.heap.update it (Obj.mapFields (·.setIfInBounds 0 Value.none))).get? ((s.heap.update it (Obj.mapFields (·.setIfInBounds 0 Value.none))).push {cls:=Value.type "tuple",data:=Data.seq #[]}).objs.size with
  | none=>rfl
  | some o=>have h1:=Heap.lt_size q;simp[Heap.push]at h1;exact absurd (aeF (Nat.lt_succ_self _) h1) (acI _)
 ·exact⟨_,_,Heap.get?_push_size _ rfl,rfl,rfl⟩
end
section
variable{prog:Program}{w:World}{A₀:Around}{E:Value->Shared->Prop}{s':Shared}{base g h:Heap}{outer:List Env}{L a e:Addr}{m:Str->Option Value}{name:Str}{scope:Scope}{cd:Value}
 {b₀:Stmt}{suite:List Stmt}{pos np:Pos}{rest:List ExceptHandler}{Q:Flow->Shared->Prop}{aa:List (Addr×Obj)}{KF:Frag}
 {p:Program}{loose:List Str}{fc:ExcName->Option Value}{mg mb:Str->Option Value}{x:Str}{X T':String}
theorem pS(hx:Heap.NewExc h s'.heap e X)(F:Fr g L h m)(N:News g L h aa)(K:Below A₀ base outer g)(XB:KF.In base)(TB:Top p loose fc mg mb base) (ex:nsIn KF mainGlobals x=some none)(hv:bootBuiltins x=some (.type T'))(y4:x≠ "__name__") (ZT:isSubtype (.type T') (.type "BaseException")=pure true)(hnt:isSubtype (.type ((Manifest.find? T').elim "type" fun y=>y.metatype)) (.type "tuple")=pure false)(kU:isSubtype (.type X) (.type T')=pure true) (k:∀h' g',KtsTurn (outer.filterMap (·.frame)) g g'->Fr g' L h' m->News g' L h' aa-> wpAny (model prog w) ((A₀.deeper (envOf name scope L a cd)).mark (some (.ref e))) (execs (b₀::suite) (envOf name scope L a cd)) Q E {s' with heap:=h'}) (hk:scope.kind= .function)(hxk:(envOf name scope L a cd).kindOf x=some .globalImplicit)(hd:(x==("__debug__" :Str))=false) (hE:PassesOwnAt (model prog w) ((A₀.deeper (envOf name scope L a cd)).mark (some (.ref e))) (A₀.deeper (envOf name scope L a cd)) (envOf name scope L a cd) E):wpAny (model prog w) (A₀.deeper (envOf name scope L a cd)) (noteFrame (.ref e) (envOf name scope L a cd)) (fun Z s₂=>wpAny (model prog w) (A₀.deeper (envOf name scope L a cd)) (setFlight (.ref e) none) (fun Z s₃=> wpAny (model prog w) (A₀.deeper (envOf name scope L a cd)) (handleBy (.ref e) (envOf name scope L a cd) (.ExceptHandler (some (.Name x np)) none (b₀::suite) pos::rest)) Q E s₃) E s₂) E s':=by
 have K':=K.push (name:=name) (a:=a) (cd:=cd) F hk;have qS:∀env∈(envOf name scope L a cd::outer),∀b,env.frame=some b->b∈(envOf name scope L a cd::outer).filterMap (·.frame):=fun env he b hb=>adU.mpr ⟨env,he,hb⟩;have hBG:∀b o,h.get? b=some o->b∉(envOf name scope L a cd::outer).filterMap (·.frame)->(hideAll h ((envOf name scope L a cd::outer).filterMap (·.frame))).get? b=some o:=fun b o q nm=>hideAll_get _ q nm;have hl:∀q∈aa,(hideAll h ((envOf name scope L a cd::outer).filterMap (·.frame))).get? q.1=some q.2:=fun q hq=>by
  refine hideAll_get _ (N q hq).1 fun hm=>ah (adU.mp hm) fun env he hf=> ?_;rcases abi.mp he with rfl | he
  ·exact(N q hq).2.1 (aah.inj hf).symm
  ·obtain⟨o,ho,_⟩:=(K.frames.mem (adU.mpr ⟨env,he,hf⟩)).2;rw[(N q hq).2.2]at ho;exact aZ ho
 refine bG hx.there fun ob tp he ZU hdd=> ?_;have hen:(hideAll h ((envOf name scope L a cd::outer).filterMap (·.frame))).get? e=none:=by
  cases q:(hideAll h ((envOf name scope L a cd::outer).filterMap (·.frame))).get? e with
  | none=>rfl
  | some o=>have:=of_hideAll _ q;rw[hx.new]at this;exact aZ this
 have sm0:h.UpToSlots s'.heap:=Heap.UpToSlots.of_keeps hx.keeps;unfold noteFrame;simp only[show(envOf name scope L a cd).frame=some L from rfl];refine wpAny_bind (wpAny_field he hdd (x:=.none) rfl ?_);rw[if_neg (by decide)];refine wpAny_entryW (a0:=tp) K'.stack ((funFrames_hide K'.frames qS).of_keeps fun b o hb Z=>⟨o,hx.keeps b o hb,rfl⟩) rfl he (fun b o hb=>hx.keeps b o (of_hideAll _ hb)) hen hdd (by show 1<6;decide) rfl fun h₄ hN=>vU hN fun n1 n2 n3 n4=> ?_;have Ig:Heap.HeldW (hideAll h ((envOf name scope L a cd::outer).filterMap (·.frame))) (envOf name scope L a cd::outer) e (.type X) tp L h₄:=⟨n1,hen,n2,by rw[<-ZU];exact n3⟩;refine wpAny_landsW Ig fun h₅ Aj Pu=> ?_;have Pw:h.UpToSlots h₅:=(sm0.trans n4).trans Pu;refine bD (kts_ground K F hBG Aj.1 Pw) fun g₅ T₅ F₅ K₅=> ?_;have X₅:KF.In g₅:=XB.keeps K₅.stays;have P₅:TopRead p loose mg mb g₅:=topRead_of (TB.keeps K₅.stays);refine ah Aj.there fun ob LN ZV=> ?_;refine wpAny_handleBy_builtin ZT hnt kU (name_B F₅ X₅ P₅ ex hv y4 ⟨rfl,⟨ob,LN,ZV⟩,?_⟩ hk hxk hd);refine lands_againW Aj fun h₆ Px ZW=> ?_;refine bD (kts_ground K F hBG Px.1 (Pw.trans ZW)) fun g₆ T₆ F₆ K₆=> ?_;have hL:(hideAll h ((envOf name scope L a cd::outer).filterMap (·.frame))).get? L=none:=hideAll_none _ (adU.mpr ⟨_,.head _,rfl⟩);have Nl:News g₆ L h₆ aa:=fun q hq=>⟨Px.1 _ _ (hl q hq),(fun z=>by have:=hl q hq;rw[z,hL]at this;exact aZ this),T₆.none_ _ (N q hq).2.2⟩;exact wpAny_passesOwnAt hE (k h₆ g₆ T₆ F₆ Nl)
end
theorem tQ(a:Value):argsOk "iter" ⟨[a],[]⟩:=by unfold argsOk;kernel_rfl
section
variable{e:Fm}{c:St}
theorem kh(hs:c.aj[i]? =some (.refs xs))(hz:xs.length<100000)(h:Q (.pv .none) {c with aj:=c.aj.set i (.refs (xs++ [j]))}):cN e VR [.ref i,.ref j] (fun vs=>call (.builtin "list.append") vs) c Q:=by rintro x ad m aa _ n (_ | ⟨r,_ | ⟨rv,_ | _⟩⟩) R E q;rename_i v;refine cI (n.at hs r) fun a ob Py ha hm Pz ho=> ?_;subst Py;obtain⟨its,k',rfl,hi,BI⟩:=Pz;have hlen:=hi.length;refine append_K n.F n.N (cJ n.nd hm) (fun h' F' N'=> ?_) (by have:=aD;simp;lia);have x':Ext ad aa ad (bB aa a (listOf (its.toArray.push v) (k'+1))):=cf n.nd (Ad.bk ha) hm (by simp);exact q (.pv .none) .none _ h' x.toks ad m _ h (n.upd hs ha hm (by simp) F' N' ⟨its++ [v],k'+1,by simp,hi.append (.cons rv .nil),by simp;exact bY 0x1869f5f0186a05fb09918 hz⟩) x' rfl
theorem Ih(hs:c.aj[i]? =some (.refs (xs++ [j])))(h:Q (.ref j) {c with aj:=c.aj.set i (.refs xs)}):cN e VR [.ref i] (fun vs=>call (.builtin "list.pop") vs) c Q:=by
 refine .x7 (.r fun x ad m aa a n ha R E q=> ?_);refine bD (n.nq hs ha) fun ob hm PA ho=> ?_;obtain⟨its,k',rfl,hi,hz⟩:=PA;have hlen:=hi.length;refine eP (⟨its.dropLast,its.getLast (by intro z;refine cps fun Z zk=> ?_;subst z;refine zk ?_;clear zk;simp at hlen),(List.dropLast_concat_getLast _).symm⟩:∃gd v,its=gd++ [v]) fun gd v PB=> ?_;subst PB;have jB:gd.length=xs.length:=by simp at hlen;exact hlen.symm
 have BJ:aM (RR ad) xs gd:=by have:=hi.take xs.length;simpa[<-jB]using this
 have rv:RR ad j v:=by refine ah (hi.get (i:=xs.length) (a:=j) (by simp)) fun v' e1 r1=> ?_;rw[<-jB]at e1;simp at e1;exact e1 ▸ r1
 refine kl_pop (its:=(gd++ [v]).toArray) (p:=gd) (y:=v) n.F n.N (jA gd v) (cJ n.nd hm) (by have:=aD;simp at hz ⊢;lia) (fun h' F' N'=> ?_);have x':Ext ad aa ad (bB aa a (listOf gd.toArray (k'+1))):=cf n.nd (Ad.bk ha) hm (by simp);exact q (.ref j) v _ h' x.toks ad m _ h (n.upd hs ha hm (by simp) F' N' ⟨gd,k'+1,rfl,BJ,by simp at hz;exact bY 0x186a05f01869f5f0918 hz⟩) x' rv
theorem tR(mX:isSlice sl=false)(hs:c.aj[i]? =some (.refs (xs++ [j])))(h:Q (.ref j) c):bM e VR (.ref i) (.pv (.int (-1))) (subscriptTail y sl) c Q:=by
 refine .ri fun x ad m aa a t n ha R E p=> ?_;refine bD (n.nq hs ha) fun ob hm PC ho=> ?_;obtain⟨its,k',rfl,hi,hz⟩:=PC;refine ah (hi.get (i:=xs.length) (a:=j) (by simp)) fun v hv rv=> ?_;have hlen:=hi.length;have hl:=aO ho;simp only[aag,acn,acQ]at hlen hz;exact tail_any hl.typeIs slot_list_getitem.lookup (wpAny_getItem_list_neg hl (lx [] [] 2881153280) (by simp;exact ba 27151618316560 (bh hlen)) (by lia) (by
  have:((-1:Int)+(its.toArray.size:Int)).toNat=xs.length:=by simp;exact aac (bj 0x20ba9291918bae908128 (ij (abC (ba 0x18bae9a1ba909910 (bh hlen)))) (bl hlen)) (bj 0x202818bae911ba909928 (bh hlen) (jv (abC (ba 0x18bae9a1ba909910 (bh hlen)))))
  rw[this];simpa using hv) (p _ _ _ _ _ _ _ _ h n (Ext.refl ..) rv)) (bz mX _ _)
theorem DG(hs:c.aj[i]? =some (.vals kd xs))(h:Q (.ref c.aj.length) {c with aj:=c.aj++ [.cK i 0]}):cN e VR [.ref i] (fun vs=>call (.builtin "iter") vs) c Q:=by refine .x7 (.r fun x ad m aa a n ha R E p=> ?_);refine n.lL hs ha fun its k' hm hi hz ho=> ?_;refine call_function_entry (by decide +kernel) (by decide +kernel) kdk_entry_iter (tQ _) ?_;unfold Builtin.«iter»;refine wpAny_bind (m:=someArgs "iter" 1 2 _) (wpAny_of_eq (a:= [Value.ref a]) (by first | rfl | kernel_rfl!) ?_);refine bL (n.push (o:=.cK i 0) (ob:=bI "list_iterator" [.ref a,.int 0 0]) rfl fun l hl=>⟨a,gT ha,rfl⟩) fun n2 x2 r2=> ?_;exact wpAny_bind (wpAny_pyIter_list (aO ho) (wpAny_pure ⟨_,rfl,p _ _ _ _ _ _ _ _ h n2 x2 r2⟩))
theorem wQ(h:Wp e VR (eval o e.env) c fun a c1=>Wp e VR (eval i e.env) c1 fun b c2=>bM e cD a b delItem c2 fun(_:Unit) c3=>Q .next c3):Wp e bN (exec (.Delete [.Subscript o i pos] pos') e.env) c Q:=
 fun x ad m aa n R E p=>wpAny_Delete (wpAny_deleteEach_cons (wpAny_delete_Subscript (h x ad m aa n _ E fun a a' c1 h1 dF bx m1 av q1 n1 x1 r1=>q1 _ bx m1 av n1 _ E fun b b' c2 h2 gI bp m2 ay q2 n2 x2 r2=>q2 _ bp m2 ay a' b' n2 (VR.mono x2 r1) r2 _ E fun u u' c3 h3 jr iq m3 cn q3 n3 x3 Z=>wpAny_deleteEach_nil (p .next .next _ _ _ _ _ _ q3 n3 ((x1.trans x2).trans x3) rfl))))
theorem Ak(hx:Cx e)(hd:Fast.sEq y (s "__debug__")=false)(hl:look e.scope.names y=some .local)(hv:look c.loc y=some v)(h:Q v c):Wp {e with A:=e.A.mark (some v0)} VR (eval (.Name y pos) e.env) c Q:=fun x ad m aa n R E p=>by refine ah (n.loc y v hv) fun v' e' r=> ?_;have k:=hx.sH hl;have e':m y=some v':=e'.Gx k.2.2;exact wpAny_Name (wpAny_loadName_local hx.hk k.1 (by rw[k.2.1];exact n.F.ns) e' (p _ _ _ _ _ _ _ _ h n (Ext.refl ..) r)) (cW hd)
theorem oA(hx:Cx e)(h1:cS o=true)(h4:(apos.endLine==pos.line)=true) (h:Wp {e with A:=e.A.mark (some v0)} VR (eval o e.env) c fun u c1=>∀pl,cP {e with A:=e.A.mark (some v0)} MR u (fun v=>getMethod v name pl) c1 fun fm c2=>eY e.w.params fm.1=true/\cN {e with A:=e.A.mark (some v0)} VR fm.2 (fun dc=>call fm.1 dc) c2 Q):Wp {e with A:=e.A.mark (some v0)} VR (eval (.Call (.Attribute o name apos) [] [] pos) e.env) c Q:=
 fun x ad m aa n R E p=>MethodCall_ (h x ad m aa n _ E fun a a' c1 td dF bx m1 av q1 n1 x1 r1=>q1 _ _ bx m1 av a' n1 r1 _ E fun fm Lh c2 yJ gI bp m2 ay q2 n2 x2 r2=>by obtain⟨hk,q⟩:=q2;obtain⟨f,us⟩:=fm;obtain⟨f',nT⟩:=Lh;obtain⟨rfl,ru⟩:=r2;refine callWith_of rfl (iL hk) (evalArgs_nil3 ⟨hx.X.keeps n2.F.keep,?_⟩);rw[ab5];exact q _ bp m2 ay nT n2 ru R E (p.ext (x1.trans x2))) (k9 h1 rfl (by decide) h4)
theorem DH(h:Heap)(ho:h.get? a=some (UG it)):∃k,(k=Keeper.frame\/k=Keeper.machine\/k=Keeper.boundFrame)/\Looks M h (keeperOf (.ref a)) k:=
 ⟨.machine,.inr (.inl rfl),by unfold keeperOf;refine Looks.andThen (Looks.ld ho) ?_;exact Looks.now⟩
theorem ki(nd:(aa.map (·.1)).Nodup)(hm:(a,o)∈aa)(N:News h₀ L h aa)(iu:Heap.SameBut a h h')(g1:h'.get? a=some o'):News h₀ L h' (bB aa a o'):=by exact dA nd hm N iu g1
theorem DI(P:Params):nsIn (KK P) mainGlobals (s "StopIteration")=some none:=by kernel_rfl
theorem tS(hx:Cs e)(zD:e.env=envOf e.qual e.yE e.L e.f e.cd)(hA0:e.A=e.A₀.deeper (envOf e.qual e.yE e.L e.f e.cd))(lr:(envOf e.qual e.yE e.L e.f e.cd).kindOf (s "StopIteration")=some .globalImplicit) (hF:∀env,eval (.Call F [] [] p6) env=(do callWith p6 (<-eval F env) [] (backTo p6 (starEach [] env)) (backToKw p6 (keywordEach [] env)))) (J9:∀env,swapsWith (.Call F [] [] p6) (some (.Name y p1)) p7.line env=pure false)
  (hy:look e.scope.names y=some .local)
  (h1:∀g,Cs (e.at g)->Wp (e.at g) VR (eval F e.env) c fun u c1=>u= .ref j/\c1=c) (h2:c.aj[j]? =some (.wrap (.builtin "list_iterator.__next__") i)) (h3:c.aj[i]? =some (.cK l k)) (h4:c.aj[l]? =some (.vals .int ss))
  (item:∀z,ss[k]? =some z->Q .brk ⟨put c.loc y (.pv (.int z)),c.aj.set i (.cK l (k+1))⟩)
  (fin:ss[k]? =none->∀g v0,Cs (e.at g)->Wp {e.at g with A:=e.A.mark (some v0)} bN (execs (b₀::suite) e.env) {c with aj:=c.aj.set i .dK} Q):
  fv e bN (exec (.Try [.Assign [.Name y p1] (.Call F [] [] p6) p7,.Break p8] [.ExceptHandler (some (.Name (s "StopIteration") np)) none (b₀::suite) pos] [] [] Lu) e.env) c Q:=by
 intro g T x ad m aa n R E p;have hg:=hx.turn T;rw[arm_exec_Try];refine wpAny_bind (wpAny_standAt (wpAny_tryStmt_except (wpAny_execs_cons (wpAny_Assign_Name (Call_ ?_ (hF _)) (J9 _)))));refine(h1 g hg).eqs n fun u' td dF bx m1 av n1 x1 r1=>ah r1 fun ja haj eu=> ?_;subst eu;refine cps fun Z zk=>bD (n1.nq h2 haj) fun obj hmj PD UH=> ?_;refine ah PD fun ia Fi eo=> ?_;rw[eo]at UH;refine bD (n1.nq h3 Fi) fun obi Fj PE Um=>ah PE fun la PF eo=> ?_;subst eo;refine n1.lL h4 PF fun ts kl nI hi hz Kg=>zk ?_;clear zk;have UI:=n1.N _ Fj;have hlen:=hi.length;rw[aaR]at hlen;refine callWith_of rfl (fun h ho=>DH h ho) (evalArgs_nil3 ⟨UH,?_⟩);cases hk:ss[k]? with
 | some z=>refine ah (hi.get (by rw[aa0,hk];rfl)) fun v hv rv=> ?_;refine pR UH Um (aO Kg) (by simpa using hv) fun yJ g1 iu=> ?_;have lJ:NT (bI "list_iterator" [.ref la,.int k 0]):=NT.of (by simp);have x2:Ext bx av bx (bB av ia (bI "list_iterator" [.ref la,.int (k+1:Nat) 0])):=cV n1.nd (Ad.bk Fi) Fj lJ;have n2:=n1.oV (o':=.cK l (k+1)) h3 Fi Fj lJ (n1.F.change iu UI.2.1 UI.2.2) (ki n1.nd Fj n1.N iu g1) ⟨la,PF,rfl⟩;refine cE (Q:=fun Z c'=>c'=_) hg.cx hy rfl {x with heap:=yJ,toks:=dF} bx m1 _ v n2 (VR.mono (u:=.pv (.int z)) x2 rv) _ _ fun Z Z c5 h5 uR nY m5 dU q5 n5 x5 Z=> ?_;subst q5;exact wpAny_execs_cons (wpAny_Break (p .brk .brk _ _ _ _ _ _ _ .refl (item z hk) n5 ((x1.trans x2).trans x5) rfl))
 | none=>
  refine rV hx.cx.hh UH Um (aO Kg) (by simp at hk ⊢;exact ab3 (bl hlen) hk) fun hh1 Oq ex g1 iu qp=> ?_;have lJ:NT (bI "list_iterator" [.ref la,.int k 0]):=NT.of (by simp);have x2:Ext bx av bx (bB av ia (bI "list_iterator" [.none,.int k 0])):=cV n1.nd (Ad.bk Fi) Fj lJ;have n2:=n1.oV (o':=.dK) h3 Fi Fj lJ (n1.F.change iu UI.2.1 UI.2.2) (ki n1.nd Fj n1.N iu g1) (show NT _ from NT.of (by simp));refine hY hx.TB fun fc mg mb TB=> ?_;have key:=pS (prog:=pw) (w:=e.w) (s':={x with heap:=Oq,toks:=dF}) (b₀:=b₀) (suite:=suite) (pos:=pos) (np:=np) (rest:= []) (Q:=R)
   qp n2.F n2.N hg.cx.B hx.XB TB (DI _) (by kernel_rfl) (by decide) (by rw[isSubtype_type];kernel_rfl) (by rw[isSubtype_type];kernel_rfl) isSubtype_stop (fun h' g' T' F' N'=> ?_) hx.cx.uH lr (by decide) PassesOwnAt.never
  ·rw[<-hA0,<-zD]at key;exact wpAny_mono key (fun Z Z h=>wpAny_mono h (fun Z Z h=>wpAny_mono h (fun Z Z h=>h) fun Z Z f=>f.elim) fun Z Z f=>f.elim) fun Z Z f=>f.elim
  ·rw[<-hA0,<-zD];have n3:aU (e.at g') bx m1 _ _ h':=⟨F',N',n2.nd,n2.loc,n2.len,n2.fP,n2.fb,n2.gp,n2.rep⟩;exact fin hk g' _ (hg.turn T') _ bx m1 _ n3 R _ fun a b c' h'' tk aF m' ag q n' x' r=>p a b c' h'' tk aF m' ag g' T' q n' ((x1.trans x2).trans x') r
theorem wU(hx:Cx e){i ep:Nat}(I:Addr):CY e I (fun c=>c.aj[i]? =some (.bo ep es)) (fun ad Z=>ad.m[i]? =some l) (es.map fun p=>V.pv (.int p.1)) (Hz "dict_keyiterator" fun k=> #[.ref l,.int k 0,.int es.length 0,.int ep 0]):=by
 refine⟨fun t g=>bq g t,fun k o h=>kb h,fun k o y nv bp m2 ay c2 n2 hT dw dG P E hP=>wpAny_pyIter_keyiter ⟨o,(n2.N _ dw).1,dG.1,dG.2⟩ hP,fun k u hu y nv bp m2 ay c2 o n2 hK hT dw dG hI P E hP=> ?_,fun y nv bp m2 ay c2 o n2 hK hT dw dG hI P E hP=> ?_⟩
 ·refine cps fun Z zk=>cY (n2.rep i _ hK) fun b ow ob h1 Z h3 h4=> ?_;replace h1:=hT ▸ h1;obtain rfl:=aah.inj h1;refine ah h4.2 fun HA hd2 wC=> ?_;have ll:=wC.length;simp only[aa0,abh]at hu;refine ah hu fun p hp PG=> ?_;subst PG;refine ah (wC.get hp) fun PH hv rv=> ?_;obtain⟨k0,v⟩:=PH;refine zk ?_;refine wpAny_pyNext_dict_item ⟨o,(n2.N _ dw).1,dG.1,by exact ll ▸ dG.2⟩ (fq (n2.N _ h3).1 hd2) hv fun key h' ZX hit iu=>cps fun Z zk=> ?_;refine bD hit fun o' g1 g2 g3=>aA (Value.isInt_shape ZX) fun t PI=> ?_;subst PI;refine zk ?_;have e0:k0=p.1:=rv.1;exact hP _ h' o' _ ⟨t,by exact e0 ▸ rfl⟩ g1 ⟨g2,by exact ll ▸ g3⟩ iu
 ·refine cps fun Z zk=>cY (n2.rep i _ hK) fun b ow ob h1 Z h3 h4=> ?_;replace h1:=hT ▸ h1;obtain rfl:=aah.inj h1;refine ah h4.2 fun HA hd2 wC=>zk ?_;refine wpAny_pyNext_dict_end hx.hh ⟨o,(n2.N _ dw).1,dG.1,by rw[<-wC.length];exact dG.2⟩ (fq (n2.N _ h3).1 hd2) (by simp;exact(bl wC.length)) fun h' iu=>hP h' _ iu
def FkJ(e:Fm)(x:Shared)(ad:Ad)(aa:Led)(g:Heap)(N:Nat)(I:Nat->St->Prop)(It:Addr)(ob:Nat->Obj->Prop)(i:Nat)(l:Addr)(n:Nat)(s:Shared):Prop:=
 ∃k c aF m' ag h' tk o,(∃g',KtsTurn e.fs g g'/\aU (e.at g') aF m' ag c h')/\n+k=N/\I k c/\s={x with heap:=h',toks:=tk}/\Ext ad aa aF ag/\(It,o)∈ag/\ob k o/\It∉aF.all/\aF.m[i]? =some l
theorem tT(hx:Cs e)(hl:look e.scope.names y=some .local)(G6:∀x,foldedSetIterable iter e.env x=pure x)(I:Nat->St->Prop) (hs:∀c,(∃k,I k c)->c.aj[i]? =some (.bo ep es))(h:∀g,Cs (e.at g)->Wp (e.at g) VR (eval iter e.env) c fun u c1=>u= .ref i/\I 0 c1) (turn:∀k z c,es[k]? =some z->I k c->fv e bN (execs body e.env) {c with loc:=put c.loc y (.pv (.int z.1))} (jx (fun c2=>I (k+1) c2) Q))(done:∀c,I es.length c->Q .next c):fv e bN (exec (.For (.Name y px) iter body [] pos) e.env) c Q:=by
 intro g T x ad m aa nw R E p;refine wpAny_For (h g (hx.turn T) x ad m aa nw _ E fun u u' c1 h1 dF bx m1 av q1 n1 x1 r1=> ?_) G6;refine cps fun Z zk=>aI q1 fun PJ hI0=> ?_;subst PJ;refine ah r1 fun l ha PK=> ?_;subst PK;refine bD (n1.nq (hs _ ⟨0,hI0⟩) ha) fun ob hm PM ho=>ah PM fun gn hd hE=> ?_;refine zk ?_;have hlen:=hE.length;refine wpAny_pyIter_dict ((hx.turn T).cx.lo n1 hm) (fq ho hd) (hlen ▸ ?_);refine cps fun Z zk=>bL (Fr.en n1.F n1.N {cls:=.type "dict_keyiterator",data:=.fields #[.ref l,.int (0:Nat) 0,.int es.length 0,.int ep 0]} rfl) fun F' N' bT=> ?_;refine aI (n1.more bT F' N') fun n2 x2=>zk ?_;have tr:rt h1.objs.size aa:=fun q hq z=>by refine aA (x1.key q.1 q.2 hq) fun ob' nA=>absurd (bT _ nA) (by show ¬q.1<_;exact z ▸ acI _)
 refine codeAny_forLoop (FkJ e x ad aa g es.length I h1.objs.size (Hz "dict_keyiterator" (fun k=> #[.ref l,.int k 0,.int es.length 0,.int ep 0])) i l) ?_ es.length (JQ 0 c1 _ _ _ _ _ _ ⟨⟨g,.refl,n2⟩,rfl,hI0,rfl,x1.trans x2,.head _,⟨rfl,rfl⟩,n1.lt bT,ha⟩);intro n s hJ;refine cps fun Z zk=>Gf hJ fun k c2 bp m2 ay h2 gI o2 hJ=> ?_;refine KN hJ fun zg hn q2 Lb x2 dw dG qm zv=> ?_;subst Lb;refine ah zg fun g2 T2 n2=>zk ?_;have hg2:=hx.turn (T.trans T2);have D:=wU (i:=i) (ep:=ep) (es:=es) (l:=l) hg2.cx h1.objs.size;by_cases hk:k<es.length
 ·refine D.item k (.pv (.int (es[k]).1)) (by simp only[aa0,aad hk];rfl) _ _ bp m2 ay c2 o2 n2 (hs c2 ⟨k,q2⟩) zv dw dG qm _ _ fun v h3 o3 jr rv g1 g2' g3=> ?_;have hc:=(D.cls k o2 dG).1;have n3:=n2.Cm qm dw hc (n2.F.change g3 (n2.N _ dw).2.1 (n2.N _ dw).2.2) (ki n2.nd dw n2.N g3 g1);have gg:Gr bp ay bp (bB ay h1.objs.size o3):=⟨⟨[],by simp⟩,fun b its hb=>aX hb fun z=>hc its (by subst z;exact(dz n2.nd dw hb) ▸ rfl)⟩;refine ma (Q:=fun Z c'=>c'={c2 with loc:=put c2.loc y (.pv (.int (es[k]).1))}) hg2.cx hl rfl _ bp m2 _ v n3 (VR.fA gg rv) _ _ fun Z Z c5 h5 uR nY m5 dU q5 n5 x5 Z=> ?_;subst q5;have s5:=x5.qE _ o3 (b5 dw) qm;refine turn k es[k] c2 (aad hk) q2 g2 (T.trans T2) _ nY m5 dU n5 _ _ fun f f' c6 h6 yb CB m6 jC g6 T6 q6 n6 x6 r6=> ?_;have s6:=x6.qE _ o3 s5.1 s5.2;have xx:=((x2.CX tr o3).trans x5).trans x6;have nx:I (k+1) c6->∃j,j<n/\FkJ e x ad aa g es.length I h1.objs.size (Hz "dict_keyiterator" (fun k=> #[.ref l,.int k 0,.int es.length 0,.int ep 0])) i l j {x with heap:=h6,toks:=yb}:=fun q6=>
   ⟨n-1,(cA (bj 0x2b029191b09928 hk (bl hJ.2.1))),JQ (k+1) c6 CB m6 jC h6 yb o3 ⟨⟨g6,(T2.trans T6),n6⟩,aac (dZ 0x3b2909321991b09928 (cA (bj 0x2b029191b09928 hk (bl hJ.2.1))) (bh hJ.2.1)) (dZ 0xb29390b39192190928 (bl hJ.2.1) eH),q6,rfl,xx,s6.1,g2',s6.2,bq (x5.trans x6).gr (bq gg zv)⟩⟩
  cases f with
  | next=>cases r6;exact nx q6
  | cont=>cases r6;exact nx q6
  | brk=>cases r6;exact p .next .next _ _ _ _ _ _ _ (T2.trans T6) q6 n6 xx rfl
  | ret v=>refine ah r6 fun v' PN rv=> ?_;exact PN ▸ p (.ret v) (.ret v') _ _ _ _ _ _ _ (T2.trans T6) q6 n6 xx ⟨v',rfl,rv⟩
 ·have cH:es.length=k:=aac ((ic hk)) (bj 8893012248 (bh hJ.2.1));refine D.fin _ _ bp m2 ay c2 o2 n2 (hs c2 ⟨k,q2⟩) zv dw (by simp only[<-cH]at dG;simp only[aaR];exact dG) qm _ _ fun h3 jr Hh=>wpAny_execs_nil (p .next .next _ _ _ _ _ _ _ T2 (done c2 (cH ▸ q2)) (n2.zu qm dw (D.cls _ o2 dG).1 Hh) (x2.hU tr) rfl)
end
section
set_option backward.match.sparseCases true
section
variable{e:Fm}{c:St}
def mC(e:Fm)(us:List V)(f:Value)(σ:List AO)(Q:V->List AO->Prop):Prop:=
 ∀(g:Heap),KtsTurn e.fs e.h₀ g->∀(x:Shared) (ad:Ad) (m:Str->Option Value) (aa:Led) (vs:List Value),lR (e.at g) ad m aa σ x.heap->aM (VR ad aa) us vs->∀(R:Value->Shared->Prop) (E:Value->Shared->Prop),
  (∀v v' σ' h' tk aF ag g',KtsTurn e.fs g g'->Q v σ'->lR (e.at g') aF m ag σ' h'->Ext ad aa aF ag->VR aF ag v v'->R v' {x with heap:=h',toks:=tk})->codeAny (model pw e.w) e.A (.call f ⟨vs,[]⟩) (fun r s'=>match r with | .ok (.ret v)=>R v s' | .ok _=>False | .error ex=>E ex s') x
structure BW(e:Fm):Prop where
 ov:e.env=envOf e.qual e.yE e.L e.f e.cd
 A:e.A=e.A₀.deeper (envOf e.qual e.yE e.L e.f e.cd)
 sc:e.scope=e.yE
 fe:e.iU=envOf e.qual e.yE e.L e.f e.cd
theorem PO(hx:Cs e)(ry:BW e)(hk:e.k=k+1) (ho:(KK e.w.params).lookup f=some ⟨oc,od,.func (fnOf name qual params body scope dV kV doc pm an dS ct),V8⟩)(mY:codeIn (KK e.w.params) dS qual=true) {names:List Str}(hb:∀(x:Shared) (vs:List Value),(KK e.w.params).In x.heap->vs.length=us.length->BindsTo x (fnOf name qual params body scope dV kV doc pm an dS ct) ⟨vs,[]⟩ (names.zip vs)) (eC:names.Nodup)(kT:(names.all fun y=>decide (scope.names.lookup y=some .local))=true) (Lv:scope.isCoroutine=false)(yW:scope.isGenerator=false)(yX:scope.kind= .function)(fT:fS scope=true) (h:∀e':Fm,Cs e'->BW e'->e'.w=e.w->e'.k=k->e'.scope=scope->fv e' bN (execs body e'.env) ⟨names.zip us,σ⟩ (oW Q)):mC e us (.ref f) σ Q:=by
 intro g T x ad m aa vs n ru R E p;have hg:=hx.turn T;refine hY hx.TB fun fc mg mb TB=> ?_;have lS:∀x∈scope.names,x.2≠ .cell:=fun y hy z=>by have:=aaZ.mp fT y hy;have this:=z ▸ this;exact absurd this (by decide)
 refine code_defS hg.cx.B n.F hg.cx.X n.N (TB.keeps hg.cx.B.stays) hx.XB TB hg.D .refl (by exact ry.fe ▸ hx.cx.hA) ho mY (by have:=hx.cx.dep;exact bj 757094035331352 this) (hb _ vs (hg.cx.X.keeps n.F.keep) ru.length.symm) (fun y hy=> ?_) (fun g2 L' h₁ FG F' N' B' X' T' D'=> ?_) hx.cx.uH Lv yW yX lS
 ·exact of_decide_eq_true (aaZ.mp kT y.1 (adO hy).1)
 ·have cx:Cs ⟨e.w,e.A.deeper (envOf qual scope L' f dS),e.A,e.base,g2,envOf e.qual e.yE e.L e.f e.cd::e.outer,L',qual,scope,f,dS,k,scope,[],none,fun Z=>none⟩:=⟨⟨B',X',⟨fc,mg,mb,T'⟩,by
    show e.A.frames.map _=_;simp only[hx.cx.hA,ry.fe];rfl,yX,yX,rfl,rfl,fB fT rfl rfl (fun Z=>rfl),(hx.cx.dn hk).1,(hx.cx.dn hk).2,hx.cx.hh⟩,hx.XB,hx.TB,D'⟩
  have now:aU ⟨e.w,e.A.deeper (envOf qual scope L' f dS),e.A,e.base,g2,envOf e.qual e.yE e.L e.f e.cd::e.outer,L',qual,scope,f,dS,k,scope,[],none,fun Z=>none⟩ ad (fun y=>(names.zip vs).reverse.lookup y) aa ⟨names.zip us,σ⟩ h₁:=
   ⟨F',N',n.nd,fun y v e'=>jz eC ru e',n.len,n.fP,n.fb,n.gp,n.rep⟩
  refine h _ cx ⟨rfl,rfl,rfl,rfl⟩ rfl rfl rfl g2 .refl ({x with heap:=h₁,toks:=x.toks+(names.zip vs).length}) ad _ aa now _ _ fun fl JZ c' h' tk aF m' ag g' T2 q n' y r=>leaveS_r n'.F n'.N T2 fun h₀' T3 F0 N0 Z Z Z Z=> ?_;have nn:lR (e.at h₀') aF m ag c'.aj h':=⟨F0,N0,n'.nd,(fun Z Z e=>aZ e),n'.len,n'.fP,n'.fb,n'.gp,n'.rep⟩;cases fl with
  | next=>cases r;exact p _ _ _ _ _ _ _ _ T3 q nn y rfl
  | brk=>cases r;exact p _ _ _ _ _ _ _ _ T3 q nn y rfl
  | cont=>cases r;exact p _ _ _ _ _ _ _ _ T3 q nn y rfl
  | ret v=>refine ah r fun v' PQ rv=> ?_;exact PQ ▸ p _ _ _ _ _ _ _ _ T3 q nn y rv
end
end
section
variable{e:Fm}{c:St}
theorem PR(hx:Cx e)(i4:e.outer= [])(fY:e.base=e.h₀)(hk:e.k=k+1) (ho:(KK e.w.params).lookup f=some ⟨oc,od,.func (fnOf name qual params body scope dV kV doc pm an dS ct),V8⟩)(mY:codeIn (KK e.w.params) dS qual=true) {names:List Str}(hb:∀(x:Shared) (vs:List Value),(KK e.w.params).In x.heap->vs.length=us.length->BindsTo x (fnOf name qual params body scope dV kV doc pm an dS ct) ⟨vs,[]⟩ (names.zip vs)) (eC:names.Nodup)(kT:(names.all fun y=>decide (scope.names.lookup y=some .local))=true) (Lv:scope.isCoroutine=false)(yW:scope.isGenerator=false)(yX:scope.kind= .function)(fT:fS scope=true) (h:∀e':Fm,Cs e'->BW e'->e'.w=e.w->e'.k=k->e'.scope=scope->fv e' bN (execs body e'.env) ⟨names.zip us,σ⟩ (oW Q)):af e us (.ref f) σ Q:=by
 intro x ad m aa vs n ru R E p;refine cps fun Z zk=>hY hx.T fun fc mg mb T=> ?_;have lS:∀x∈scope.names,x.2≠ .cell:=fun y hy z=>by have:=aaZ.mp fT y hy;have this:=z ▸ this;exact absurd this (by decide)
 have X:=hx.X.keeps n.F.keep;refine vU (groundX (R:=fun Z Z=>True) hx.B n.F n.N hx.hA rfl hx.uH) fun FG BG st Z=>zk ?_;refine codeAny_call_def (by have:=hx.dep;exact bj 757094035331352 this) (X _ _ ho) rfl (T.nolimit.keeps n.F.keep) (codeRec_of X mY) rfl (hb _ vs X ru.length.symm) lS (fun y hy=> ?_) (fun h₁ pD hk₁=> ?_) Lv yW yX
 ·exact of_decide_eq_true (aaZ.mp kT y.1 (adO hy).1)
 ·refine cY FG.ns fun oL es ep hLg hLd hLk hLf=> ?_;have fsE:(e.iU::e.outer).filterMap (·.frame)= [e.L]:=by refine i4 ▸ ?_;rfl
  have cx:Cs ⟨e.w,e.A.deeper (envOf qual scope x.heap.objs.size f dS),e.A,e.base,hideAll x.heap (aa.map (·.1)),e.iU::e.outer,x.heap.objs.size,qual,scope,f,dS,k,scope,[],none,fun Z=>none⟩:=⟨⟨BG,hx.X.keeps st,⟨fc,mg,mb,T.keeps st⟩,by
    show e.A.frames.map _=_;refine hx.hA ▸ ?_;rfl,yX,yX,rfl,rfl,fB fT rfl rfl (fun Z=>rfl),(hx.dn hk).1,(hx.dn hk).2,hx.hh⟩,by show(KK e.w.params).In e.base;simp only[fY];exact hx.X,by
    refine fY ▸ ?_;exact hx.T,fun b hb=>by
    have hb:b∈(e.iU::e.outer).filterMap (·.frame):=hb;replace hb:=fsE ▸ hb;cases abH.mp hb;exact⟨oL,es,ep,hLg,hLd⟩⟩
  have now:aU ⟨e.w,e.A.deeper (envOf qual scope x.heap.objs.size f dS),e.A,e.base,hideAll x.heap (aa.map (·.1)),e.iU::e.outer,x.heap.objs.size,qual,scope,f,dS,k,scope,[],none,fun Z=>none⟩ ad (fun y=>(names.zip vs).reverse.lookup y) aa ⟨names.zip us,σ⟩ h₁:=
   ⟨(⟨pD,fun b o e=>hk₁ b o (of_hideAll _ e),aes (hideAll_size _ _)⟩:Fr (hideAll x.heap (aa.map (·.1))) x.heap.objs.size h₁ (fun y=>(names.zip vs).reverse.lookup y)),(fun p hp=>⟨hk₁ _ _ (n.N p hp).1,adg (Heap.lt_size (n.N p hp).1),hideAll_none _ (List.mem_map_of_mem hp)⟩:News (hideAll x.heap (aa.map (·.1))) x.heap.objs.size h₁ aa),n.nd,fun y v e'=>jz eC ru e',n.len,n.fP,n.fb,n.gp,n.rep⟩
  refine h _ cx ⟨rfl,rfl,rfl,rfl⟩ rfl rfl rfl _ .refl ({x with heap:=h₁,toks:=x.toks+(names.zip vs).length}) ad _ aa now _ _ fun fl JZ c' h' tk aF m' ag g' T2 q n' y r=> ?_;have PS:KtsTurn ((e.iU::e.outer).filterMap (·.frame)) (hideAll x.heap (aa.map (·.1))) g':=T2;have PS:=fsE ▸ PS;refine aA (PS.up hLg) fun sl hs=> ?_;have F0:Fr e.h₀ e.L h' m:=⟨⟨_,es,ep,n'.F.keep _ _ hs,hLd,hLk,hLf⟩,fun b o hb=>n'.F.keep b o (PS.other b o (st b o hb) (fun z=>by rw[abH.mp z,(kts_self n.F)]at hb;exact aZ hb)),n.F.above⟩;have N0:News e.h₀ e.L h' ag:=fun p hp=>by
   have DJ:g'.get? p.1=none:=(n'.N p hp).2.2;refine⟨(n'.N p hp).1,fun z=> ?_,?_⟩
   ·simp only[z,hs]at DJ;exact KV DJ
   ·cases z:e.h₀.get? p.1 with
    | none=>rfl
    | some o=>refine aA (PS.up (st _ _ z)) fun sl' qn=> ?_;have qn:=DJ ▸ qn;exact aZ qn
  have nn:lR e aF m ag c'.aj h':=⟨F0,N0,n'.nd,(fun Z Z e=>aZ e),n'.len,n'.fP,n'.fb,n'.gp,n'.rep⟩;cases fl with
  | next=>cases r;exact p _ _ _ _ _ _ _ q nn y rfl
  | brk=>cases r;exact p _ _ _ _ _ _ _ q nn y rfl
  | cont=>cases r;exact p _ _ _ _ _ _ _ q nn y rfl
  | ret v=>refine ah r fun v' PT rv=> ?_;exact PT ▸ p _ _ _ _ _ _ _ q nn y rv
theorem pT:jV w {cls:=.type "dict",data:=.dict #[]} [] 0:=⟨#[],⟨rfl,rfl,rfl⟩,rfl,fun Z h=>by simp at h,.nil,aek⟩
theorem vx(h:Q (.ref c.aj.length) {c with aj:=c.aj++ [.bo 0 []]}):Wp e VR (eval (.Dict [] [] pos) e.env) c Q:=by intro x ad m aa n R E p;simp only[eval_Dict_empty];refine bL (n.push (o:=.bo 0 []) rfl fun l hl=>⟨[],pT,.nil⟩) fun n2 x2 r2=>wpAny_bind (wpAny_standAt (wpAny_newObj_type (p _ _ _ _ _ _ _ _ h n2 x2 r2)))
theorem cL.Ii {ad:Ad}(n:aU e ad m aa c h)(hs:c.aj[i]? =some (.vals .int [])):aU e ad m aa {c with aj:=c.aj.set i (.refs [])} h:=by
 refine⟨n.F,n.N,n.nd,n.loc,by simpa using n.len,by simpa using n.fP,n.fb,n.gp,fun j o ej=> ?_⟩;by_cases hj:j=i
 ·refine cps fun Z zk=> ?_;subst hj;refine nh (n.rep j _ hs) fun a ow ob h1 h2 h3 h4 PU=>bG PU fun its k PX hi hz=> ?_;subst PX;have bT:j<c.aj.length:=(aab.mp hs).1;replace ej:=(adC bT) ▸ ej;obtain rfl:=aah.inj ej;cases hi;refine zk (⟨a,ow,_,h1,h2,h3,h4,[],k,rfl,.nil,by simp⟩)
 ·rw[acr (Ne.symm hj)]at ej;exact n.rep j o ej
end
abbrev dQ:Scope:=au (cst 9 8)
abbrev vy:List Stmt:=ar (cst 9 8)
abbrev BX:Stmt:=at_ vy 5
abbrev UJ:Stmt:=at_ (ax BX) 0
abbrev DK:Stmt:=at_ (ax BX) 1
abbrev wW:Stmt:=at_ (ax DK) 0
abbrev DL:Stmt:=at_ (ax DK) 1
abbrev jb:Stmt:=at_ (ax DL) 0
theorem DM:vy=vy.take 3++ [.Assign [.Name (s "seen") (aw (i6 0 (at_ vy 3)))] (ak (at_ vy 3)) (bZ (at_ vy 3)),.Assign [.Name (s "node2stacki") (aw (i6 0 (at_ vy 4)))] (.Dict [] [] (K4 (ak (at_ vy 4)))) (bZ (at_ vy 4)),.For (.Name (s "node") (Vo BX)) (aG BX) (ax BX) [] (bZ BX),at_ vy 6]:=by kernel_rfl
theorem Ij:ax BX= [.If (bU UJ) [.Continue (Ub (at_ (ax UJ) 0))] [] (bZ UJ),.While (bU DK) (ax DK) [] (bZ DK)]:=by kernel_rfl
theorem Ik:ax DK= [.If (bU wW) (ax wW) (ik wW) (bZ wW),.While (bU DL) (ax DL) [.Break (Ub (at_ (ik DL) 0))] (bZ DL)]:=by kernel_rfl
theorem Il:ax DL= [.Try [.Assign [.Name (s "node") (aw (i6 0 (at_ (s7 jb) 0)))] (.Call (cF (ak (at_ (s7 jb) 0))) [] [] (aw (ak (at_ (s7 jb) 0)))) (bZ (at_ (s7 jb) 0)),.Break (Ub (at_ (s7 jb) 1))] [.ExceptHandler (some (.Name (s "StopIteration") (Vr jb))) none (at_ (fH jb) 0:: [at_ (fH jb) 1]) (Vq jb)] [] [] (Vs jb)]:=by kernel_rfl
theorem Im:at_ (fH jb) 0= .Delete [.Subscript (dh (oU (at_ (fH jb) 0))) (.Call (.Attribute (aR (ec (oU (at_ (fH jb) 0)))) (s "pop") (aw (cF (ec (oU (at_ (fH jb) 0)))))) [] [] (aw (ec (oU (at_ (fH jb) 0))))) (aw (oU (at_ (fH jb) 0)))] (Ub (at_ (fH jb) 0)):=by kernel_rfl
theorem Io:at_ (fH jb) 1= .Expr (.Call (.Attribute (aR (ak (at_ (fH jb) 1))) (s "pop") (aw (cF (ak (at_ (fH jb) 1))))) [] [] (aw (ak (at_ (fH jb) 1)))) (bZ (at_ (fH jb) 1)):=by kernel_rfl
section
variable{e:Fm}{c:St}
theorem fv.conv {α β:Type}{aJ:Ad->Led->α->β->Prop}{t:Sem β}{Q:α->St->Prop}(k:∀g ad m aa h,aU (e.at g) ad m aa c h->aU (e.at g) ad m aa c' h)(h:fv e aJ t c' Q):fv e aJ t c Q:=
 fun g T x ad m aa n R E p=>h g T x ad m aa (k _ _ _ _ _ n) R E p
theorem FF(h:fv e cD (isTrue test e.env (eval test e.env)) c fun b c1=>(b=true->fv e bN (execs body e.env) c1 Q)/\(b=false->fv e bN (execs orelse e.env) c1 Q)):fv e bN (exec (.If test body orelse pos) e.env) c Q:=
 fun g T x ad m aa n R E p=>wpAny_If (h g T x ad m aa n _ E fun b b' c1 h1 dF bx m1 av g1 T1 q1 n1 x1 r1=>by
  subst r1;cases b with
  | true=>exact q1.1 rfl g1 (T.trans T1) _ bx m1 av n1 R E (p.ext T1 x1)
  | false=>exact q1.2 rfl g1 (T.trans T1) _ bx m1 av n1 R E (p.ext T1 x1))
theorem tU(hx:Cx e)(hs:e.scope=sc)(hl:(Fast.sEq y (s "__debug__")=false)/\look sc.names y=some .local/\look l y=some v)(h:Q v ⟨l,σ⟩):Wp {e with A:=e.A.mark (some v0)} VR (eval (.Name y pos) e.env) ⟨l,σ⟩ Q:=
 Ak hx hl.1 (hs ▸ hl.2.1) hl.2.2 h
theorem Ip(hx:Cs e)(ry:BW e)(hk:e.k=k+1)(hf:FnAt e.w.params f x qual dV){names:List Str} (hb:∀(kV doc pm dS ct:Value) an (vs:List Value),vs.length=us.length->bindArgs (fnOf (fnName x) qual (fy x) (ar x) (au x) dV kV doc pm an dS ct) ⟨vs,[]⟩=pure (names.zip vs)) (eC:(decide names.Nodup&&names.all fun y=>decide ((au x).names.lookup y=some .local))=true) (h:∀e':Fm,Cs e'->BW e'->e'.w=e.w->e'.k=k->e'.scope=au x->fv e' bN (execs (ar x) e'.env) ⟨names.zip us,σ⟩ (oW Q)):mC e us (.ref f) σ Q:=by refine cps fun Z zk=>sW hf fun kV doc pm an dS ct ho mY hs=> ?_;simp only[ac5]at hs;refine aI hs fun PY h4=> ?_;obtain⟨⟨h1,h2⟩,h3⟩:=PY;refine zk ?_;simp only[abD,decide_eq_true_eq]at eC;exact PO hx ry hk ho mY (fun x' vs hX hv=>BindsTo.of_eq (hb _ _ _ _ _ _ vs hv)) eC.1 eC.2 h1 h2 (by simpa using h3) (by simpa using h4) h
theorem Iq(hx:Cx e)(i4:e.outer= [])(fY:e.base=e.h₀)(hk:e.k=k+1)(hf:FnAt e.w.params f x qual dV){names:List Str} (hb:∀(kV doc pm dS ct:Value) an (vs:List Value),vs.length=us.length->bindArgs (fnOf (fnName x) qual (fy x) (ar x) (au x) dV kV doc pm an dS ct) ⟨vs,[]⟩=pure (names.zip vs)) (eC:(decide names.Nodup&&names.all fun y=>decide ((au x).names.lookup y=some .local))=true) (h:∀e':Fm,Cs e'->BW e'->e'.w=e.w->e'.k=k->e'.scope=au x->fv e' bN (execs (ar x) e'.env) ⟨names.zip us,σ⟩ (oW Q)):af e us (.ref f) σ Q:=by refine sW hf fun kV doc pm an dS ct ho mY hs=> ?_;simp only[ac5]at hs;obtain⟨⟨⟨h1,h2⟩,h3⟩,h4⟩:=hs;simp only[abD,decide_eq_true_eq]at eC;exact PR hx i4 fY hk ho mY (fun x' vs hX hv=>BindsTo.of_eq (hb _ _ _ _ _ _ vs hv)) eC.1 eC.2 h1 h2 (by simpa using h3) (by simpa using h4) h
theorem tV(hx:Cs e)(h1:cS o=true)(h4:(apos.endLine==pos.line)=true)(hy:look e.scope.names y=some .local)(PZ:eY e.w.params (.ref f)=true) (ho:∀g,Cs (e.at g)->Wp (e.at g) VR (eval o e.env) c fun u c1=>u= .ref i/\c1=c/\∀pl,cP (e.at g) MR (.ref i) (fun v=>getMethod v name pl) c fun fm c2=>fm=(.ref f,[.ref i])/\c2=c) (h:mC e [.ref i] (.ref f) c.aj fun v σ=>Q .next ⟨put c.loc y v,σ⟩):fv e bN (exec (.Assign [.Name y p1] (.Call (.Attribute o name apos) [] [] pos) p2) e.env) c Q:=by intro g T x ad m aa n R E p;refine wpAny_Assign_Name (MethodCall_ (ho g (hx.turn T) x ad m aa n _ E fun u u' c1 td dF bx m1 av q1 n1 x1 r1=> ?_) (k9 h1 rfl (by decide) h4)) (aH rfl _ _ _);obtain⟨rfl,rfl,q⟩:=q1;refine q _ _ bx m1 av u' n1 r1 _ E fun fm Lh c2 yJ gI bp m2 ay q2 n2 x2 r2=> ?_;obtain⟨rfl,rfl⟩:=q2;obtain⟨f',nT⟩:=Lh;obtain⟨rfl,ru⟩:=r2;refine callWith_of rfl (iL PZ) (evalArgs_nil3 ⟨(hx.turn T).cx.X.keeps n2.F.keep,?_⟩);rw[ab5];refine wpAny_call (h g T _ bp m2 ay nT n2.aj ru _ E fun v v' σ' h' tk aF ag g' T' q n' y' rv=> ?_);refine cE (Q:=fun Z c'=>c'=⟨put c2.loc y v,σ'⟩) ((hx.turn T).turn T').cx hy rfl {x with heap:=h',toks:=tk} aF m2 _ v' (⟨n'.F,n'.N,n'.nd,(fun z u ez=>let ⟨u',e',r⟩:=n2.loc z u ez;⟨u',e',VR.mono y' r⟩),n'.len,n'.fP,n'.fb,n'.gp,n'.rep⟩:aU (e.at g') aF m2 ag ⟨c2.loc,σ'⟩ h') rv _ _ fun Z Z c5 h5 uR nY m5 dU q5 n5 x5 Z=> ?_;subst q5;exact p .next .next _ _ _ _ _ _ _ T' q n5 (((x1.trans x2).trans y').trans x5) rfl
end
noncomputable abbrev UK:Value:=.builtin "list_iterator.__next__"
noncomputable def jl(B:List AO)(st:List Int)(ws:List Nat)(S:Int->Bool)(n ep:Nat)(ds:List (Int×V))(I:List AO):List AO:=B++(.vals .int st:: .refs ws:: .ig S n:: .bo ep ds::I)
section
variable{B:List AO}{st:List Int}{ws:List Nat}{S:Int->Bool}{n ep:Nat}{ds:List (Int×V)}{I:List AO}
theorem oB{i:Nat}(h:B[i]? =some o):(jl B st ws S n ep ds I)[i]? =some o:=by unfold jl;rw[aaY (aab.mp h).1];exact h
theorem cO(j:Nat):(jl B st ws S n ep ds I)[B.length+j]? =(.vals .int st:: .refs ws:: .ig S n:: .bo ep ds::I:List AO)[j]? :=by unfold jl;rw[abF (ab2 _ _)];congr 1;exact aac (bj 2208033708312 (cA (ab2 _ _))) (bj 2268431685912 eH)
theorem fZ(j:Nat)(o:AO):(jl B st ws S n ep ds I).set (B.length+j) o=B++(.vals .int st:: .refs ws:: .ig S n:: .bo ep ds::I:List AO).set j o:=by unfold jl;rw[acG _ _ (by lia)];congr 2;lia
theorem Al(r:Nat):(jl B st ws S n ep ds I)[B.length+4+r]? =I[r]? :=by simp only[show B.length+4+r=B.length+(r+4) by lia,cO];rfl
theorem rW(r:Nat)(o:AO):(jl B st ws S n ep ds I).set (B.length+4+r) o=jl B st ws S n ep ds (I.set r o):=by simp only[show B.length+4+r=B.length+(r+4) by lia,fZ];rfl
theorem vz:(jl B st ws S n ep ds I).length=B.length+4+I.length:=by unfold jl;simp;exact aac (ba 0x1e099bbbb199990908) (ba 0xbbbb19999091e09908)
theorem vA(l:List AO):jl B st ws S n ep ds I++l=jl B st ws S n ep ds (I++l):=by unfold jl;simp
end
noncomputable def Sv:List Nat->Int->Bool
 | []=>fun Z=>false
 | u::r=>Ac (Sv r) u
theorem Ir:∀ {dH:List Nat},Sv dH z=true↔∃u∈dH,z=(u:Int):=by
 intro dH;induction dH with
 | nil=>exact⟨fun h=>gu h,fun⟨_,h,_⟩=>bg h⟩
 | cons v r ih=>
  rw[show Sv (v::r)=Ac (Sv r) v from rfl];simp only[Ac,aeg,decide_eq_true_eq,(ih)];constructor
  ·rintro(⟨u,h,e⟩ | h)
   ·exact⟨u,.tail _ h,e⟩
   ·exact⟨v,.head _,h⟩
  ·rintro⟨u,h,e⟩;rcases abi.mp h with q | q
   ·subst q;exact .inr e
   ·exact .inl ⟨u,q,e⟩
theorem Am{u:Nat}:Sv dH (u:Int)=true↔u∈dH:=by
 rw[Ir];constructor
 ·rintro⟨v,h,e⟩;have:u=v:=aac (acF.mp (ij e)) (acF.mp (jv e));exact this ▸ h
 ·intro h;exact⟨u,h,rfl⟩
noncomputable def sumTo(f:Nat->Nat):Nat->Nat
 | 0=>0
 | n+1=>sumTo f n+f n
theorem pU:sumTo f (n+1)=sumTo f n+f n:=rfl
theorem wX:∀ {n:Nat},n<=u->sumTo (up1 f u x) n=sumTo f n:=by
 intro n;induction n with
 | zero=>exact fun Z=>rfl
 | succ n ih=>intro h;rw[pU,ih (aco h)];unfold up1;rw[if_neg (adg h)];rfl
theorem rX{n:Nat}:u<n->sumTo (up1 f u x) n+f u=sumTo f n+x:=by
 induction n with
 | zero=>exact fun h=>absurd h (Nat.not_lt_zero _)
 | succ n ih=>
  intro h;rw[pU,pU];by_cases q:u=n
  ·subst q;rw[wX (abE _)];unfold up1;exact(if_pos rfl) ▸ aac (bj 19832314566920) (bj 19832314566920)
  ·have:=ih (aca (aeo h) q);have e:up1 f u x n=f n:=by unfold up1;rw[if_neg (fun zq=>q zq.symm)]
   rw[e];exact aac (nj 0x3429914099329109918 (bh this)) (nj 0x3429914099329109918 (bl this))
noncomputable abbrev Ki(aq:List Nd)(u:Nat):Nat:=(aq.getD u (0,[])).2.length
abbrev pV:=List (Nat×Nat×Nat)
noncomputable abbrev pV.st (k:pV):List Int:=k.map fun x=>(x.1:Int)
structure FG(N:Nat)(aq:List Nd)(eW:pV)(dH:List Nat)(rem:Nat->Nat)(ds:List (Int×V))(I:List AO):Prop where
 inc:eW.Pairwise fun a b=>a.1<b.1
 it:∀x∈eW,x.1<aq.length/\I[x.2.1]? =some (.cK (5+3*x.1) x.2.2)/\I[x.2.1+1]? =some (.wrap UK (N+4+x.2.1))/\Ki aq x.1<=rem x.1+x.2.2/\x.1∈dH
 nd:(eW.map (·.2.1)).Nodup
 vn:dH.Nodup
 vl:∀u∈dH,u<aq.length
 un:∀u,u<aq.length->u∉dH->Ki aq u+1<=rem u
 dk:ds.map (·.1)=eW.st
theorem mD:(dX es k).isSome=true↔k∈es.map (·.1):=by
 unfold dX;rw[Option.isSome_map,List.find?_isSome,ab6];constructor
 ·rintro⟨x,h,e⟩;exact⟨x,h,by simpa using e⟩
 ·rintro⟨x,h,e⟩;exact⟨x,h,by simpa using e⟩
theorem An(h:k∉es.map (·.1)):ml es k v=es++ [(k,v)]:=by unfold ml;rw[if_neg];intro q;rw[List.any_eq_true]at q;refine ah q fun x hx e=>h (ab6.mpr ⟨x,hx,by simpa using e⟩)
theorem wY:(rB es k).map (·.1)=(es.map (·.1)).filter fun z=>decide (z≠k):=by simp only[List.filter_map];rfl
section
variable{N:Nat}{aq:List Nd}{eW s':pV}{dH:List Nat}{rem:Nat->Nat}{ds:List (Int×V)}{I:List AO}{u i k:Nat}
theorem FG.lt (h:FG N aq (s'++ [(u,i,k)]) dH rem ds I):∀x∈s',x.1<u/\x.2.1≠i/\x.2.1+1≠i:=fun x hx=>by have h2:=h.nd;simp only[acq]at h2;refine⟨((acZ.mp h.inc).2.2 x hx (u,i,k) (.head _)),((ads.mp h2).2.2 x.2.1 (List.mem_map_of_mem hx) i (.head _)),fun z=> ?_⟩;have h4:=(h.it x (abn.mpr (.inl hx))).2.2.1;have h5:=(h.it (u,i,k) (abn.mpr (.inr (.head _)))).2.1;simp only[z]at h4;have h5:=h4 ▸ h5;exact Vw h5 rfl
theorem FG.len (h:FG N aq eW dH rem ds I):eW.length<=aq.length/\dH.length<=aq.length/\ds.length=eW.length:=by
 have key:∀l:List Nat,l.Nodup->(∀u∈l,u<aq.length)->l.length<=aq.length:=fun l nd hl=>by have:=List.Nodup.length_le_of_subset nd (fun x hx=>acB.mpr (hl x hx));simpa using this
 refine⟨?_,key dH h.vn h.vl,?_⟩
 ·have:=key (eW.map (·.1)) (by
   rw[List.nodup_iff_pairwise_ne,ad0];exact h.inc.imp fun q=>adg q) (fun u hu=>by
   refine ah (ab6.mp hu) fun x hx P0=>P0 ▸ (h.it x hx).1)
  simpa using this
 ·simpa using (congrArg ade h.dk)
theorem FG.step (h:FG N aq (s'++ [(u,i,k)]) dH rem ds I)(hk:k<Ki aq u):FG N aq (s'++ [(u,i,k+1)]) dH (up1 rem u (rem u-1)) ds (I.set i (.cK (5+3*u) (k+1)))/\sumTo (up1 rem u (rem u-1)) aq.length<sumTo rem aq.length:=by
 have ht:=h.it (u,i,k) (abn.mpr (.inr (.head _)));dsimp only at ht;obtain⟨t1,t2,t3,t4,t5⟩:=ht;refine⟨⟨?_,fun x hx=> ?_,?_,h.vn,h.vl,fun v hv hn=> ?_,?_⟩,?_⟩
 ·have:=h.inc;rw[acZ]at this ⊢;exact⟨this.1,adY ..,fun a ha b hb=>by simp only[abH.mp hb];exact(h.lt a ha).1⟩
 ·rcases abn.mp hx with q | q
  ·refine vV (h.it x (abn.mpr (.inl q))) fun a1 a2 a3 a4 a5=>bL (h.lt x q) fun b1 b2 b3=> ?_;refine⟨a1,?_,?_,?_,a5⟩
   ·rw[acr (Ne.symm b2)];exact a2
   ·rw[acr (Ne.symm b3)];exact a3
   ·unfold up1;exact(if_neg (adg b1)) ▸ a4
  ·rw[abH.mp q];refine⟨t1,?_,?_,?_,t5⟩
   ·rw[acK,if_pos rfl,if_pos ((aab.mp t2).1)]
   ·dsimp only;rw[acr (by lia)];exact t3
   ·unfold up1;refine(if_pos rfl) ▸ ?_;dsimp only;exact dZ 0xb29390b39192190928 t4 eH
 ·simpa using h.nd
 ·unfold up1;rw[if_neg (fun z=>hn (by exact z ▸ t5))];exact(h.un v hv hn)
 ·have:=h.dk;simpa[pV.st]using this
 ·have:=rX (f:=rem) (x:=rem u-1) t1;exact dZ 0x2b091b399329109928 (bh this) (cA (bj 7612097543866664 t4 hk))
theorem FG.pop (h:FG N aq (s'++ [(u,i,k)]) dH rem ds I):FG N aq s' dH rem (rB ds u) (I.set i .dK):=by
 refine⟨(acZ.mp h.inc).1,fun x hx=> ?_,?_,h.vn,h.vl,h.un,?_⟩
 ·refine vV (h.it x (abn.mpr (.inl hx))) fun a1 a2 a3 a4 a5=>bL (h.lt x hx) fun b1 b2 b3=> ?_;exact⟨a1,by rw[acr (Ne.symm b2)];exact a2,by rw[acr (Ne.symm b3)];exact a3,a4,a5⟩
 ·have:=h.nd;rw[acq]at this;exact(ads.mp this).1
 ·rw[wY,h.dk];unfold pV.st;rw[acq,ac3];have e1:(s'.map fun x=>(x.1:Int)).filter (fun z=>decide (z≠(u:Int)))=s'.map fun x=>(x.1:Int):=by
   rw[List.filter_eq_self];intro a ha;refine ah (ab6.mp ha) fun x hx P1=> ?_;subst P1;have:=(h.lt x hx).1;simp;exact fun zq=>cB (ba 0xab0b1991808128 (jv zq) this)
  rw[e1];simp
theorem FG.push (h:FG N aq eW dH rem ds I)(hu:u<aq.length)(hv:u∉dH)(bT:∀x∈eW,x.1<u):FG N aq (eW++ [(u,I.length,0)]) (u::dH) (up1 rem u (Ki aq u)) (ml ds u v) (I++ [.cK (5+3*u) 0,.wrap UK (N+4+I.length)])/\sumTo (up1 rem u (Ki aq u)) aq.length<sumTo rem aq.length:=by
 refine⟨⟨?_,fun x hx=> ?_,?_,acD.mpr ⟨hv,h.vn⟩,fun w hw=> ?_,fun w hw hn=> ?_,?_⟩,?_⟩
 ·simp only[acZ];exact⟨h.inc,adY ..,fun a ha b hb=>by rw[abH.mp hb];exact bT a ha⟩
 ·rcases abn.mp hx with q | q
  ·refine vV (h.it x q) fun a1 a2 a3 a4 a5=>⟨a1,?_,?_,?_,.tail _ a5⟩
   ·rw[aaY (aab.mp a2).1];exact a2
   ·rw[aaY (aab.mp a3).1];exact a3
   ·unfold up1;rw[if_neg (adg (bT x q))];exact a4
  ·rw[abH.mp q];refine⟨hu,by simp,?_,?_,.head _⟩
   ·dsimp only;rw[abF (ab2 _ _)];simp
   ·unfold up1;rw[if_pos rfl];exact abE _
 ·rw[acq,ads];refine⟨h.nd,by simp,fun a ha b hb=> ?_⟩;simp at hb;refine ah (ab6.mp ha) fun x hx P2=> ?_;subst P2;have:=(aab.mp (h.it x hx).2.1).1;exact hb ▸ adg this
 ·rcases abi.mp hw with q | q
  ·exact q ▸ hu
  ·exact h.vl w q
 ·have qp:w≠u:=fun z=>hn (by exact z ▸ .head _);unfold up1;rw[if_neg qp];exact(h.un w hw fun z=>hn (.tail _ z))
 ·rw[An (by
   rw[h.dk];intro z;refine ah (ab6.mp z) fun x hx e=>cB (ba 0xab081811b09928 (bT x hx) (jv e))),acq,h.dk]
  simp
 ·exact dZ 0x2b091b399329109928 (bh (rX hu)) (h.un u hu hv)
end
abbrev Kj(N:Nat):List (Str×V):= [(s "self",.ref 0),(s "n2i",.ref 2),(s "stack",.ref N),(s "itstack",.ref (N+1)),(s "seen",.ref (N+2)),(s "node2stacki",.ref (N+3))]
abbrev fG(N:Nat)(z:Int):List (Str×V):=Kj N++ [(s "node",.pv (.int z))]
abbrev tW:Stmt:=at_ (ik wW) 0
abbrev wZ:Stmt:=at_ (ik wW) 1
abbrev nJ:Stmt:=at_ (ik wW) 2
abbrev tX:Stmt:=at_ (ik wW) 3
abbrev DN:Expr:=az 0 (ak wZ)
abbrev w4:Expr:=az 0 (aR DN)
abbrev UL:Stmt:=at_ (ax wW) 0
abbrev P4:Expr:=cF (ak (at_ (s7 jb) 0))
theorem Iu:ax wW= [.If (bU UL) (ax UL) [] (bZ UL)]:=by kernel_rfl
theorem DO:ik wW= [.Expr (.Call (.Attribute (aR (ak tW)) (s "add") (aw (hG (ak tW)))) (dE (ak tW)) [] (aw (ak tW))) (bZ tW),.Expr (.Call (.Attribute (aR (ak wZ)) (s "append") (aw (hG (ak wZ)))) [.Attribute (.Call (.Name (s "iter") (aw (hG (aR DN)))) [.Attribute (.Subscript (dh (aR w4)) (ec (aR w4)) (aw (aR w4))) (s "successors") (aw w4)] [] (aw (aR DN))) (s "__next__") (aw DN)] [] (aw (ak wZ))) (bZ wZ),.Assign [.Subscript (dh (i6 0 nJ)) (ec (i6 0 nJ)) (aw (i6 0 nJ))] (.Call (.Name (s "len") (aw (hG (ak nJ)))) [az 0 (ak nJ)] [] (aw (ak nJ))) (bZ nJ),.Expr (.Call (.Attribute (aR (ak tX)) (s "append") (aw (hG (ak tX)))) (dE (ak tX)) [] (aw (ak tX))) (bZ tX)]:=by kernel_rfl
theorem Ao:cF (ak (at_ (s7 jb) 0))= .Subscript (dh P4) (ec P4) (aw P4):=by kernel_rfl
section
variable(P:Params)(e:Fm)(Q:AF->St->Prop)(K:V->St->Prop)(B:Bool->St->Prop)(N:Nat)(z:Int)(σ:List AO)
theorem ZY(R:V)(po fi:Int)(ep:Nat)(es:List (Int×V))(r:List AO):cZ (xw e P dQ 40) (vy.take 3) ⟨[(s "self",.ref 0)],bR R po fi ep es r⟩ Q= (([]:List V).length<=100000/\([]:List V).length<=100000/\Q .next ⟨[(s "self",.ref 0),(s "n2i",.ref 2),(s "stack",.ref (bR R po fi ep es r).length),(s "itstack",.ref (bR R po fi ep es r++ [AO.vals .int []]).length)],bR R po fi ep es r++ [.vals .int []]++ [.vals .int []]⟩):=by kernel_rfl
theorem ZZ(c:St):ew e P dQ 40 (ak (at_ vy 3)) c K=cN e VR [] (fun dc=>call (.type "set") dc) c K:=by kernel_rfl
theorem P5(l:List (Str×V)):ew e P dQ 40 (aG BX) ⟨Kj N++l,σ⟩ K=K (.ref 2) ⟨Kj N++l,σ⟩:=by kernel_rfl
theorem P6:tw e (ew e P dQ 40) 40 (bU UJ) ⟨fG N z,σ⟩ B=bM e VR (.pv (.int z)) (.ref (N+2)) (compareOp .In) ⟨fG N z,σ⟩ fun v c3=>cP e cD v truthy c3 B:=by kernel_rfl
theorem P7:tw e (ew e P dQ 40) 40 (bU wW) ⟨fG N z,σ⟩ B=bM e VR (.pv (.int z)) (.ref (N+2)) (compareOp .In) ⟨fG N z,σ⟩ fun v c3=>cP e cD v truthy c3 B:=by kernel_rfl
theorem P8:tw e (ew e P dQ 40) 40 (bU UL) ⟨fG N z,σ⟩ B=bM e VR (.pv (.int z)) (.ref (N+3)) (compareOp .In) ⟨fG N z,σ⟩ fun v c3=>cP e cD v truthy c3 B:=by kernel_rfl
theorem P9(c:St):tw e (ew e P dQ 40) 40 (bU DK) c B=B true c:=by kernel_rfl
theorem Z0:ew e P dQ 40 (bU DL) ⟨fG N z,σ⟩ K=K (.ref N) ⟨fG N z,σ⟩:=by kernel_rfl
theorem Qa:ew e P dQ 40 (aR (ak tW)) ⟨fG N z,σ⟩ K=K (.ref (N+2)) ⟨fG N z,σ⟩:=by kernel_rfl
theorem Qb:mQ e P dQ 39 (dE (ak tW)) K (.builtin "set.add",[.ref (N+2)]) ⟨fG N z,σ⟩=cN e VR [.ref (N+2),.pv (.int z)] (fun dc=>call (.builtin "set.add") dc) ⟨fG N z,σ⟩ K:=by kernel_rfl
theorem Qc:ew e P dQ 40 (aR (ak wZ)) ⟨fG N z,σ⟩ K=K (.ref (N+1)) ⟨fG N z,σ⟩:=by kernel_rfl
theorem Qd:ew e P dQ 40 (dh (aR w4)) ⟨fG N z,σ⟩ K=K (.ref 2) ⟨fG N z,σ⟩:=by kernel_rfl
theorem Qe:ew e P dQ 40 (ec (aR w4)) ⟨fG N z,σ⟩ K=K (.pv (.int z)) ⟨fG N z,σ⟩:=by kernel_rfl
theorem Qf(c:St):cM P dQ (s "iter") c K False=K (.glob (.builtin "iter")) c:=by kernel_rfl
theorem Qg(c:St):cM P dQ (s "len") c K False=K (.glob (.builtin "len")) c:=by kernel_rfl
theorem Qh:ew e P dQ 40 (az 0 (ak nJ)) ⟨fG N z,σ⟩ K=K (.ref N) ⟨fG N z,σ⟩:=by kernel_rfl
theorem Qi:ew e P dQ 40 (dh (i6 0 nJ)) ⟨fG N z,σ⟩ K=K (.ref (N+3)) ⟨fG N z,σ⟩:=by kernel_rfl
theorem Qj:ew e P dQ 40 (ec (i6 0 nJ)) ⟨fG N z,σ⟩ K=K (.pv (.int z)) ⟨fG N z,σ⟩:=by kernel_rfl
theorem Qk:ew e P dQ 40 (aR (ak tX)) ⟨fG N z,σ⟩ K=K (.ref N) ⟨fG N z,σ⟩:=by kernel_rfl
theorem Ql(i:Nat):mQ e P dQ 39 (dE (ak tX)) K (.builtin "list.append",[.ref i]) ⟨fG N z,σ⟩=gD e (.builtin "list.append") [.ref i,.pv (.int z)] ⟨fG N z,σ⟩ K:=by kernel_rfl
theorem Qm:ew e P dQ 40 (dh P4) ⟨fG N z,σ⟩ K=K (.ref (N+1)) ⟨fG N z,σ⟩:=by kernel_rfl
theorem Qn:ew e P dQ 40 (ec P4) ⟨fG N z,σ⟩ K=K (.pv (.int (-1))) ⟨fG N z,σ⟩:=by kernel_rfl
theorem Iv(c:St):cZ (xw e P dQ 40) [at_ vy 6] c Q=Q (.ret (.pv .none)) c:=by kernel_rfl
theorem Qo(l:List (Str×V))(hl:l= []\/∃z,l= [(s "node",.pv (.int z))]):put (Kj N++l) (s "node") (.pv (.int z))=fG N z:=by rcases hl with rfl | ⟨z',rfl⟩ <;> kernel_rfl
end
theorem pW:look dQ.names (s "node")=some .local/\look dQ.names (s "seen")=some .local/\look dQ.names (s "node2stacki")=some .local:=by and_intros<;>kernel_rfl
abbrev Z1:Expr:=dh (oU (at_ (fH jb) 0))
abbrev Z2:Expr:=aR (ec (oU (at_ (fH jb) 0)))
abbrev Z3:Expr:=aR (ak (at_ (fH jb) 1))
theorem mE:dh (oU (at_ (fH jb) 0))= .Name (s "node2stacki") (aw Z1)/\aR (ec (oU (at_ (fH jb) 0)))= .Name (s "stack") (aw Z2)/\aR (ak (at_ (fH jb) 1))= .Name (s "itstack") (aw Z3):=by and_intros<;>kernel_rfl
section
noncomputable abbrev w5(B:List AO)(eW:pV)(dH:List Nat)(ep:Nat)(ds:List (Int×V))(I:List AO):List AO:=jl B eW.st (eW.map fun x=>B.length+4+(x.2.1+1)) (Sv dH) dH.length ep ds I
structure FB(B:List AO)(aq:List Nd)(vB:Nat):Prop where
 d:B[2]? =some (.bo vB (ents aq.length))
 nd:∀u,u<aq.length->B[3+3*u]? =some (.dict [])/\B[4+3*u]? =some (.slot 100 (3+3*u) [some (.pv (.int (u:Int))),some (.pv (.int (aq.getD u (0,[])).1)),some (.ref (5+3*u))])/\B[5+3*u]? =some (.vals .int (aq.getD u (0,[])).2)
 up:∀u,u<aq.length->∀z∈(aq.getD u (0,[])).2,(u:Int)<z/\z<aq.length
 z:aq.length<900
variable{e:Fm}{B:List AO}{aq:List Nd}{vB:Nat}
theorem DP(hx:Cx e)(hs:e.scope=dQ){st:List Int}(hd:ds.length<=100000)(hu:(dX ds u).isSome=true) (h:∀dJ,Q .next ⟨fG B.length z,jl B st ws S m dJ (rB ds u) I⟩):Wp {e with A:=e.A.mark (some v0)} bN (execs (at_ (fH jb) 0:: [at_ (fH jb) 1]) e.env) ⟨fG B.length z,jl B (st++ [u]) (ws++ [w]) S m ep ds I⟩ Q:=by rw[Im,Io,mE.1,mE.2.1,mE.2.2];refine aT (wQ (tU (v:=.ref (B.length+3)) hx hs ⟨by kernel_rfl,by kernel_rfl,by kernel_rfl⟩ (oA hx rfl (by kernel_rfl) (tU hx hs ⟨by kernel_rfl,by kernel_rfl,by kernel_rfl⟩ fun pl=>gP (cO 0) (.inl ⟨_,_,rfl⟩) PySem.F.slot_list_pop PySem.F.type_list_pop ⟨(by rfl),E3 (cO 0) ?_⟩))));have e0:(jl B (st++ [u]) (ws++ [w]) S m ep ds I).set B.length (.vals .int st)=jl B st (ws++ [w]) S m ep ds I:=fZ 0 _;dsimp only[Kd.inj];refine e0 ▸ (Hs (cO 3) hd hu fun dJ=> ?_);have e1:(jl B st (ws++ [w]) S m ep ds I).set (B.length+3) (.bo dJ (rB ds u))=jl B st (ws++ [w]) S m dJ (rB ds u) I:=fZ 3 _;dsimp only;rw[e1];refine aT (gO hx.hk (aH rfl _ _ _) (oA hx rfl (by kernel_rfl) (tU hx hs ⟨by kernel_rfl,by kernel_rfl,by kernel_rfl⟩ fun pl=>gP (cO 1) (.inr ⟨_,rfl⟩) PySem.F.slot_list_pop PySem.F.type_list_pop ⟨(by rfl),Ih (cO 1) (cQ ?_)⟩)));dsimp only;rw[(fZ 1 _)];exact h dJ
theorem rY(hx:Cs e)(ry:BW e)(hs:e.scope=dQ)(hB:FB B aq vB)(h:FG B.length aq eW dH rem ds I)(hM:sumTo rem aq.length<=M) (Z4:∀(tY:pV) nK dJ qu I' (n:Nat),FG B.length aq tY dH nK qu I'->sumTo nK aq.length<M->n<aq.length->(∀x∈tY,x.1<n)->Q .next ⟨fG B.length n,w5 B tY dH dJ qu I'⟩) (Z5:∀dJ qu I',FG B.length aq [] dH rem qu I'->Q .brk ⟨fG B.length z,w5 B [] dH dJ qu I'⟩):fv e bN (exec (.While (bU DL) (ax DL) [.Break p] pos) e.env) ⟨fG B.length z,w5 B eW dH ep ds I⟩ Q:=by
 refine rU (fun n c=>∃eW ep ds I,n=eW.length/\FG B.length aq eW dH rem ds I/\c=⟨fG B.length z,w5 B eW dH ep ds I⟩) (fun n c hI=> ?_) eW.length ⟨eW,ep,ds,I,rfl,h,rfl⟩;obtain⟨eW,ep,ds,I,hn,h,rfl⟩:=hI;refine fv.of hx fun g hg=>jw (lX (by kernel_rfl) _) (aB hg.cx hs (Z0 _ _ _ B.length z _) (qJ (cO 0) ?_));rcases List.eq_nil_or_concat eW with rfl | ⟨s',⟨u,i,k⟩,rfl⟩
 ·exact⟨(fun z=>gu z),fun Z=>dC (fv.of hx fun g hg=>uK (Z5 ep ds I h))⟩
 simp only[List.concat_eq_append]at h hn ⊢;refine⟨fun Z=> ?_,(fun z=>by simp[pV.st]at z)⟩;refine cps fun Z zk=>vV (h.it (u,i,k) (abn.mpr (.inr (.head _)))) fun t1 t2 t3 t4 t5=> ?_;refine bL h.len fun l1 l2 l3=>zk ?_;have e1:(s'++ [(u,i,k)]).map (fun x=>B.length+4+(x.2.1+1))=s'.map (fun x=>B.length+4+(x.2.1+1))++ [B.length+4+(i+1)]:=by simp
 have e2:pV.st (s'++ [(u,i,k)])=pV.st s'++ [(u:Int)]:=by simp[pV.st]
 refine Il ▸ ?_;refine dC (tS hx ry.ov ry.A (by refine ry.sc ▸ hs ▸ ?_;kernel_rfl) (fun env=>by refine Ao ▸ ?_;rfl) (fun env=>aH rfl _ _ _) (hs ▸ pW.1) (j:=B.length+4+(i+1)) (i:=B.length+4+i) (k:=k) (fun g hg=> ?_) ?_ ?_ (oB (hB.nd u t1).2.2) (fun y hy=> ?_) (fun hk g v0 hg=> ?_))
 ·refine Ao ▸ (dj (aB hg.cx hs (Qm _ _ _ B.length z _) (aB hg.cx hs (Qn _ _ _ B.length z _) (tR (xs:=s'.map fun x=>B.length+4+(x.2.1+1)) (by kernel_rfl) ?_ ⟨rfl,rfl⟩))));exact e1 ▸ cO 1
 ·exact(Al (i+1)).trans t3
 ·exact(Al i).trans t2
 ·have Qp:=hB.up u t1 y (abW hy);refine cps fun Z zk=>aA (⟨y.toNat,ace ((jv (abC (lx [_] [_] 43134783760 Qp.1)))) ((ij (abC (lx [_] [_] 43134783760 Qp.1))))⟩:∃n':Nat,y=n') fun n' Qq=> ?_;subst Qq;refine aI (h.step ((aab.mp hy).1)) fun f1 f2=> ?_;refine zk ?_;have:=Z4 (s'++ [(u,i,k+1)]) _ ep ds _ n' f1 (ab3 f2 hM) (acL.mp Qp.2) (fun x hx=>by
   rcases abn.mp hx with q | q
   ·have:=(h.lt x q).1;exact bj 0x2b0928b18911b09928 this Qp.1
   ·refine(abH.mp q) ▸ ?_;dsimp only;exact acL.mp Qp.1)
  have e3:put (fG B.length z) (s "node") (.pv (.int n'))=fG B.length n':=Qo B.length n' _ (.inr ⟨z,rfl⟩);simp only[e3,rW];unfold w5 at this;rw[(show pV.st (s'++ [(u,i,k+1)])=pV.st (s'++ [(u,i,k)]) from by simp[pV.st]),(show(s'++ [(u,i,k+1)]).map (fun x=>B.length+4+(x.2.1+1))=(s'++ [(u,i,k)]).map (fun x=>B.length+4+(x.2.1+1)) from by simp)]at this;exact this
 ·simp only[rW,e1,e2];refine DP hg.cx hs (bj 0x186a05f03843fb29921910938 (bh l3) l1 hB.z) (by simp only[mD,h.dk,e2];simp) fun dJ=>mB ⟨s'.length,by simp at hn;exact(bl hn),s',dJ,_,_,rfl,h.pop,rfl⟩
end
section
variable{e:Fm}{B:List AO}{aq:List Nd}{vB:Nat}
theorem Ap(hx:Cx e)(hs:e.scope=dQ)(hB:FB B aq vB)(h:FG B.length aq eW dH rem ds I)(hn:n<aq.length)(hv:n∉dH) (hQ:∀dJ,Q .next ⟨fG B.length n,w5 B (eW++ [(n,I.length,0)]) (n::dH) dJ (ml ds n (.pv (.int eW.st.length))) (I++ [.cK (5+3*n) 0,.wrap UK (B.length+4+I.length)])⟩):Wp e bN (execs (ik wW) e.env) ⟨fG B.length n,w5 B eW dH ep ds I⟩ Q:=by
 refine bL h.len fun l1 l2 l3=> ?_;have hz:=hB.z;refine bL (hB.nd n hn) fun d1 d2 d3=> ?_;have Us:Sv dH n=false:=by
  cases q:Sv dH n with
  | true=>exact absurd (Am.mp q) hv
  | false=>rfl
 refine DO ▸ (aT (gO hx.hk (aH rfl _ _ _) (dp hx (by kernel_rfl) (by kernel_rfl) (of_decide_eq_true (by kernel_rfl)) (by kernel_rfl) (aB hx hs (Qa _ e _ B.length n _) fun pl=>Pk (cO 2) (ba 0x3e83fb093843fb19910928 l2 hz) (rI hx (n:=39) (by kernel_rfl) ?_ _)))));rw[hs];refine of_eq (Qb _ e _ B.length n _) (p_add (cO 2) (ba 0x3e83fb093843fb19910928 l2 hz) ?_);have e0:(w5 B eW dH ep ds I).set (B.length+2) (.ig (Ac (Sv dH) n) (if Sv dH n=true then dH.length else dH.length+1))=w5 B eW (n::dH) ep ds I:=by rw[Us];exact fZ 2 _
 dsimp only;rw[e0];refine aT (gO hx.hk (aH rfl _ _ _) (dp hx (by kernel_rfl) rfl (by decide) (by kernel_rfl) (aB hx hs (Qc _ e _ B.length n _) fun pl=>gP (cO 1) (.inr ⟨_,rfl⟩) PySem.F.slot_list_append PySem.F.type_list_append ⟨rfl,aS (aE rfl _ _) (b6 rfl (dm hx rfl (cu hx False.elim ?_)))⟩)));simp only[hs];refine of_eq (Qf _ _ _) ⟨_,rfl,rfl,aS (aE rfl _ _) (b6 rfl (dj (aB hx hs (Qd _ e _ B.length n _) (aB hx hs (Qe _ e _ B.length n _) (pF (by kernel_rfl) (oB hB.d) (fD hn) (dB hx (oB d2) (oB d1) (ef _).2.2 rfl rfl (aN (DG (oB d3) ?_))))))))⟩;dsimp only;simp only[vA,vz];refine tP (l:=5+3*n) (k:=0) (by rw[Al];simp) ?_;rw[vA,vz];refine aN (kh (cO 1) (by simp;exact ba 0x186a05fb093843fb19910928 l1 hz) ?_);have e1:(jl B eW.st (eW.map fun(x:Nat×Nat×Nat)=>B.length+4+(x.2.1+1)) (Sv (n::dH)) (n::dH).length ep ds (I++ [.cK (5+3*n) 0]++ [.wrap (.builtin "list_iterator.__next__") (B.length+4+I.length)])).set (B.length+1) (.refs ((eW.map fun(x:Nat×Nat×Nat)=>B.length+4+(x.2.1+1))++ [B.length+4+(I++ [AO.cK (5+3*n) 0]).length]))=
   jl B eW.st ((eW++ [(n,I.length,0)]).map fun(x:Nat×Nat×Nat)=>B.length+4+(x.2.1+1)) (Sv (n::dH)) (n::dH).length ep ds (I++ [.cK (5+3*n) 0,.wrap UK (B.length+4+I.length)]):=by
  rw[fZ];unfold jl;simp
 dsimp only;rw[e1];refine aT (kx (aH rfl _ _ _) (dm hx rfl (cu hx False.elim ?_)));simp only[hs];refine of_eq (Qg _ _ _) ⟨_,rfl,rfl,aS (aE (by kernel_rfl) _ _) (aB hx hs (Qh _ e _ B.length n _) (aN (uL (cO 0) (.inl ⟨.int,_,rfl,rfl⟩) (aB hx hs (Qi _ e _ B.length n _) (aB hx hs (Qj _ e _ B.length n _) (mn (cO 3) (bj 0x186a05f03843fb29921910938 (bh l3) l1 hz) fun dJ=> ?_))))))⟩;have e2:∀(ws:List Nat) (S:Int->Bool) (m:Nat) (J:List AO),(jl B eW.st ws S m ep ds J).set (B.length+3) (.bo dJ (ml ds n (.pv (.int eW.st.length))))=jl B eW.st ws S m dJ (ml ds n (.pv (.int eW.st.length))) J:=fun Z Z Z Z=>fZ 3 _;dsimp only;rw[e2];refine aT (gO hx.hk (aH rfl _ _ _) (dp hx (by kernel_rfl) (by kernel_rfl) (of_decide_eq_true (by kernel_rfl)) (by kernel_rfl) (aB hx hs (Qk _ e _ B.length n _) fun pl=>gP (cO 0) (.inl ⟨_,_,rfl⟩) PySem.F.slot_list_append PySem.F.type_list_append (rI hx (n:=39) (by kernel_rfl) ?_ _))));rw[hs];refine of_eq (Ql _ e _ B.length n _ B.length) (fW (cO 0) rfl (by simp[pV.st];exact ba 0x186a05fb093843fb19910928 l1 hz) (cQ ?_));have e3:∀(ws:List Nat) (S:Int->Bool) (m q:Nat) (d:List (Int×V)) (J:List AO),(jl B eW.st ws S m q d J).set B.length (.vals .int (eW.st++ [(n:Int)]))=jl B (pV.st (eW++ [(n,I.length,0)])) ws S m q d J:=fun Z Z Z Z Z Z=>by rw[(show pV.st (eW++ [(n,I.length,0)])=eW.st++ [(n:Int)] from by simp[pV.st])];exact fZ 0 _
 dsimp only;rw[e3];exact hQ dJ
theorem Aq(hx:Cs e)(ry:BW e)(hs:e.scope=dQ)(hB:FB B aq vB)(h:FG B.length aq [] dH rem ds I)(hn:n<aq.length) (hQ:∀DQ nK dJ qu I' z,FG B.length aq [] DQ nK qu I'->Q .next ⟨fG B.length z,w5 B [] DQ dJ qu I'⟩):fv e bN (exec (.While (bU DK) (ax DK) [] pos) e.env) ⟨fG B.length n,w5 B [] dH ep ds I⟩ Q:=by
 refine rU (fun M c=>∃eW dH rem ep ds I,∃n:Nat,M=sumTo rem aq.length/\FG B.length aq eW dH rem ds I/\n<aq.length/\(∀x∈eW,x.1<n)/\c=⟨fG B.length n,w5 B eW dH ep ds I⟩) (fun M c hI=> ?_) (sumTo rem aq.length) ⟨[],dH,rem,ep,ds,I,n,rfl,h,hn,(fun Z z=>bg z),rfl⟩;obtain⟨eW,dH,rem,ep,ds,I,n,rfl,h,hn,bT,rfl⟩:=hI;refine fv.of hx fun g hg=>iP hg.cx ?_;rw[hs];refine of_eq (P9 _ _ _ _) ⟨fun Z=> ?_,(fun z=>lI z)⟩;refine Ik ▸ (dC (FF (fv.of hx fun g hg=>iP hg.cx ?_)));rw[hs];refine of_eq (P7 _ _ _ B.length n _) (vv (cO 2) (ba 0x3e83fb093843fb19910928 h.len.2.1 hB.z) (cG ⟨fun hT=> ?_,fun hT=> ?_⟩))
 ·refine Iu ▸ (fv.of hx fun g hg=>aT (oX (iP hg.cx ?_)));rw[hs];refine of_eq (P8 _ _ _ B.length n _) (M9 hg.cx (cO 3) (cG ⟨fun hT=> ?_,fun Z=>cQ (cQ (dC (rY hx ry hs hB h (abE _) (fun tY nK dJ qu I' n' f1 f2 f3 f4=>mB ⟨_,f2,tY,dH,nK,dJ,qu,I',n',rfl,f1,f3,f4,rfl⟩) (fun dJ qu I' f=>hQ dH rem dJ qu I' n f))))⟩));simp only[mD,h.dk]at hT;refine ah (ab6.mp hT) fun x Kk i9=> ?_;have:=bT x Kk;lia
 ·have hv:n∉dH:=fun z=>by have hT:=(Am.mpr z) ▸ hT;exact lI hT
  refine aI (h.push (v:=.pv (.int eW.st.length)) hn hv bT) fun f1 f2=>fv.of hx fun g hg=>Ap hg.cx hs hB h hn hv fun dJ=>dC (rY hx ry hs hB f1 (aco f2) (fun tY nK dJ qu I' n' f1 f2 f3 f4=>mB ⟨_,f2,tY,n::dH,nK,dJ,qu,I',n',rfl,f1,f3,f4,rfl⟩) (fun dJ qu I' f=>hQ _ _ dJ qu I' n f))
theorem w6(hx:Cs e)(ry:BW e)(hs:e.scope=dQ)(hB:FB B aq vB)(hQ:∀l g,Q .next ⟨l,B++g⟩):fv e bN (exec (.For (.Name (s "node") px) (aG BX) (ax BX) [] pos) e.env) ⟨Kj B.length,jl B [] [] (fun Z=>false) 0 0 [] []⟩ Q:=by
 refine tT hx (hs ▸ pW.1) (fun Z=>rfl) (i:=2) (ep:=vB) (es:=ents aq.length) (fun k c=>∃l dH rem ep ds I,(l= []\/∃z,l= [(s "node",.pv (.int z))])/\FG B.length aq [] dH rem ds I/\c=⟨Kj B.length++l,w5 B [] dH ep ds I⟩) (fun c hc=> ?_) (fun g hg=> ?_) (fun k y c hy hI=> ?_) (fun c hI=> ?_)
 ·obtain⟨k,l,dH,rem,ep,ds,I,_,_,rfl⟩:=hc;exact oB hB.d
 ·refine aB hg.cx hs (P5 _ _ _ B.length _ []) ⟨rfl,[],[],(fun u=>Ki aq u+1),0,[],[],.inl rfl,⟨.nil,(fun Z z=>bg z),.nil,.nil,(fun Z z=>bg z),fun Z Z Z=>abE _,rfl⟩,rfl⟩
 ·refine sW hI fun l dH rem ep ds I hl h Qr=> ?_;obtain rfl:=Qr.symm;have hk:k<aq.length:=by
   have:=(aab.mp hy).1;rwa [jN]at this
  have hyk:y.1=(k:Int):=by unfold ents at hy;replace hy:=(acz hk) ▸ (aa0) ▸ hy;exact(aah.inj hy) ▸ rfl
  simp only[hyk,Qo B.length k l hl,Ij];refine dC (FF (fv.of hx fun g hg=>iP hg.cx ?_));rw[hs];refine of_eq (P6 _ _ _ B.length k _) (vv (cO 2) (ba 0x3e83fb093843fb19910928 h.len.2.1 hB.z) (cG ⟨fun hT=> ?_,fun hT=> ?_⟩))
  ·exact dC (fv.of hx fun g hg=>lK ⟨_,dH,rem,ep,ds,I,.inr ⟨_,rfl⟩,h,rfl⟩)
  ·exact mB (dC (Aq hx ry hs hB h hk fun DQ nK dJ qu I' z f=>mB ⟨_,DQ,nK,dJ,qu,I',.inr ⟨z,rfl⟩,f,rfl⟩))
 ·refine sW hI fun l dH rem ep ds I hl h Qs=>cps fun Z zk=> ?_;subst Qs;refine zk (hQ _ _)
theorem Qt(hx:Cs e)(ry:BW e)(hk:e.k=k+1)(hB:FB (bR R po fi vB (ents aq.length) r) aq vB):mC e [.ref 0] (.ref 187) (bR R po fi vB (ents aq.length) r) fun v σ=>v= .pv .none/\∃g,σ=bR R po fi vB (ents aq.length) r++g:=by
 refine Ip hx ry hk (WK _) (names:= [s "self"]) (fun Z Z Z Z Z Z vs hv=>by refine aA (je hv) fun Z Qu=> ?_;subst Qu;kernel_rfl) (by kernel_rfl) fun e' aL Iw hw cH hs=> ?_;show fv e' bN (execs vy e'.env) _ _;refine DM ▸ (Ag aL fun g hg=> ?_);refine hs ▸ (of_eq (ZY _ _ _ R po fi vB _ r) ⟨by simp,by simp,?_⟩);generalize hBB:bR R po fi vB (ents aq.length) r=BB;rw[hBB]at hB;refine dC (fv.of aL fun g hg=>cR (aH (by kernel_rfl) _ _ _) (aB hg.cx hs (ZZ _ _ _ _) (Ph (cE hg.cx (hs ▸ pW.2.1) (dC (fv.of aL fun g hg=>cR (aH rfl _ _ _) (vx (cE hg.cx (hs ▸ pW.2.2) ?_))))))));dsimp only;rw[(fun Z Z Z Z=>by kernel_rfl:∀(a b c d:Nat),put (put [(s "self",V.ref 0),(s "n2i",.ref 2),(s "stack",.ref a),(s "itstack",.ref b)] (s "seen") (.ref c)) (s "node2stacki") (.ref d)= [(s "self",V.ref 0),(s "n2i",.ref 2),(s "stack",.ref a),(s "itstack",.ref b),(s "seen",.ref c),(s "node2stacki",.ref d)])];simp only[aag,acn,acQ];refine dC (fv.conv (fun g ad m aa h n=> ?_) (w6 aL Iw hs hB fun l g=> ?_))
 ·have:=n.Ii (i:=BB.length+1) (by simp);have e2:(BB++ [AO.vals .int []]++ [AO.vals .int []]++ [AO.ig (fun Z=>false) 0]++ [AO.bo 0 []]).set (BB.length+1) (.refs [])=jl BB [] [] (fun Z=>false) 0 0 [] []:=by
   unfold jl;simp
  dsimp only at this;simp only[e2]at this;exact this
 ·refine fv.of aL fun g' hg=>iD hg.cx ?_;rw[hs];exact of_eq (Iv _ _ _ _) ⟨rfl,g,rfl⟩
end
abbrev nL:Scope:=au (cst 9 3)
abbrev FH:List Stmt:=ar (cst 9 3)
abbrev Qv:Stmt:=at_ FH 1
abbrev BY:Expr:=ak Qv
abbrev Kl:Stmt:=at_ FH 2
abbrev UM:Expr:=(dT BY).iter
abbrev UN:Expr:=(dT BY).ifs.headD z0
theorem DR:FH= [at_ FH 0]++ [.Assign [.Attribute (qC Qv) (s "_ready_nodes") (aw (i6 0 Qv))] (.ListComp (.Attribute (.Name (s "i") (aw (aR (bH BY)))) (s "node") (aw (bH BY))) [⟨.Name (s "i") (aw (dT BY).target),.Call (.Attribute (aR UM) (s "values") (aw (hG UM))) [] [] (aw UM),[.Compare (.Attribute (.Name (s "i") (aw (aR (gM UN)))) (s "npredecessors") (aw (gM UN))) [.Eq] [.Constant (.int 0) 0 (fJ (rE UN))] (aw UN)],0⟩] (cb BY) (aw BY)) (bZ Qv),.Assign [.Name (s "cycle") (aw (i6 0 Kl))] (.Call (.Attribute (aR (ak Kl)) (s "_find_cycle") (aw (hG (ak Kl)))) [] [] (aw (ak Kl))) (bZ Kl),at_ FH 3]:=by kernel_rfl
section
variable(P:Params)(e:Fm)(Q:AF->St->Prop)(K:V->St->Prop)(R:V)(po fi:Int)(ep:Nat)(es:List (Int×V))(r:List AO)
theorem Z6:cZ (xw e P nL 40) [at_ FH 0] ⟨[(s "self",.ref 0)],bR (.pv .none) po fi ep es r⟩ Q=Q .next ⟨[(s "self",.ref 0)],bR (.pv .none) po fi ep es r⟩:=by kernel_rfl
theorem Z7:ew e P nL 40 (aR UM) ⟨[(s "self",.ref 0)],bR R po fi ep es r⟩ K=K (.ref 2) ⟨[(s "self",.ref 0)],bR R po fi ep es r⟩:=by kernel_rfl
theorem Z8(σ:List AO):ew e P nL 40 (qC Qv) ⟨[(s "self",.ref 0)],σ⟩ K=K (.ref 0) ⟨[(s "self",.ref 0)],σ⟩:=by kernel_rfl
theorem Z9(σ:List AO):ew e P nL 40 (aR (ak Kl)) ⟨[(s "self",.ref 0)],σ⟩ K=K (.ref 0) ⟨[(s "self",.ref 0)],σ⟩:=by kernel_rfl
theorem aaa(σ:List AO):cZ (xw e P nL 40) [at_ FH 3] ⟨[(s "self",.ref 0),(s "cycle",.pv .none)],σ⟩ Q=Q .next ⟨[(s "self",.ref 0),(s "cycle",.pv .none)],σ⟩:=by kernel_rfl
theorem w7:setOk P 197 (s "_ready_nodes")=true/\lO P 197 (s "_find_cycle")=some 187/\eY P (.ref 187)=true/\b7 (cb BY) nL (s "i")=true/\look nL.names (s "cycle")=some .local/\look (kC (cb BY) nL).names (s "i")=some .globalExplicit:=by and_intros<;>kernel_rfl
end
noncomputable def kK(aq:List Nd)(k:Nat):List Int:=((acj k).filter fun j=>decide ((aq.getD j (0,[])).1=0)).map fun(j:Nat)=>(j:Int)
theorem Ar(aq:List Nd)(k:Nat):kK aq (k+1)=if(aq.getD k (0,[])).1=0 then kK aq k++ [(k:Int)]else kK aq k:=by
 unfold kK;simp only[adq,ac3,acq];split
 ·rename_i h;rw[List.filter_cons_of_pos (by simpa using h)];rfl
 ·rename_i h;rw[List.filter_cons_of_neg (by simpa using h)];simp
theorem vC(aq:List Nd)(k:Nat):(kK aq k).length<=k:=by unfold kK;rw[aaR];exact ab3 (ada _ _) (by simp)
theorem vD(po fi:Int)(ep:Nat)(n:Nat)(a:AO)(l:List (Str×V))(x:List AO)(R:V)(es:List (Int×V))(h:x.length=3*n):(bR R po fi ep es (x++ [a,.ns l]))[3+3*n+1]? =some (.ns l):=by simp only[show 3+3*n+1=3*n+1+3 by lia];show(x++ [a,.ns l])[3*n+1]? =_;simp only[abF (adl (bh h)),h];simp
theorem vE(po fi:Int)(ep:Nat)(n:Nat)(a:AO)(l l':List (Str×V))(x:List AO)(R:V)(es:List (Int×V))(h:x.length=3*n):(bR R po fi ep es (x++ [a,.ns l])).set (3+3*n+1) (.ns l')=bR R po fi ep es (x++ [a,.ns l']):=by rw[show 3+3*n+1=3*n+1+3 by lia];show _::_::_::(x++ [a,.ns l]).set (3*n+1) _=_;rw[acG _ _ (adl (bh h)),h];simp
theorem w8:∀(l:List Nd) (j n:Nat),3+3*(j+l.length)<=n->(aQ j l).all (AO.under n)=true:=by
 intro l;induction l with
 | nil=>exact fun Z Z Z=>rfl
 | cons nd r ih=>intro j n h;simp only[acn]at h;simp only[gV,wA,adf,acP,aeL,AO.md,AO.tl,AO.mc,V.j7,V.me,aea,adN,abD,decide_eq_true_eq];exact⟨⟨by lia,by lia⟩,ih (j+1) n (by lia)⟩
theorem tZ(m n:Nat)(h:3*m+2<=n):(ents m).all (fun x=>x.2.under n)=true:=by unfold ents;rw[aeh,aaZ];intro j hj;have:=acB.mp hj;simp only[Function.comp,V.j7,V.me,decide_eq_true_eq];exact bj 0x2b003ffe992c103ff991b09b28 this h
section
variable{e:Fm}
theorem mC.mono (h:mC e us f σ Q)(k:∀v σ',Q v σ'->Q' v σ'):mC e us f σ Q':=
 fun g T x ad m aa vs n r R E p=>h g T x ad m aa vs n r R E fun v v' σ' h' tk aF ag g' T' q n' y rv=>p v v' σ' h' tk aF ag g' T' (k _ _ q) n' y rv
theorem DS(hx:Cx e)(i4:e.outer= [])(fY:e.base=e.h₀)(hk:e.k=k+2){aq:List Nd}(hz:aq.length<900)(hup:∀u,u<aq.length->∀z∈(aq.getD u (0,[])).2,(u:Int)<z/\z<aq.length):af e [.ref 0] (.ref 152) (bR (.pv .none) po fi ep (ents aq.length) (aQ 0 aq)) fun v σ=>v= .pv .none/\σ=rN po fi ep aq (kK aq aq.length) [.ns []]:=by
 refine af.drop (Iq hx i4 fY hk (WG _) (names:= [s "self"]) (fun Z Z Z Z Z Z vs hv=>by refine aA (je hv) fun Z Qw=> ?_;subst Qw;kernel_rfl) (by kernel_rfl) fun e' aL Iw hw cH hs=> ?_);show fv e' bN (execs FH e'.env) _ _;have jg:=fg aq 0;refine DR ▸ ?_;refine Ag aL fun g hg=> ?_;simp only[hs];refine of_eq (Z6 _ _ _ po fi ep _ _) (dC (fv.of aL fun g hg=> ?_));have hsg:(e'.at g).scope=nL:=hs;refine cq rfl (pM hg.cx (us:=(ents aq.length).map (·.2)) (by simp only[hsg];exact(w7 e'.w.params).2.2.2.1) (fun Z=>rfl) (by kernel_rfl) (by kernel_rfl) (.vals .int []) (.inl ⟨.int,rfl⟩)
  (fun a k σ=>a=3+3*aq.length/\∃l,σ=bR (.pv .none) po fi ep (ents aq.length) (aQ 0 aq++ [.vals .int (kK aq k),.ns l])) (fun a k σ hI=> ?_) (nH hg.cx (i:=2) (dp hg.cx (by kernel_rfl) rfl (by simp) (by kernel_rfl) (aB hg.cx hs (Z7 _ _ _ _ po fi ep _ _) fun pl=>tD rfl PySem.F.slot_dict_values PySem.F.type_dict_values ⟨by rfl,aN (zI hg.cx rfl ⟨rfl,rfl,⟨?_,[],?_⟩,rfl⟩)⟩))) (fun Z Z Z z=>z) (fun e2 i9 rL iV kG a j u σ hu hI hK=> ?_) (fun a σ hI=> ?_))
 ·obtain⟨rfl,l,rfl⟩:=hI;exact⟨l,vD po fi ep _ _ _ _ _ _ jg⟩
 ·obtain⟨rfl,l,rfl⟩:=hI;have lj:e2.scope=kC (cb BY) nL:=by rw[kG,hsg]
  simp only[aa0,abh]at hu;refine ah hu fun y hy Qx=> ?_;subst Qx;have hj:j<aq.length:=by have:=(aab.mp hy).1;rwa [jN]at this
  have hyv:y.2=V.ref (4+3*j):=by unfold ents at hy;replace hy:=(acz hj) ▸ (aa0) ▸ hy;cases hy;rfl
  rw[hyv,vE po fi ep _ _ _ _ _ _ _ jg];refine bL (gi (R:=.pv .none) (po:=po) (fi:=fi) (ep:=ep) (es:=ents aq.length) (g:= [.vals .int (kK aq j),.ns [(s "i",.ref (4+3*j))]]) (eL (d:=((0,[]):Nd)) hj)) fun g1 g2 g3=> ?_;have hi:∀ {pos:Pos} {Q:V->St->Prop},Q (.ref (4+3*j)) ⟨[(s "self",.ref 0),(s "i",.ref (3+3*aq.length+1))],bR (.pv .none) po fi ep (ents aq.length) (aQ 0 aq++ [.vals .int (kK aq j),.ns [(s "i",.ref (4+3*j))]])⟩->Wp e2 VR (eval (.Name (s "i") pos) e2.env) ⟨[(s "self",.ref 0),(s "i",.ref (3+3*aq.length+1))],bR (.pv .none) po fi ep (ents aq.length) (aQ 0 aq++ [.vals .int (kK aq j),.ns [(s "i",.ref (4+3*j))]])⟩ Q:=fun hQ=>yG i9 (by kernel_rfl) (by exact lj ▸ (w7 e2.w.params).2.2.2.2.2) (by kernel_rfl) (vD po fi ep aq.length (.vals .int (kK aq j)) [(s "i",V.ref (4+3*j))] (aQ 0 aq) (.pv .none) (ents aq.length) jg) (by kernel_rfl) hQ;have ep1:put [(s "self",V.ref 0)] (s "i") (.ref (3+3*aq.length+1))= [(s "self",.ref 0),(s "i",.ref (3+3*aq.length+1))]:=by kernel_rfl
  refine ep1 ▸ (eB rfl (b6 rfl (hi (dB i9 g2 g1 (ef _).2.1 rfl rfl (EZ (GK (cG ?_)))))));rw[Ar];by_cases h0:(aq.getD j (0,[])).1=0
  ·have:((aq.getD j (0,[])).1==0)=true:=by simpa using h0
   refine this ▸ (if_pos h0) ▸ ?_;refine b6 rfl (hi (dB i9 g2 g1 (ef _).1 rfl rfl (ed (kd:=.int) (lC po fi ep aq _ _ _ _ _ jg) (by have:=vC aq j;exact bj 0x186a05fb093843fb2992b19910938 this hj hz) ⟨rfl,⟨rfl,[(s "i",.ref (4+3*j))],lD po fi ep aq _ _ _ _ _ _ jg⟩,?_⟩)));simp only[lD po fi ep aq _ _ _ _ _ _ jg];rfl
  ·have:((aq.getD j (0,[])).1==0)=false:=by simpa using h0
   exact this ▸ (if_neg h0) ▸ ⟨rfl,⟨rfl,[(s "i",.ref (4+3*j))],rfl⟩,rfl⟩
 ·obtain⟨rfl,l,rfl⟩:=hI;simp only[aaR,jN,vE po fi ep _ _ _ _ _ _ _ jg];have esr:put (BS (.pv .none) po fi) (s "_ready_nodes") (.ref (3+3*aq.length))=BS (.ref (3+3*aq.length)) po fi:=by kernel_rfl
  refine aB hg.cx hs (Z8 _ _ _ _) (fj hg.cx (d:=1) rfl rfl (w7 _).1 (by simp) ?_);simp only[esr];refine dC (tV aL (i:=0) (by kernel_rfl) (by kernel_rfl) (by exact hs ▸ (w7 e'.w.params).2.2.2.2.1) (w7 _).2.2.1 (fun g hg=>aB hg.cx hs (Z9 _ _ _ _) ⟨rfl,rfl,fun pl=>qO hg.cx (C:=197) (d:=1) rfl rfl (w7 _).2.1 (by kernel_rfl) ⟨rfl,rfl⟩⟩) ((Qt aL Iw cH ⟨rfl,fun u hu=>gi (eL hu),hup,hz⟩).mono fun v σ hv=> ?_));obtain⟨rfl,gg,rfl⟩:=hv;refine fv.of aL fun g hg=>iD hg.cx ?_;rw[hs];refine of_eq (aaa _ _ _ _) ⟨_,gg,rfl,?_,rfl,?_,rfl,rfl⟩
  ·show(aQ 0 aq).length+3<=(aQ 0 aq++_).length+3;exact aag ▸ bY 0xdbba99099d0908
  ·have hlen:(rN po fi ep aq (kK aq aq.length) [.ns []]).length=3+3*aq.length+2:=by
    show(aQ 0 aq++_).length+3=_;refine aag ▸ jg ▸ ?_;simp;exact aac (bY 228395272) (bY 3499153672)
   simp only[hlen];simp only[acP,adf,w8 aq 0 (3+3*aq.length+2) (by lia),AO.tn,AO.md,AO.rj,AO.zo,AO.mc,tZ aq.length (3+3*aq.length+2) (bY 828284602632)];simp only[BS,acP,V.j7,V.me,aeL,aea,adN,abD,decide_eq_true_eq];exact⟨bY 828284582152,bY 828284586248,bY 0xc0d99b0d9908⟩
 ·exact aac (ba 2035018696984 (bh jg)) (ba 0xd190d910918 (bl jg))
 ·simp only[acx];rfl
end
section
variable{e:Fm}{c:St}
theorem lE(mX:isSlice sl=false)(h0:0<=k)(h1:k<a.length)(hz:a.length<=100000)(h:Q (.pv (.str [a.getD k.toNat 0])) c):bM e VR (.pv (.str a)) (.pv (.int k)) (subscriptTail y sl) c Q:=by
 rintro x ad m aa _ _ n ⟨t,rfl⟩ ⟨u,rfl⟩ R E q;refine tail_any (typeIs_str _ _ _) slot_str_getitem.lookup (getItem_str ?_ ?_ (q _ _ _ _ _ _ _ _ h n (Ext.refl ..) ⟨_,rfl⟩)) (bz mX _ _)
 ·rw[decide_eq_false (by lia),decide_eq_false (by lia)];rfl
 ·simp only[eR];simp[seqIndex?,(adx h0),h0,h1,acU,(show k.toNat<a.length from lx [_,_] [_] 0x1b0918b091008128 (ij (abC h0)) h1)]
theorem w9:∀(l:List (List Nat)) (acc:List Nat),(l.map SS).foldl (fun acc p=>acc++(SS []).cps++p.cps) acc.toArray=(acc++l.flatten).toArray:=by
 intro l;induction l with
 | nil=>intro acc;simp
 | cons x r ih=>intro acc;simp only[acu,List.foldl_cons];rw[(show acc.toArray++(SS []).cps++(SS x).cps=(acc++x).toArray from by simp),ih (acc++x)];simp
theorem join_nil(l:List (List Nat)):Txt.join (SS []) (l.map SS)=SS l.flatten:=by
 unfold Txt.join Builtin.Str.glued;cases l with
 | nil=>rfl
 | cons x r=>simp only[acu,List.drop_succ_cons,aeB,List.headD_cons];rw[(w9 r x)];rfl
theorem As(l:List (List Nat)):∀k:Nat,(l.map SS).foldl (fun a p=>a+p.length+(SS []).length) k=k+l.flatten.length:=by
 induction l with
 | nil=>exact fun k=>rfl
 | cons x r ih=>intro k;rw[acu,List.foldl_cons,ih,eR,eR];simp;exact aac (bj 36904809568520) (bj 36324989536520)
theorem DT:∀ {xs:List (List Nat)} {its:List Value},aM (VP aa) (xs.map (Kd.inj .str)) its->∃l:List (Str×Tok),its=strValues l/\l.map (·.1)=xs.map SS:=by
 intro xs;induction xs with
 | nil=>intro _ h;cases h;exact⟨[],rfl,rfl⟩
 | cons x xs ih=>
  intro _ h;cases h with
  | cons h1 h2=>refine aA h1 fun t Qy=> ?_;subst Qy;refine ah (ih h2) fun l Qz h3=> ?_;subst Qz;exact⟨(SS x,t)::l,rfl,by simp[h3]⟩
theorem Au(hs:c.aj[i]? =some (.vals .str xs))(hz:xs.flatten.length<=100000)(h:Q (.pv (.str xs.flatten)) c):cN e VR [.pv (.str []),.ref i] (fun vs=>call (.builtin "str.join") vs) c Q:=by
 rintro x ad m aa _ n (_ | ⟨⟨t,rfl⟩,_ | ⟨r,_ | _⟩⟩) R E q;refine cps fun Z zk=>cI (n.at hs r) fun a ob QA ha hm QC ho=> ?_;subst QA;obtain⟨its,k',rfl,hi,BI⟩:=QC;refine ah (DT hi) fun l QD hl=> ?_;subst QD;refine zk (SC.join (aO ho) hl ?_ fun t' k=> ?_)
 ·unfold JoinOk Builtin.Str.tooLong;simp only[ac6];rw[List.foldl_toArray,(As xs 0)];have:=aD;exact decide_eq_false (by lia)
 ·simp only[join_nil];exact q _ _ _ x.heap k _ _ _ h n (Ext.refl ..) ⟨_,rfl⟩
theorem Av(h:Q (.builtin "str.join",[.pv (.str y)]) c):cP e MR (.pv (.str y)) (fun v=>getMethod v (s "join") pl) c Q:=by refine .s fun x ad m aa t n R E p=>GM.join (p _ _ _ _ _ _ _ _ h n (Ext.refl ..) ⟨rfl,.cons ⟨_,rfl⟩ .nil⟩)
end
def UO(e:Fm)(t:Sem Value)(c:St)(Q:V->St->Prop):Prop:=
 ∀(x:Shared) (ad:Ad) (m:Str->Option Value) (aa:Led),x.toks≠0->aU e ad m aa c x.heap->∀(R:Value->Shared->Prop) (E:Value->Shared->Prop),
  (∀a b c' h' tk aF m' ag,tk≠0->Q a c'->aU e aF m' ag c' h'->Ext ad aa aF ag->VR aF ag a b->R b {x with heap:=h',toks:=tk})->wpAny (model pw e.w) e.A t R E x
section
variable{e:Fm}{c:St}
theorem Aw(hx:Cx e)(hd:Fast.sEq y (s "__debug__")=false)(hl:look e.scope.names y=some .local)(hv:look c.loc y=some v)(h:Q v c):UO e (eval (.Name y pos) e.env) c Q:=fun x ad m aa ht n R E p=>by refine ah (n.loc y v hv) fun v' e' r=> ?_;have k:=hx.sH hl;have e':m y=some v':=e'.Gx k.2.2;exact wpAny_Name (wpAny_loadName_local hx.hk k.1 (by exact k.2.1 ▸ n.F.ns) e' (p _ _ _ x.heap x.toks _ _ _ ht h n (Ext.refl ..) r)) (cW hd)
theorem Ax{p0 pos:Pos}(h:UO e (eval r e.env) c fun b c2=>bM e VR (.pv (.str y.cps.toList)) b (binaryOp op) c2 Q):Wp e VR (eval (.BinOp (.Constant (.str y) k p0) op r pos) e.env) c Q:=
 fun x ad m aa n R E p=>wpAny_BinOp (wpAny_Constant_str (h {x with toks:=x.toks+1} ad m aa (by show x.toks+1≠0;lia) n _ E fun b b' c2 h2 gI bp m2 ay ht q2 n2 x2 r2=>q2 _ bp m2 ay _ b' n2 ⟨_,rfl⟩ r2 R E (p.ext x2)))
theorem Ay{s:Shared}(hu:u≠0)(hv:v≠0)(huv:u≠v)(hyz:(y==z)=false)(hb:x.length+(x.length+1)*z.length<=16777216)(hs:s.toks≠0) (hq:∀t' k,k≠0->Q (.str (Txt.replace x y z) t') {s with toks:=k}):wpAny (model M w) A (call (.builtin "str.replace") [.str x t,.str y u,.str z v]) Q E s:=by
 have hl:Builtin.Str.tooLong (x.length+(Builtin.Str.occurrences x y 0 x.length (x.length+1)).length*z.length)=false:=by have h2:(Builtin.Str.occurrences x y 0 x.length (x.length+1)).length*z.length<=(x.length+1)*z.length:=Nat.mul_le_mul_right _ (StrLaws.occ_length_le x y 0 x.length (x.length+1));unfold Builtin.Str.tooLong sizeLine;exact decide_eq_false (by lia)
 refine call_gives F.slot_str_replace (typeIs_str _ _ _) F.entry_str_replace (F.args_str_replace_3 _ _ _)
  (gives_str_replace x y z t u v fun Z=>⟨by simp[hu,hv],by simp[huv],hyz,hl⟩) ?_
 have BU:=hq;unfold Txt.replace at BU;cases hc:((Builtin.Str.occurrences x y 0 x.length (x.length+1)).isEmpty||(y.length==0&&z.length==0))
 ·simp only[hc]at BU;exact⟨fits_replaced y hb,BU _ _ (by lia)⟩
 ·simp only[hc]at BU;exact BU t s.toks hs
theorem mF(hx:Cx e)(h1:cS o=true)(h4:(apos.endLine==pos.line)=true)(hyz:(y==z)=false)(hz:z.length<=4) (h:UO e (eval o e.env) c fun u c1=>∃a,u= .pv (.str a)/\a.length<=1000/\∀b,Txt.replace (SS a) y z=SS b->Q (.pv (.str b)) c1):UO e (eval (.Call (.Attribute o (s "replace") apos) [.Constant (.str y) k1 p1,.Constant (.str z) k2 p2] [] pos) e.env) c Q:=fun x ad m aa ht n R E p=>by
 refine MethodCall_ (h x ad m aa ht n _ E fun u u' c1 td dF bx m1 av UP q1 n1 x1 r1=> ?_) (k9 h1 rfl (by simp) h4);refine bD q1 fun a QF BI hq=> ?_;subst QF;refine aA r1 fun t QG=> ?_;subst QG;refine GM.replace ?_;refine callWith_of (P:=fun h=>(KK e.w.params).In h) rfl (iL rfl) ?_;have hr:Txt.replace (SS a) y z=SS (Txt.replace (SS a) y z).cps.toList:=rfl;have key:wpAny (model pw e.w) e.A (spliced (backTo pos (starEach [.Constant (.str y) k1 p1,.Constant (.str z) k2 p2] e.env))) (fun vs s₁=>(KK e.w.params).In s₁.heap/\wpAny (model pw e.w) e.A (call (.builtin "str.replace") ([Value.str (SS a) t]++vs)) R E s₁) E {x with heap:=td,toks:=dF}:=by
  refine args_cons (wpAny_Constant_str (args_cons (wpAny_Constant_str (args_nil ⟨(hx.X.keeps n1.F.keep),?_⟩)) rfl)) rfl;refine Ay UP (by show dF+1≠0;exact fun zq=>cB (bY 46081808664 (bh zq))) (by show dF≠dF+1;exact fun zq=>cB (bY 45914036504 (bl zq))) hyz ?_ (by show dF+1+1≠0;exact fun zq=>cB (bY 0xababb099918 (bh zq))) fun t' k hk=> ?_
  ·rw[eR];have:(a.length+1)*z.length<=(1000+1)*4:=Nat.mul_le_mul (adJ BI) hz;exact ba 0x10000007f109b3e83f904df193e83f0928 BI this
  ·exact hr ▸ p _ _ _ td k _ _ _ hk (hq _ hr) n1 x1 ⟨_,rfl⟩
 rw[aE rfl]at key ⊢;exact evalArgs_plain key
end
section
noncomputable abbrev vF:List Nat:= [97,98,32,9,10,34,92,35]
abbrev wdX:Expr:=ak (at_ (ax (at_ (ar (st 34)) 1)) 0)
abbrev FI:Expr:=ak (at_ (ar (st 34)) 2)
abbrev UQ(d:Int):List (Str×V):= [(s "d",.pv (.int d)),(s "signs",.pv (.str vF))]
section
variable(P:Params)(e:Fm)(Q:AF->St->Prop)
theorem aae(d:Int)(σ:List AO):sL e P (st 34) ⟨[(s "d",.pv (.int d))],σ⟩ Q=fL ((d.fdiv 8).fmod 3==0) (bM e VR (.pv (.str vF)) (.pv (.int (d.fmod 8))) (subscriptTail (dh wdX) (ec wdX)) ⟨UQ d,σ⟩ fun v c=>Q (.ret v) c) (bM e VR (.pv (.str vF)) (.pv (.int (d.fmod 8))) (subscriptTail (dh (gc FI)) (ec (gc FI))) ⟨UQ d,σ⟩ fun a c1=>ew e P (au (st 34)) 38 (ie FI) c1 fun b c2=>bw .Add a b c2 (fun v c=>Q (.ret v) c) (bM e VR a b (binaryOp .Add) c2 fun v c=>Q (.ret v) c)):=by kernel_rfl
theorem aaf(d:Int)(σ:List AO)(K:V->St->Prop):ew e P (au (st 34)) 38 (ie FI) ⟨UQ d,σ⟩ K=bM e VR (.pv (.str vF)) (.pv (.int ((d.fdiv 24).fmod 8))) (subscriptTail (dh (ie FI)) (ec (ie FI))) ⟨UQ d,σ⟩ K:=by kernel_rfl
theorem Iy:isSlice (ec wdX)=false/\isSlice (ec (gc FI))=false/\isSlice (ec (ie FI))=false:=by and_intros<;>kernel_rfl
end
noncomputable def wordOf(d:Nat):List Nat:=if d / 8 % 3=0 then [vF.getD (d % 8) 0]else [vF.getD (d % 8) 0]++ [vF.getD (d / 24 % 8) 0]
theorem UR(d k:Nat):((d:Int)).fdiv (k:Int)=((d / k:Nat):Int):=by rw[Int.fdiv_eq_ediv_of_nonneg _ (aa1 _)];rfl
theorem QH(d k:Nat):((d:Int)).fmod (k:Int)=((d % k:Nat):Int):=by rw[ac8 _ (aa1 _)];rfl
variable{e:Fm}
theorem DU(hx:Cx e)(hk:e.k=k+1)(d:Nat)(σ:List AO):af e [.pv (.int d)] (.ref 923) σ fun v σ'=>v= .pv (.str (wordOf d))/\σ'=σ:=by
 refine df hx hk (Wt _) (names:= [s "d"]) (fun Z Z Z Z Z Z vs hv=>by refine aA (je hv) fun Z QI=> ?_;subst QI;kernel_rfl) (by kernel_rfl) fun e' aL hw cH hs=>bJ aL hs ?_;refine of_eq (aae _ e' _ d σ) ?_;have e8:((d:Int)).fmod 8=((d % 8:Nat):Int):=QH d 8;have e3:(((d:Int)).fdiv 8).fmod 3=((d / 8 % 3:Nat):Int):=by exact(show((d:Int)).fdiv 8=_ from UR d 8) ▸ QH _ 3
 have e24:(((d:Int)).fdiv 24).fmod 8=((d / 24 % 8:Nat):Int):=by exact(show((d:Int)).fdiv 24=_ from UR d 24) ▸ QH _ 8
 refine e8 ▸ e3 ▸ ?_;by_cases h:d / 8 % 3=0
 ·refine h ▸ (sJ (lE (Iy).1 (aa1 _) (by simp;lia) (by decide) ⟨?_,rfl⟩));unfold wordOf;refine(if_pos h) ▸ ?_;rfl
 ·have:(((d / 8 % 3:Nat):Int)==0)=false:=by simp;lia
  simp only[this];refine qk (lE (Iy).2.1 (aa1 _) (by simp;lia) (by decide) (of_eq (aaf _ e' d σ _) (e24 ▸ ?_)));refine lE (Iy).2.2 (aa1 _) (by simp;lia) (by decide) ⟨by simp,?_,rfl⟩;unfold wordOf;refine(if_neg h) ▸ ?_;rfl
end
abbrev FJ:List Stmt:=ar (st 35)
abbrev kj:Scope:=au (st 35)
abbrev wrA:Expr:=ak (at_ FJ 0)
abbrev QJ:Stmt:=at_ FJ 1
abbrev DV:Expr:=ak (at_ (ax QJ) 0)
abbrev US:Expr:=ak (at_ FJ 2)
abbrev Iz:Expr:=ie (gc (gc DV))
abbrev IA:Expr:=aR Iz
abbrev Km:Expr:=gc US
abbrev xb:Expr:=az 0 Km
abbrev rZ:Expr:=bH xb
abbrev wrG:Expr:=(dT xb).iter
abbrev r7(w:List Nat)(d:Int)(g:List Nat):List (Str×V):= [(s "word",.pv (.str w)),(s "d",.pv (.int d)),(s "gap",.pv (.str g))]
theorem DW:FJ= [at_ FJ 0]++ [.If (bU QJ) [.Return (some (.BinOp (.BinOp (.BinOp (.Constant (.str (s "\"")) 0 (fJ (gc (gc (gc DV))))) .Add (.Call (.Attribute (.Call (.Attribute (.Name (s "word") (aw (aR IA))) (s "replace") (aw (hG IA))) [.Constant (.str (s "\\")) 0 (fJ (az 0 IA)),.Constant (.str (s "\\\\")) 0 (fJ (az 1 IA))] [] (aw IA)) (s "replace") (aw (hG Iz))) [.Constant (.str (s "\"")) 0 (fJ (az 0 Iz)),.Constant (.str (s "\\\"")) 0 (fJ (az 1 Iz))] [] (aw Iz)) (aw (gc (gc DV)))) .Add (ie (gc DV)) (aw (gc DV))) .Add (ie DV) (aw DV))) (bZ (at_ (ax QJ) 0))] [] (bZ QJ),.Return (some (.BinOp (.Call (.Attribute (.Constant (.str (s "")) 0 (fJ (aR Km))) (s "join") (aw (hG Km))) [.ListComp (.IfExp (.Compare (.Name (s "sign") (aw (gM (Gs rZ)))) [.In] [rE (Gs rZ)] (aw (Gs rZ))) (.BinOp (.Constant (.str (s "\\")) 0 (fJ (gc (JU rZ)))) .Add (.Name (s "sign") (aw (ie (JU rZ)))) (aw (JU rZ))) (.Name (s "sign") (aw (ifC rZ))) (EY rZ)) [⟨.Name (s "sign") (aw (dT xb).target),.Name (s "word") (aw wrG),[],0⟩] (cb xb) (aw xb)] [] (aw Km)) .Add (ie US) (aw US))) (bZ (at_ FJ 2))]:=by kernel_rfl
section
variable(P:Params)(e:Fm)(Q:AF->St->Prop)(K:V->St->Prop)
theorem aai(w:List Nat)(d:Int)(σ:List AO):cZ (xw e P kj 40) [at_ FJ 0] ⟨[(s "word",.pv (.str w)),(s "d",.pv (.int d))],σ⟩ Q= bM e VR (.pv (.str [32,10,9])) (.pv (.int ((d.fdiv 384).fmod 3))) (subscriptTail (dh wrA) (ec wrA)) ⟨[(s "word",.pv (.str w)),(s "d",.pv (.int d))],σ⟩ fun v c=>Q .next {c with loc:=put c.loc (s "gap") v}:=by kernel_rfl
theorem aaj(w:List Nat)(d:Int)(g:List Nat)(σ:List AO)(B:Bool->St->Prop):tw e (ew e P kj 40) 40 (bU QJ) ⟨r7 w d g,σ⟩ B=B ((d.fdiv 192).fmod 2==0) ⟨r7 w d g,σ⟩:=by kernel_rfl
theorem aak(c:St):ew e P kj 40 (ie (gc DV)) c K=K (.pv (.str [34])) c:=by kernel_rfl
theorem aal(w:List Nat)(d:Int)(g:List Nat)(σ:List AO):ew e P kj 40 (ie DV) ⟨r7 w d g,σ⟩ K=K (.pv (.str g)) ⟨r7 w d g,σ⟩:=by kernel_rfl
theorem aam(w:List Nat)(d:Int)(g:List Nat)(σ:List AO):ew e P kj 40 (ie US) ⟨r7 w d g,σ⟩ K=K (.pv (.str g)) ⟨r7 w d g,σ⟩:=by kernel_rfl
theorem aan(c:St):ew e P (kC (cb xb) kj) 40 (rE (Gs rZ)) c K=K (.pv (.str [32,9,10,34,92])) c:=by kernel_rfl
theorem aao(w:List Nat)(d:Int)(g:List Nat)(σ:List AO):ew e P kj 40 (.Name (s "word") (aw wrG)) ⟨r7 w d g,σ⟩ K=K (.pv (.str w)) ⟨r7 w d g,σ⟩:=by kernel_rfl
theorem IB:isSlice (ec wrA)=false/\look kj.names (s "word")=some .local/\b7 (cb xb) kj (s "sign")=true/\look (kC (cb xb) kj).names (s "sign")=some .globalExplicit/\((aw (hG IA)).endLine==(aw IA).line)=true/\((aw (hG Iz)).endLine==(aw Iz).line)=true/\((aw (hG Km)).endLine==(aw Km).line)=true:=by and_intros<;>kernel_rfl
end
noncomputable def eM(w:List Nat):List Nat:=w.flatMap fun c=>if c=92 then [92,92]else [c]
noncomputable def gH(w:List Nat):List Nat:=w.flatMap fun c=>if c=34 then [92,34]else [c]
noncomputable def eg(c:Nat):List Nat:=if subIn [c] [32,9,10,34,92]then [92,c]else [c]
noncomputable def jn(w:List Nat):List Nat:=(w.map eg).flatten
noncomputable def jc(d:Nat):List Nat:= [([32,10,9]:List Nat).getD (d / 384 % 3) 0]
noncomputable def bF(d:Nat):List Nat:=if d / 192 % 2=0 then [34]++gH (eM (wordOf d))++ [34]++jc d else jn (wordOf d)++jc d
theorem ua(d:Nat):wordOf d=wordOf (d % 192):=by unfold wordOf;rw[(show d % 192 / 8 % 3=d / 8 % 3 from by rw[show d % 192 / 8=d / 8 % 24 from Nat.mod_mul_right_div_self d 8 24,Nat.mod_mod_of_dvd _ (by decide)]),(Nat.mod_mod_of_dvd d (by decide)),(show d % 192 / 24 % 8=d / 24 % 8 from by rw[show d % 192 / 24=d / 24 % 8 from Nat.mod_mul_right_div_self d 24 8,Nat.mod_mod])]
def QK(d:Nat):Bool:=(Txt.replace (SS (wordOf d)) (s "\\") (s "\\\\")==SS (eM (wordOf d)))&&((Txt.replace (SS (eM (wordOf d))) (s "\"") (s "\\\"")==SS (gH (eM (wordOf d))))&&(decide ((wordOf d).length<=2)&&(decide ((eM (wordOf d)).length<=4)&&(decide ((gH (eM (wordOf d))).length<=8)&&(wordOf d).all (· <128)))))
theorem DX:(acj 192).all QK=true:=by decide +kernel
theorem wok(d:Nat):Txt.replace (SS (wordOf d)) (s "\\") (s "\\\\")=SS (eM (wordOf d))/\Txt.replace (SS (eM (wordOf d))) (s "\"") (s "\\\"")=SS (gH (eM (wordOf d)))/\(wordOf d).length<=2/\(eM (wordOf d)).length<=4/\(gH (eM (wordOf d))).length<=8/\(wordOf d).all (· <128)=true:=by rw[ua];have h:=aaZ.mp DX (d % 192) (acB.mpr (aeC _ (acy _)));unfold QK at h;simp only[abD,beq_iff_eq,decide_eq_true_eq]at h;exact h
theorem ub(h:SS a=SS b):a=b:=by injection h with h;simpa using congrArg Array.toList h
theorem xc(w:List Nat)(k:Nat)(h:k<w.length):(w.take (k+1)).map eg=(w.take k).map eg++ [eg (w.getD k 0)]:=by simp only[adG,acq];simp[acU,h]
theorem sa(w:List Nat):(jn w).length<=2*w.length:=by
 unfold jn;induction w with
 | nil=>simp
 | cons c r ih=>
  have:(eg c).length<=2:=by unfold eg;split <;> simp
  simp only[acu,adE,aag,acn];exact bj 0xb2902ff109202ff19c0928 this ih
theorem lF(σ:List AO)(x y:AO):(σ++ [x,y])[σ.length]? =some x/\(σ++ [x,y])[σ.length+1]? =some y:=by
 constructor
 ·simp
 ·rw[abF (ab2 _ _)];simp
theorem pX(σ:List AO)(x y z:AO):(σ++ [x,y]).set σ.length z=σ++ [z,y]/\(σ++ [x,y]).set (σ.length+1) z=σ++ [x,z]:=by
 constructor
 ·rw[acG _ _ (abE _)];simp
 ·rw[acG _ _ (ab2 _ _)];simp
section
variable{e:Fm}
theorem DY(hx:Cx e)(hs:e.scope=kj)(hw:w.length<=2)(ha:w.all (· <128)=true) (h:Q (.ref σ.length) ⟨r7 w d g,σ++ [.vals .str (w.map eg),.ns []]⟩):Wp e VR (eval (.ListComp (.IfExp (.Compare (.Name (s "sign") (aw (gM (Gs rZ)))) [.In] [rE (Gs rZ)] (aw (Gs rZ))) (.BinOp (.Constant (.str (s "\\")) 0 (fJ (gc (JU rZ)))) .Add (.Name (s "sign") (aw (ie (JU rZ)))) (aw (JU rZ))) (.Name (s "sign") (aw (ifC rZ))) (EY rZ)) [⟨.Name (s "sign") (aw (dT xb).target),.Name (s "word") (aw wrG),[],0⟩] (cb xb) (aw xb)) e.env) ⟨r7 w d g,σ⟩ Q:=by
 refine pM hx (x:=s "sign") (us:=w.map fun q=>V.pv (.str [q])) (K:=fun Z=>True) (by exact hs ▸ (IB).2.2.1) (fun Z=>rfl) (by kernel_rfl) (by kernel_rfl) (.vals .str []) (.inl ⟨.str,rfl⟩)
  (fun a k σ'=>a=σ.length/\∃l,σ'=σ++ [.vals .str ((w.take k).map eg),.ns l]) (fun a k σ' hI=> ?_) (tE hx ha (aB hx hs (aao _ e _ w d g σ) ⟨rfl,rfl,⟨rfl,[],by simp⟩,trivial⟩)) (fun Z Z Z z=>z) (fun e2 i9 rL iV kG a j u σ' hu hI Z=> ?_) (fun a σ' hI=> ?_)
 ·obtain⟨rfl,l,rfl⟩:=hI;exact⟨l,(lF ..).2⟩
 ·refine cps fun Z zk=> ?_;obtain⟨rfl,l,rfl⟩:=hI;simp only[aa0,abh]at hu;obtain⟨q,hq,rfl⟩:=hu;refine zk ?_;rw[(pX ..).2];have ep:put (r7 w d g) (s "sign") (.ref (σ.length+1))=r7 w d g++ [(s "sign",.ref (σ.length+1))]:=by kernel_rfl
  refine ep ▸ ?_;have hi:∀ {pos:Pos} {Q:V->St->Prop},Q (.pv (.str [q])) ⟨r7 w d g++ [(s "sign",.ref (σ.length+1))],σ++ [.vals .str ((w.take j).map eg),.ns [(s "sign",.pv (.str [q]))]]⟩->Wp e2 VR (eval (.Name (s "sign") pos) e2.env) ⟨r7 w d g++ [(s "sign",.ref (σ.length+1))],σ++ [.vals .str ((w.take j).map eg),.ns [(s "sign",.pv (.str [q]))]]⟩ Q:=fun hQ=>yG i9 (by kernel_rfl) (by rw[(show e2.scope=kC (cb xb) kj from by rw[kG,hs])];exact(IB).2.2.2.1) (i:=σ.length+1) (by kernel_rfl) (lF ..).2 (by kernel_rfl) hQ;have fin:∀v,v=V.pv (.str (eg q))->cN e2 VR [.ref σ.length,v] (fun vs=>call (.builtin "list.append") vs) ⟨r7 w d g++ [(s "sign",.ref (σ.length+1))],σ++ [.vals .str ((w.take j).map eg),.ns [(s "sign",.pv (.str [q]))]]⟩ fun Z c5=>c5.loc=r7 w d g++ [(s "sign",.ref (σ.length+1))]/\(σ.length=σ.length/\∃l,c5.aj=σ++ [.vals .str ((w.take (j+1)).map eg),.ns l])/\True:=fun v hv=>by subst hv;refine ed (kd:=.str) (lF ..).1 (by simp;lia) ⟨rfl,⟨rfl,[(s "sign",.pv (.str [q]))],?_⟩,trivial⟩;rw[(pX ..).1,xc w j ((aab.mp hq).1:j<w.length),(show w.getD j 0=q from by simp[acU,hq])]
  refine uQ (eB rfl (hi (aB i9 (show e2.scope=kC (cb xb) kj from by rw[kG,hs]) (aan _ e2 _ _) (E9 (cG ⟨fun hT=> ?_,fun hF=> ?_⟩)))))
  ·refine fR (qG (hi (jX (adb (by kernel_rfl)) (fin _ ?_))));unfold eg;refine(if_pos hT) ▸ ?_;rfl
  ·refine hi (fin _ ?_);unfold eg;refine hF ▸ ?_;rfl
 ·obtain⟨rfl,l,rfl⟩:=hI;simp only[(pX ..).2,aaR,adk];exact h
theorem oD(w:List Nat):(w.map eg).flatten=jn w:=rfl
theorem uc(hx:Cx e)(hk:e.k=k+1)(d:Nat)(hσ:σ.all (AO.under σ.length)=true):af e [.pv (.str (wordOf d)),.pv (.int d)] (.ref 928) σ fun v σ'=>v= .pv (.str (bF d))/\σ'=σ:=by
 refine af.drop (df hx hk (Wu _) (names:= [s "word",s "d"]) (fun Z Z Z Z Z Z vs hv=>by refine eP (iW hv) fun Z Z QL=> ?_;subst QL;kernel_rfl) (by kernel_rfl) fun e' aL hw cH hs=> ?_);refine F9 (wok d) fun h1 h2 h3 h4 h5 h6=> ?_;refine KL IB fun f1 f2 f3 f4 f5 f6 f7=> ?_;have e3:(((d:Int)).fdiv 384).fmod 3=((d / 384 % 3:Nat):Int):=by exact(show((d:Int)).fdiv 384=_ from UR d 384) ▸ QH _ 3
 have e2:(((d:Int)).fdiv 192).fmod 2=((d / 192 % 2:Nat):Int):=by exact(show((d:Int)).fdiv 192=_ from UR d 192) ▸ QH _ 2
 show Wp e' bN (execs FJ e'.env) _ _;refine DW ▸ ?_;refine b8 aL hs ?_;refine of_eq (aai _ e' _ (wordOf d) d σ) (lE f1 (lx [_] [_] 167805200 (jv e3)) (by simp;exact lx [_] [_] 0xdb09db099080120 (ij e3) (aeC _ (acy _))) (by decide) ?_);have ep:put [(s "word",V.pv (.str (wordOf d))),(s "d",.pv (.int d))] (s "gap") (.pv (.str [([32,10,9]:List Nat).getD ((((d:Int)).fdiv 384).fmod 3).toNat 0]))=r7 (wordOf d) d (jc d):=by simp only[e3,acw];kernel_rfl
 dsimp only;refine ep ▸ ?_;have hgl:(jc d).length=1:=rfl;refine aT (oX (jE aL hs ?_));refine of_eq (aaj _ e' (wordOf d) d (jc d) σ _) ?_;refine e2 ▸ ?_;refine⟨fun hT=> ?_,fun hF=> ?_⟩
 ·have hd:d / 192 % 2=0:=by
   rw[beq_iff_eq]at hT;exact aac (bY 2694873368 (ij hT)) (aci _)
  refine aT (ix (fR (fR (Ax (mF aL (by kernel_rfl) f6 (by kernel_rfl) (by decide +kernel) (mF aL (by kernel_rfl) f5 (by kernel_rfl) (by decide +kernel) (Aw aL (by kernel_rfl) (hs ▸ f2) (v:=.pv (.str (wordOf d))) (by kernel_rfl) ⟨_,rfl,bY 4296025049368 h3,fun b1 hb1=>⟨_,rfl,?_,fun b2 Ly=> ?_⟩⟩)))))))
  ·rw[<-(ub (h1.symm.trans hb1))];exact bY 4296025180440 h4
  ·have aap:=ub (h1.symm.trans hb1);subst aap;have aaq:=ub (h2.symm.trans Ly);subst aaq;refine jX (by show([34]:List Nat).length+_<=_;simp;exact bY 0x186a05f0b981f0918 h5) (aB aL hs (aak _ e' _ _) (jX (by show([34]++_:List Nat).length+_<=_;simp;exact bY 0x1869e5f081f0918 h5) (aB aL hs (aal _ e' _ (wordOf d) d (jc d) σ) (jX (by show(([34]++_)++_:List Nat).length+_<=_;simp;exact ba 0x186a05f1bb0999b1981f0928 h5 (bh hgl)) ?_))));refine⟨σ,[],by simp,abE _,rfl,hσ,?_,rfl⟩;unfold bF;rw[if_pos hd];rfl
 ·have hd:¬d / 192 % 2=0:=by
   rw[beq_eq_false_iff_ne]at hF;lia
  have hl:=sa (wordOf d);refine cQ ?_;refine aT (ix (fR ?_));refine @dp e' _ V VR aL _ _ _ _ _ _ ?h1 ?h2 ?h3 ?h4 ?h5
  case h1=>rfl
  case h2=>rfl
  case h3=>show 1<30;decide
  case h4=>exact f7
  refine qG fun pl=> ?_;rw[show(s "").cps.toList= [] by kernel_rfl];refine Av ⟨rfl,aS rfl (DY aL hs h3 h6 (aN (Au (xs:=(wordOf d).map eg) (lF ..).1 (by rw[oD];exact ba 0x186a05f0c1a102ff0928 hl h3) ?_)))⟩;refine aB aL hs (aam _ e' _ (wordOf d) d (jc d) _) (jX (by rw[oD];exact bj 0x186a05f209c1ab29102ff0938 hl (bh hgl) h3) ?_);refine⟨σ,[.vals .str ((wordOf d).map eg),.ns []],rfl,abE _,rfl,hσ,?_,rfl⟩;unfold bF;rw[if_neg hd];rfl
end
section
set_option backward.match.sparseCases true
noncomputable def IC(o:Option Obj)(p:ClassData->Array (Option Value)->Bool):Bool:=match o with
 | some ⟨_,_,.cls cd,sl⟩=>p cd sl
 | _=>false
theorem vG{p:ClassData->Array (Option Value)->Bool}(h:IC o p=true):∃oc od cd sl,o=some ⟨oc,od,.cls cd,sl⟩/\p cd sl=true:=by
 cases o with
 | none=>exact gu h
 | some o=>
  obtain⟨oc,od,dt,sl⟩:=o;cases dt with
  | cls cd=>exact⟨oc,od,cd,sl,rfl,h⟩
  | _=>exact gu h
noncomputable def ud(K:Frag)(C:Addr):Bool:=IC (K.lookup C) fun cd sl=> !cd.mro.isEmpty&&(sl.toList[4]?).join==some .none&&specialIn K (.ref C) "__call__" ==some (some (.builtin "type.__call__"))&&instIn K (.ref C) (.type "type")==some true&&mroIn K C (.ref C)==some true
section
variable{prog:Program}{w:World}{A:Around}{K:Frag}{C:Addr}{R:Result->Shared->Prop}{s:Shared}
def vH(prog:Program)(w:World)(A:Around)(C fI:Addr)(rest:List Value)(R:Result->Shared->Prop)(r:Result)(s':Shared):Prop:=match r with
 | .ok (.ret v)=>∃(x:Addr) (ox:Obj) (od:Option Obj),v= .ref x/\InstAt s'.heap x ox C od/\codeAny (model prog w) A (.call (.ref fI) ⟨.ref x::rest,[]⟩) (InitBack x R) s'
 | .ok _=>False
 | .error e=>False
theorem ue{h₀:Heap}{L:Addr}{m:Str->Option Value}{aa:List (Addr×Obj)}{rest:List Value}{fN fI p:Addr}{more:List Value}(F:Fr h₀ L s.heap m)(X₀:K.In h₀)(e1:ud K C=true)(hr:readsIn K C (.type "type")=true)(hm:typeIn K (.ref C)=some (.type "type")) (hf:findCls K (.ref C) (.type "type") "__new__" =some (.get (.builtin "staticmethod.__get__") (.ref p) .none (.ref C)))(hp:recIn K p "staticmethod" =some (.ref fN::more)) (hi:findIn K (.ref C) "__init__" =some (some (.ref fI)))(ht:typeIn K (.ref fI)=some (.type "function")) (hq:codeAny (model prog w) (A.under (.builtin "type.__call__" ⟨.ref C::rest,[]⟩)) (.call (.ref fN) ⟨.ref C::rest,[]⟩) (fun r s'=>K.In s'.heap/\vH prog w (A.under (.builtin "type.__call__" ⟨.ref C::rest,[]⟩)) C fI rest R r s') {s with toks:=s.toks+1}):codeAny (model prog w) A (.call (.ref C) ⟨rest,[]⟩) R s:=by
 have X:=X₀.keeps F.keep;refine Gb (vG e1) fun oc od cd sl ho e1=> ?_
 ·simp only[abD,ac6,beq_iff_eq]at e1;refine cps fun Z zk=> ?_;refine aI e1 fun QM a5=> ?_;obtain⟨⟨⟨a1,a2⟩,a3⟩,a4⟩:=QM;have hc:clsIn K C=some cd:=by unfold clsIn;exact ho ▸ rfl
  have hmr:Looks (model prog w) s.heap (mroOf (.ref C)) cd.mro:=(looks_clsIn X hc).andThen .now;refine eP (show ∃c l,cd.mro=c::l from by cases q:cd.mro with | nil=>have a1:=q ▸ a1;cases a1 | cons c l=>exact⟨c,l,rfl⟩) fun c l hl=> ?_;refine zk ?_;have made:Looks (model prog w) s.heap (Bind.madeBy (.ref C)) none:=by intro A Q E s' k q;refine wpAny_bind (hmr A _ E s' k ?_);rw[hl,List.forIn_cons];refine wpAny_bind (wpAny_bind (wpAny_bind (wpAny_bind (wpAny_loadPart (k _ _ (X _ _ ho)) (wpAny_pure ?_)))));exact(Array.getElem?_toList) ▸ a2 ▸ wpAny_pure (wpAny_pure (wpAny_pure q))
  refine codeAny_of_tree ?_;refine nd_load (X _ _ ho) ?_;show wpAny _ _ (callAny.viaDunder (.ref C) _) _ _ _;refine wpAny_bind ((looks_specialIn X a3).at ?_);dsimp only;simp only[tc_bind];refine wpAny_bind (wpAny_pure (wpAny_bind (wpAny_pure ?_)));refine wpAny_pure (a:=Fin.again (.call (.builtin "type.__call__") ⟨.ref C::rest,[]⟩)) (And.intro rfl ?_);refine codeAny_call_builtin_at (Code.quiet_builtin _ (by decide +kernel)) entry_typeCall (check_slot tc_kind tc_split (looks_instIn X a4) (tc_args _ _ _) ?_);unfold Builtin.«type.__call__»
  lk
  lk
  lk
  lk
  simp only[a1,adS,if_false];refine wpAny_bind (made.at ?_);refine wpAny_bind (cls_sm (s:=s) F X₀ hm hr hf hp rfl ?_)
  repeat (first | with_reducible refine wpAny_call ?_ | lk)
  refine codeAny_mono hq fun r s' hz=> ?_;obtain⟨X',hz⟩:=hz;rcases r with _ | (v | _ | _ | _) <;> first | exact hz.elim | skip
  obtain⟨x,ox,od,rfl,I,hz⟩:=hz;have t1:Looks (model prog w) s'.heap (typeOf (.ref x)) (.ref C):=I.type;have s1:Looks (model prog w) s'.heap (isSubtype (.ref C) (.ref C)) true:=looks_mroIn X' a5;have i1:Looks (model prog w) s'.heap (typeLookup (.ref C) "__init__") (some (.ref fI)):=looks_findIn X' hi;have b1:Looks (model prog w) s'.heap (bindSpecial (.ref fI) (.ref x)) (.ref fI,[.ref x]):=bind_fn X' _ ht
  repeat (first | with_reducible refine wpAny_call ?_ | lk)
  refine codeAny_mono hz fun r s' z=> ?_;rcases r with e | (v | _ | _ | _) <;> first | exact z | exact z.elim | skip
  obtain⟨rfl,z⟩:=z;exact wpAny_pure (wpAny_pure z)
end
theorem aar(P:Params):peek (KK P) ⟨pw,P⟩ (checkBuiltinCall "object.__new__" ⟨[.ref 777],[]⟩)=some ():=by kernel_rfl
theorem aas(P:Params):peek (KK P) ⟨pw,P⟩ (isType (.ref 777))=some true:=by kernel_rfl
theorem aat(P:Params):peek (KK P) ⟨pw,P⟩ (Bind.madeHere "object.__new__" (.ref 777))=some ():=by kernel_rfl
theorem aau(P:Params):findCls (KK P) (.type "object") (.type "type") (s "__new__")=some (.val (.builtin "object.__new__")):=by kernel_rfl
def Az(P:Params)(C:Addr):Bool:=IC ((KK P).lookup C) fun cd Z=> !cd.abstract&& !cd.hasDel
theorem aav(P:Params):Az P 777=true:=by kernel_rfl
theorem sb{os:OsState} (hC:h.get? C=some ⟨oc,od,.cls cd,sl⟩)(a1:cd.abstract=false)(a2:cd.hasDel=false)(chk:Looks (model prog w) h (checkBuiltinCall "object.__new__" ⟨[.ref C],[]⟩) ())(ity:Looks (model prog w) h (isType (.ref C)) true)(here:Looks (model prog w) h (Bind.madeHere "object.__new__" (.ref C)) ()) (fin:R (.ok (.ret (.ref (h.objs.size+1)))) ⟨(h.push emptyDict).push (instObj C h.objs.size),g,d,t,os⟩):codeAny (model prog w) A (.call (.builtin "object.__new__") ⟨[.ref C],[]⟩) R ⟨h,g,d,t,os⟩:=by
 have key:∀A',wpAny (model prog w) A' (do
   let d <-if typeHasDict (.ref C)then some <$> alloc {cls:=.type "dict",data:=.dict #[]}else pure none
   ret (<-newObj (.ref C) .plain d)) (fun fin s'=>match fin with | .done f=>R (.ok f) s' | .again c'=>c'.quiet=true/\codeAny (model prog w) A c' R s') (fun e s'=>R (.error e) s') ⟨h,g,d,t,os⟩:=by
  intro A';refine wpAny_bind (wpAny_bind (wpAny_alloc (wpAny_pure (wpAny_bind ?_))));show wpAny _ _ (newObjAsIs _ _ _) _ _ _;refine wpAny_bind (wpAny_alloc (wpAny_bind (wpAny_bind (wpAny_load (Heap.get?_push_of_some _ (Heap.get?_push_of_some _ hC)) (wpAny_pure ?_)))));refine a2 ▸ ?_;refine wpAny_pure (wpAny_pure ?_);show R _ _;rw[Heap.size_push];exact fin
 refine codeAny_call_builtin_code (Code.quiet_builtin _ PySem.F.objNew.quiet) ?_;refine chk.at ?_;refine codeAny_builtin PySem.F.objNew.entry ?_
 repeat (first | simp only[a1,adS,if_false] | exact key _ | lk)
section
variable{e:Fm}{c:St}
theorem AA(hx:Cx e)(h:Q (.ref (c.aj.length+1)) {c with aj:=c.aj++ [.dict [],.inst 777 c.aj.length]}):cN e VR [.glob (.ref 777)] (fun vs=>call (.builtin "object.__new__") vs) c Q:=by
 rintro x ad m aa _ n (_ | ⟨rfl,_ | _⟩) R E p;have X:=hx.X.keeps n.F.keep;have h5:=aav e.w.params;refine Gb (vG h5) fun oc od cd sl ho h5=> ?_
 ·simp only[abD,ac6]at h5;obtain⟨hh,g,d,t,os⟩:=x;have N2:=(n.N.push n.F emptyDict).push (n.F.push _) (instObj 777 hh.objs.size);rw[Heap.size_push]at N2;have F2:=(n.F.push emptyDict).push (instObj 777 hh.objs.size);have hl:∀q∈aa,q.1<hh.objs.size:=fun q hq=>Heap.lt_size (n.N q hq).1;refine aI (n.new (o:=.dict []) (ob:=emptyDict) hl F2 (fun q hq=>N2 q (.tail _ hq)) ⟨[],0,rfl,.nil,by simp⟩) fun n1 x1=> ?_;have ll:∀q∈(hh.objs.size,emptyDict)::aa,q.1<hh.objs.size+1:=fun q hq=>by
   rcases abi.mp hq with z | z
   ·exact z ▸ Nat.lt_succ_self _
   ·exact adZ (hl q z)
  refine aI (n1.new (o:=.inst 777 c.aj.length) (ob:=instObj 777 hh.objs.size) ll F2 N2 ⟨_,by show((ad.m++ [hh.objs.size])++ [hh.objs.size+1])[c.aj.length]? =some hh.objs.size;rw[aaY (by simp;exact adJ (bl n.len)),<-n.len];simp,rfl⟩) fun n2 x2=> ?_;simp only[acx]at n2;have fin:=p (.ref (c.aj.length+1)) (.ref (hh.objs.size+1)) _ _ t _ m _ h n2 (x1.trans x2) ⟨hh.objs.size+1,by show((ad.m++ [hh.objs.size])++ [hh.objs.size+1])[c.aj.length+1]? =_;rw[abF (by simp;exact(bh n.len))];simp[n.len],rfl⟩;exact wpAny_call (sb (X _ _ ho) h5.1 h5.2 (.of_peek X (aar _)) (.of_peek X (aas _)) (.of_peek X (aat _)) fin)
end
end
section
variable{e:Fm}{c:St}
theorem AB(hx:Cx e)(h:Q (.builtin "object.__new__",[]) c):cP e MR (.glob (.type "object")) (fun v=>getMethod v (s "__new__") pl) c Q:=by
 rintro x ad m aa _ n rfl R E p;have X:=hx.X.keeps n.F.keep;have QN:opaqueClassAbove (.type "object")=pure none:=by unfold opaqueClassAbove;dsimp only;refine(show Manifest.isStub "object" =false by decide +kernel) ▸ ?_;rfl
 have L0:Looks (model pw e.w) x.heap (typeOf (.type "object")) (.type "type"):=Looks.of_pure (by first | rfl | kernel_rfl);have hg:findIn (KK e.w.params) (.type "type") "__getattribute__" =some (some (.builtin "type.__getattribute__")):=type_tga;refine wpAny_bind (wpAny_bind (L0.here ((looks_findIn X hg).here ?_)));dsimp only;refine(if_pos canon_tga) ▸ ?_;refine wpAny_bind (wpAny_mono (Q:=fun v=>R (v,[])) (E:=E) ?_ (fun Z Z z=>wpAny_pure z) fun Z Z z=>z);refine cls_open X (Looks.of_pure QN) L0 hg (looks_hook X (r:=none) (by rfl)) (by show PySem.W.subIn (KK e.w.params) _ _=_;rfl) (aau _) ?_;refine wpAny_pure ?_;show wpAny _ _ (handedOut (.builtin "object.__new__")) _ _ _;rw[handedOut_of (by decide +kernel)];exact wpAny_pure (p _ _ _ x.heap _ _ _ _ h n (Ext.refl ..) ⟨rfl,.nil⟩)
def mG(P:Params)(a:Addr):Prop:=∃o,(KK P).lookup a=some o/\o.cls= .type "type"
theorem oE(h:typeIn (KK P) (.ref a)=some (.type "type")):mG P a:=abh.mp h
theorem sd(hx:Cx e)(ha:mG e.w.params a)(hb:mG e.w.params b)(h:Q (.pv (.bool (!decide (a=b)))) c):bM e VR (.glob (.ref a)) (.glob (.ref b)) (compareOp .IsNot) c Q:=by
 rintro x ad m aa _ _ n rfl rfl R E p;have X:=hx.X.keeps n.F.keep;by_cases Cq:a=b
 ·subst Cq;rw[decide_eq_true rfl]at h;exact isnot_ref_same (p _ _ _ _ _ _ _ _ h n (Ext.refl ..) rfl)
 ·rw[decide_eq_false Cq]at h;refine ah ha fun o1 h1 h3=>aA hb fun o2 h2=> ?_
  ·exact kto_isnot (X _ _ h1) (X _ _ h2.1) Cq (by refine h3 ▸ ?_;simp) (p _ _ _ _ _ _ _ _ h n (Ext.refl ..) rfl)
end
section
variable{e:Fm}
theorem DZ(hx:Cx e)(hk:0<e.k)(e1:ud (KK e.w.params) C=true)(hr:readsIn (KK e.w.params) C (.type "type")=true)(hm:typeIn (KK e.w.params) (.ref C)=some (.type "type")) (hf:findCls (KK e.w.params) (.ref C) (.type "type") "__new__" =some (.get (.builtin "staticmethod.__get__") (.ref p) .none (.ref C)))(hp:recIn (KK e.w.params) p "staticmethod" =some (.ref fN::more)) (hi:findIn (KK e.w.params) (.ref C) "__init__" =some (some (.ref fI)))(ht:typeIn (KK e.w.params) (.ref fI)=some (.type "function")) (h:∀e':Fm,Cx e'->e'.w=e.w->e'.k=e.k-1->af e' (.glob (.ref C)::us) (.ref fN) σ fun v σ'=>∃i d es,v= .ref i/\σ'[i]? =some (.inst C d)/\σ'[d]? =some (.dict es)/\af e' (.ref i::us) (.ref fI) σ' fun r rk=>r= .pv .none/\Q (.ref i) rk):af e us (.ref C) σ Q:=by
 intro x ad m aa vs n ru R E q;refine ue (aa:=aa) n.F hx.X e1 hr hm hf hp hi ht ?_;refine codeAny_mono (h (e.Hq C vs) (hx.Hq hk C vs) rfl rfl {x with toks:=x.toks+1} ad m aa (.ref C::vs) n (.cons rfl ru)
  (fun v s'=>(KK e.w.params).In s'.heap/\vH pw e.w (e.A.under (.builtin "type.__call__" ⟨.ref C::vs,[]⟩)) C fI vs (fun r s'=>match r with | .ok (.ret v)=>R v s' | .ok _=>False | .error ex=>E ex s') (.ok (.ret v)) s') (fun Z Z=>False) fun v v' σ' h' tk aF ag hq n' y rv=> ?_) fun r s' rA=> ?_
 ·refine cY hq fun i d es QO g1 g2 hc=> ?_;subst QO;have mZ:aU (e.Hq C vs) aF m ag ⟨[],σ'⟩ h':=n';refine yr (mZ.inst g1 g2 rv) fun a dx fK k QP ha qN JY Hk hE hz I=> ?_;subst QP;refine⟨hx.X.keeps n'.F.keep,a,_,_,rfl,I,?_⟩;refine codeAny_mono (hc {x with heap:=h',toks:=tk} aF m ag (.ref a::vs) n' (.cons rv (qj.mono y ru)) (fun r s'=>r= .none/\R (.ref a) s') E fun r r' σ2 h2 gI bp ay Kf n2 y2 rv2=> ?_) fun r s' rA=> ?_
  ·obtain⟨rfl,Kf⟩:=Kf;exact⟨rv2,q _ _ σ2 h2 gI bp ay Kf n2 (y.trans y2) (VR.mono y2 rv)⟩
  ·rcases r with _ | (v | _ | _ | _) <;> first | exact rA | exact rA.elim
 ·rcases r with _ | (v | _ | _ | _) <;> first | exact rA | exact rA.elim
end
abbrev FK:List Stmt:=ar (cst 19 1)
abbrev uf:Scope:=au (cst 19 1)
abbrev UT:Expr:=bU (at_ FK 0)
abbrev nwR:Expr:=ak (at_ FK 1)
abbrev BZ(σ:List AO):St:=⟨[(s "cls",.glob (.ref 777))],σ⟩
theorem D1:FK= [.If UT (ax (at_ FK 0)) [] (bZ (at_ FK 0)),at_ FK 1]:=by kernel_rfl
section
variable(P:Params)(e:Fm)(Q:AF->St->Prop)(K:V->St->Prop)
theorem aaw(σ:List AO)(B:Bool->St->Prop):tw e (ew e P uf 40) 40 UT (BZ σ) B=bM e VR (.glob (.ref 777)) (.glob (.ref 530)) (compareOp .IsNot) (BZ σ) fun v c3=>cP e cD v truthy c3 fun b c1=>fL b (J1 (tw e (ew e P uf 40) 39) .And [boE 1 UT] c1 B) (B false c1):=by kernel_rfl
theorem aax(σ:List AO)(B:Bool->St->Prop):J1 (tw e (ew e P uf 40) 39) .And [boE 1 UT] (BZ σ) B=bM e VR (.glob (.ref 777)) (.glob (.ref 777)) (compareOp .IsNot) (BZ σ) fun v c3=>cP e cD v truthy c3 fun b c1=>fL b (B true c1) (B false c1):=by kernel_rfl
theorem aay(σ:List AO):cZ (xw e P uf 40) [at_ FK 1] (BZ σ) Q=∀pl,cP e MR (.glob (.type "object")) (fun v=>getMethod v (s "__new__") pl) (BZ σ) (mQ e P uf 38 (dE nwR) fun v c=>Q (.ret v) c):=by kernel_rfl
theorem aaz(σ:List AO):mQ e P uf 38 (dE nwR) K (.builtin "object.__new__",[]) (BZ σ)=cN e VR [.glob (.ref 777)] (fun dc=>call (.builtin "object.__new__") dc) (BZ σ) K:=by kernel_rfl
theorem D2:mG P 777/\mG P 530:=⟨oE (by kernel_rfl),oE (by kernel_rfl)⟩
theorem aaA(kV doc pm dS ct:Value)(an:Option Addr)(v:Value):bindArgs (fnOf (fnName (cst 19 1)) (s "IOBase.__new__") (fy (cst 19 1)) (ar (cst 19 1)) (au (cst 19 1)) .none kV doc pm an dS ct) ⟨[.ref 777,v],[]⟩=(newTuple [v] >>= fun t=>alloc emptyDict >>= fun d=>pure [(s "cls",Value.ref 777),(s "args",t),(s "kwargs",Value.ref d)]):=by kernel_rfl
end
section
variable{e:Fm}
theorem ID(hx:Cx e)(hs:e.scope=uf)(h:Q (.ret (.ref (σ.length+1))) (BZ (σ++ [.dict [],.inst 777 σ.length]))):Wp e bN (execs FK e.env) (BZ σ) Q:=by refine D1 ▸ (aT (oX (jE hx hs ?_)));refine of_eq (aaw _ e σ _) (sd hx (D2 _).1 (D2 _).2 (cG (sJ (of_eq (aax _ e σ _) (sd hx (D2 _).1 (D2 _).1 (cG ?_))))));refine qk ⟨(fun z=>gu z),fun Z=>cQ (bJ hx hs ?_)⟩;refine of_eq (aay _ e _ σ) fun pl=>AB hx (of_eq (aaz _ e _ σ) (AA hx h))
theorem IE(hx:Cx e)(hk:e.k=k+1):af e [.glob (.ref 777),u] (.ref 270) σ fun v σ'=>v= .ref (σ.length+1)/\σ'=σ++ [.dict [],.inst 777 σ.length]:=by
 refine cps fun Z zk=>sW (WL e.w.params) fun kV doc pm an dS ct ho mY hs=> ?_;simp only[ac5]at hs;refine aI hs fun QQ s4=> ?_;obtain⟨⟨s1,s2⟩,s3⟩:=QQ;refine zk ?_;have s3:(au (cst 19 1)).kind= .function:=by simpa using s3
 have s4:fS (au (cst 19 1))=true:=by simpa using s4
 have fT:∀y∈(au (cst 19 1)).names,y.2≠ .cell:=fun y hy z=>by have:=aaZ.mp s4 y hy;have this:=z ▸ this;exact absurd this (by decide)
 intro sh ad m aa vs n ru R E p;refine aA (show ∃v,vs= [.ref 777,v] from by refine bG ru.un fun Z Z e1 r1 r2=>bG r2.un fun v Z e2 Z r3=>⟨v,?_⟩;simp only[e1,e2,r3.ni,show _=_ from r1]) fun v QR=> ?_;have zs:=QR.symm;refine cps fun Z zk=> ?_;subst zs;refine hY hx.T fun fc mg mb T=>zk ?_;refine codeAny_call_function (by have:=hx.dep;exact bj 757094035331352 this) ((hx.X.keeps n.F.keep) _ _ ho) rfl s1 s2 rfl (codeRec_of (hx.X.keeps n.F.keep) mY) ?_;rw[aaA];refine cps fun Z zk=>bL (Fr.en n.F n.N ({cls:=.type "tuple",data:=.seq [v].toArray})) fun F' N' bT=> ?_;refine aI (n.more bT F' N') fun n2 x2=>bL (Fr.en n2.F n2.N emptyDict) fun F3 N3 IF=> ?_;refine aI (n2.more IF F3 N3) fun n3 x3=>zk ?_;refine wpAny_bind (wpAny_newTuple (wpAny_bind (wpAny_alloc (wpAny_pure ?_))) (by have:=aD;simp;exact bY 0xb0186a15f918 this));refine kp_frame hx.B F3 N3 T.nolimit hx.hA rfl hx.uH (fun y hy=> ?_) (fun g L' h₁ FG FL NG BG st=> ?_) fT s3
 ·have:([s "cls",s "args",s "kwargs"].all fun y=>decide ((au (cst 19 1)).names.lookup y=some .local))=true:=by kernel_rfl
  simp only[acP,aeL,aea,abD,decide_eq_true_eq]at this;simp only[abi,acS,or_false]at hy;rcases hy with rfl | rfl | rfl
  ·exact this.1
  ·exact this.2.1
  ·exact this.2.2
 ·have cx:Cx ⟨e.w,e.A.deeper (envOf (s "IOBase.__new__") (au (cst 19 1)) L' 270 dS),e.A,e.base,g,e.iU::e.outer,L',(s "IOBase.__new__"),au (cst 19 1),270,dS,k,au (cst 19 1),[],none,fun Z=>none⟩:=⟨BG,(hx.X.keeps st),⟨fc,mg,mb,(T.keeps st)⟩,by
    show e.A.frames.map _=_;refine hx.hA ▸ ?_;rfl,s3,s3,rfl,rfl,fB s4 rfl rfl (fun Z=>rfl),(hx.dn hk).1,(hx.dn hk).2,hx.hh⟩
  have now:aU ⟨e.w,e.A.deeper (envOf (s "IOBase.__new__") (au (cst 19 1)) L' 270 dS),e.A,e.base,g,e.iU::e.outer,L',(s "IOBase.__new__"),au (cst 19 1),270,dS,k,au (cst 19 1),[],none,fun Z=>none⟩ ad (fun y=>([(s "cls",Value.ref 777),(s "args",.ref sh.heap.objs.size),(s "kwargs",.ref (sh.heap.push ({cls:=.type "tuple",data:=.seq [v].toArray}:Obj)).objs.size)]:List (Str×Value)).reverse.lookup y) _ ⟨[(s "cls",.glob (.ref 777))],σ⟩ h₁:=
   ⟨FL,NG,n3.nd,fun y v e'=>(by
    simp only[eQ]at e';cases q:Fast.sEq (s "cls") y with
    | false=>have e':=q ▸ e';exact aZ e'
    | true=>rw[q]at e';obtain rfl:=aah.inj e';refine(Fast.sEq_iff.mp q) ▸ (⟨.ref 777,?_,rfl⟩);show([(s "cls",Value.ref 777),_,_]:List (Str×Value)).reverse.lookup (s "cls")=_;simp only[cj];kernel_rfl),n3.len,n3.fP,n3.fb,n3.gp,n3.rep⟩
  refine(ID (Q:=fun fl c'=>fl= .ret (.ref (σ.length+1))/\c'.aj=σ++ [.dict [],.inst 777 σ.length]) cx rfl ⟨rfl,rfl⟩) _ ad _ _ now _ _ fun fl JZ c' h' tk aF m' ag q n' y r=> ?_;obtain⟨rfl,q⟩:=q;refine sG L' m' ag ⟨n'.F,n'.N,fun F0 N0=> ?_⟩;refine cps fun Z zk=>ah r fun v' QS rv=> ?_;obtain rfl:=QS.symm;refine zk (p _ _ _ _ _ _ _ ⟨rfl,q⟩ ⟨F0,N0,n'.nd,(fun Z Z e=>aZ e),n'.len,n'.fP,n'.fb,n'.gp,n'.rep⟩ ((x2.trans x3).trans y) rv)
end
noncomputable abbrev se(v:Value):Obj:={cls:=.type "collections.deque",data:=.fields #[v,rawInt 0]}
theorem AD:mroOf (.type "collections.deque")=pure [.type "collections.deque",.type "object"]:=by rw[mroOf_type];kernel_rfl
theorem IG:typeLookup (.type "collections.deque") "__new__" =pure (some (.builtin "collections.deque.__new__")):=by rw[typeLookup_type,builtinLookup_eq_fast];kernel_rfl
theorem D3:Slot "collections.deque" "__init__" "collections.deque.__init__" :=.of (owner:= "collections.deque") (n:= "__init__") (by rw[typeLookup_type,builtinLookup_eq_fast];kernel_rfl) (by decide +kernel) (by decide +kernel) (by decide +kernel)
 (by first | exact .inl (by decide +kernel) | exact .inr (by decide +kernel)) (by rw[isSubtype_type];kernel_rfl)
theorem xd:TypeCalled "collections.deque" "collections.deque.__new__" "collections.deque.__init__" :=
 ⟨by decide +kernel,by decide +kernel,⟨_,_,AD⟩,madeBy_type AD IG (by decide +kernel),by decide +kernel,by rw[isSubtype_type];kernel_rfl,D3⟩
theorem QT:checkTypeCall "collections.deque" ⟨[],[]⟩=pure ():=by kernel_rfl
theorem QU:checkBuiltinCall "collections.deque.__new__" ⟨[.type "collections.deque"],[]⟩=pure ():=by kernel_rfl
theorem D4(o:Value):argsOk "collections.deque.__init__" ⟨[o],[]⟩:=by unfold argsOk;kernel_rfl
theorem QV:entryFor table "collections.deque.__new__" =some Builtin.«collections.deque.__new__»:=entryFor_of_tree (by kernel_rfl)
theorem QW:entryFor table "collections.deque.__init__" =some Builtin.«collections.deque.__init__»:=entryFor_of_tree (by kernel_rfl)
theorem FN:plainId "collections.deque.__new__" =true:=by decide +kernel
theorem IH:Builtin.«collections.deque.__new__» ⟨[.type "collections.deque"],[]⟩=(newObj (.type "collections.deque") (.fields #[.none,rawInt 0]) none >>= fun v=>ret v):=by kernel_rfl
theorem D5(x:Addr):Builtin.«collections.deque.__init__» ⟨[.ref x],[]⟩=(setField (.ref x) 0 .none >>= fun Z=>Builtin.Deque.clear (.ref x) >>= fun Z=>ret .none):=by kernel_rfl
section
variable{e:Fm}{c:St}
theorem vI(h:Q (.ref c.aj.length) {c with aj:=c.aj++ [.dK]}):cN e VR [] (fun vs=>call (.type "collections.deque") vs) c Q:=by
 rintro x ad m aa _ n (_ | _) R E q;refine cps fun Z zk=> ?_;obtain⟨hh,g,d,tk,os⟩:=x;have hl:∀p∈aa,p.1<hh.objs.size:=fun p hp=>Heap.lt_size (n.N p hp).1;refine bL (Fr.en n.F n.N (se .none)) fun F' N' Z=>zk ?_;have ho:(hh.push (se .none)).get? hh.objs.size=some (se .none):=Heap.get?_push_size _ rfl;refine callType_codes (Q₁:=fun o s₁=>o= .ref hh.objs.size/\s₁=⟨hh.push (se .none),g,d,tk,os⟩) xd QT QW ?_ fun o s₁ ⟨h1,h2⟩=> ?_
 ·refine codeAny_of_tree (wpAny_bind (wpAny_of_eq QU (wpAny_pure ⟨plainId_quiet FN _,codeAny_builtin QV ?_⟩)));simp only[Around.under_plainId FN _,IH];exact wpAny_bind (wpAny_newObj_type (wpAny_pure ⟨rfl,rfl⟩))
 ·subst h1;subst h2;refine⟨⟨_,ho,rfl⟩,D4 _,?_⟩;simp only[D5];refine wpAny_bind (wpAny_setField_rec ho (acy _) fun h' g1 g2=>wpAny_bind (wpAny_bind (wpAny_bind (wpAny_bind (wpAny_load g1 (wpAny_pure (wpAny_pure ?_)))))));refine wpAny_pure (wpAny_pure ⟨rfl,?_⟩);have N2:News e.h₀ e.L h' ((hh.objs.size,se .none)::aa):=by
   exact news_set N' (fun Z z=>bg z) (fun p hp z=>by have:=hl p hp;simp only[z]at this;exact absurd this (acI _)) g2 g1
  refine aI (n.new (o:=.dK) hl (F'.change g2 (N' _ (.head _)).2.1 (N' _ (.head _)).2.2) N2 (NT.of (by decide))) fun n2 x2=>q _ _ _ h' tk _ _ _ h n2 x2 ⟨_,by show(ad.m++ [_])[_]? =_;refine n.len ▸ ?_;simp,rfl⟩
end
section
abbrev QX:List Stmt:=ar (cst 23 1)
abbrev D6:Scope:=au (cst 23 1)
abbrev UU:Stmt:=at_ QX 6
abbrev Kn:Stmt:=at_ (ax UU) 0
abbrev lG(b:List Nat):List (Str×V):= [(s "_StringIO__newline",.pv (.str [10])),(s "_StringIO__buf",.pv (.str b)),(s "_StringIO__pos",.pv (.int 0))]
abbrev D7(x:List Nat):List (Str×V):= [(s "self",.ref 1),(s "initial_value",.pv (.str x)),(s "newline",.pv (.str [10]))]
theorem D8:QX=QX.take 6++ [.If (bU UU) [.Assign [.Attribute (qC Kn) (s "_StringIO__buf") (aw (i6 0 Kn))] (ak Kn) (bZ Kn)] [] (bZ UU)]:=by kernel_rfl
section
variable(P:Params)(e:Fm)(Q:AF->St->Prop)(K:V->St->Prop)
theorem aaB(x:List Nat):cZ (xw e P D6 40) (QX.take 6) ⟨D7 x,[.dict [],.inst 777 0]⟩ Q=Q .next ⟨D7 x,[.dict (lG []),.inst 777 0]⟩:=by kernel_rfl
theorem aaC(x:List Nat)(σ:List AO)(B:Bool->St->Prop):tw e (ew e P D6 40) 40 (bU UU) ⟨D7 x,σ⟩ B=B true ⟨D7 x,σ⟩:=by kernel_rfl
theorem aaD(x:List Nat):ew e P D6 40 (ak Kn) ⟨D7 x,[.dict (lG []),.inst 777 0]⟩ K=af e [.ref 1,.pv (.str x)] (.ref 554) [.dict (lG []),.inst 777 0] fun v σ=>K v ⟨D7 x,σ⟩:=by kernel_rfl
theorem aaE(x:List Nat)(σ:List AO):ew e P D6 40 (qC Kn) ⟨D7 x,σ⟩ K=K (.ref 1) ⟨D7 x,σ⟩:=by kernel_rfl
theorem aaF(b x:List Nat):sL e P (cst 23 2) ⟨[(s "self",.ref 1),(s "s",.pv (.str x))],[.dict (lG b),.inst 777 0]⟩ Q=Q (.ret (.pv (.str x))) ⟨[(s "self",.ref 1),(s "s",.pv (.str x)),(s "newline",.pv (.str [10]))],[.dict (lG b),.inst 777 0]⟩:=by kernel_rfl
theorem aaG:setOk P 777 (s "_StringIO__buf")=true/\put (lG []) (s "_StringIO__buf") (.pv (.str ([]:List Nat)))=lG []:=⟨by kernel_rfl,by kernel_rfl⟩
theorem aaH(x:List Nat):put (lG []) (s "_StringIO__buf") (.pv (.str x))=lG x:=by kernel_rfl
theorem aaI:ud (KK P) 777=true/\readsIn (KK P) 777 (.type "type")=true/\typeIn (KK P) (.ref 777)=some (.type "type")/\findCls (KK P) (.ref 777) (.type "type") "__new__" =some (.get (.builtin "staticmethod.__get__") (.ref 274) .none (.ref 777))/\recIn (KK P) 274 "staticmethod" =some (.ref 270:: [])/\findIn (KK P) (.ref 777) "__init__" =some (some (.ref 547))/\typeIn (KK P) (.ref 547)=some (.type "function"):=by and_intros<;>kernel_rfl
end
variable{e:Fm}
theorem AE(hx:Cx e)(hk:e.k=k+1)(b x:List Nat):af e [.ref 1,.pv (.str x)] (.ref 554) [.dict (lG b),.inst 777 0] fun v σ=>v= .pv (.str x)/\σ= [.dict (lG b),.inst 777 0]:=by refine df hx hk (WN _) (names:= [s "self",s "s"]) (fun Z Z Z Z Z Z vs hv=>by refine eP (iW hv) fun Z Z QY=> ?_;subst QY;kernel_rfl) (by kernel_rfl) fun e' aL hw cH hs=>bJ aL hs ?_;exact of_eq (aaF _ e' _ b x) ⟨rfl,rfl⟩
theorem AG(hx:Cx e)(hk:e.k=k+2)(x:List Nat):af e [.ref 1,.pv (.str x)] (.ref 547) [.dict [],.inst 777 0] fun v σ=>v= .pv .none/\σ= [.dict (lG x),.inst 777 0]:=by refine lZ hx hk (WM _) (names:= [s "self",s "initial_value",s "newline"]) (ds:= [.pv (.str [10])]) (dvs:= [vs "\n" 957]) (fun Z Z=>.cons ⟨957,by kernel_rfl⟩ .nil) (fun Z Z Z Z Z Z x' dc X hv=>by refine eP (iW hv) fun u1 u2 ez=> ?_;exact ez ▸ pA (a:=540) (o:=⟨(.type "tuple"),none,(.seq #[(vs "" 956),(vs "\n" 957)] 0),#[]⟩) (of_eq (by kernel_rfl:mh _ _ _ _=(540=540/\(pure [(s "self",u1),(s "initial_value",u2),(s "newline",vs "\n" 957)]:Sem _)=pure [(s "self",u1),(s "initial_value",u2),(s "newline",vs "\n" 957)])) ⟨rfl,rfl⟩) (by kernel_rfl) X) (by kernel_rfl) fun e' aL hw cH hs=> ?_;show Wp e' bN (execs QX e'.env) ⟨D7 x,_⟩ _;refine D8 ▸ (b8 aL hs ?_);refine of_eq (aaB _ e' _ x) (aT (oX (jE aL hs (of_eq (aaC _ e' x _ _) ⟨fun Z=> ?_,(fun z=>lI z)⟩))));refine aT (cq rfl (aB aL hs (aaD _ e' _ x) ((AE aL cH [] x).eqs ?_)));refine aB aL hs (aaE _ e' _ x _) (fj aL rfl rfl (aaG _).1 (by decide) (cQ (cQ ⟨rfl,?_⟩)));simp only[aaH];rfl
theorem II(hx:Cx e)(hk:e.k=k+3)(x:List Nat):af e [.pv (.str x)] (.ref 777) [] fun v σ=>v= .ref 1/\σ= [.dict (lG x),.inst 777 0]:=by refine KL (aaI e.w.params) fun h1 h2 h3 h4 h5 h6 h7=>DZ hx (ba 1900821911832 (bl hk)) h1 h2 h3 h4 h5 h6 h7 fun e' aL hw cH=>(IE (k:=k+1) aL (aac (dZ 0xbb3990d39292b19910938 (bh cH) (cA (ba 7278205208 (bl hk))) (bh hk)) (dZ 0x3bb099329b29191d09938 (bl hk) eH (bl cH)))).eqs ?_;refine⟨1,0,[],rfl,rfl,rfl,(AG (k:=k) aL (aac (dZ 0xc390d39292b19910938 (bh cH) (cA (ba 7278205208 (bl hk))) (bh hk)) (dZ 0x3c09329b29191d09938 (bl hk) eH (bl cH))) x).mono fun v σ hv=> ?_⟩;refine cps fun Z zk=>aI hv fun QZ Q0=> ?_;subst QZ;subst Q0;refine zk (⟨rfl,rfl,rfl⟩)
end
section
variable{e:Fm}
theorem vJ(n:Nat):eJ [] n=fun j=>n+j:=by funext j;simp[eJ]
theorem AH:∀ {us:List V},us.all V.flat=true->us.map (V.bQ ρ)=us:=by
 intro us;induction us with
 | nil=>exact fun Z=>rfl
 | cons u r ih=>intro h;simp only[acP,abD]at h;simp only[acu,ih h.2];cases u <;> first | rfl | exact absurd h.1 ack
theorem af.base (hu:us.all V.flat=true)(h:af e us f [] Q')(k:∀v τ',Q' v τ'->Q (v.bQ fun j=>σ.length+j) (σ++τ'.map (AO.bQ fun j=>σ.length+j))):af e us f σ Q:=by
 have:=af.lift aek rfl (fun j o i h1 h2=>by exact aZ h1) h fun v τ' q=>by
  rw[vJ];have e2:ny [] σ τ'=σ++τ'.map (AO.bQ fun j=>σ.length+j):=by unfold ny;rw[vJ];cases τ' <;> rfl
  rw[e2];exact(k v τ' q)
 rwa [AH hu]at this
abbrev yl:List Stmt:=ar (cst 32 0)
abbrev ug:Scope:=au (cst 32 0)
abbrev cp(x:String):List Nat:=(s x).cps.toList
abbrev Ko:Stmt:=at_ yl 13
abbrev Kp:Stmt:=at_ yl 17
theorem D9:yl= [at_ yl 0]++((yl.drop 1).take 12++(.Assign [.Attribute (qC Ko) (s "pushback") (aw (i6 0 Ko))] (.Call (.Name (s "deque") (aw (hG (ak Ko)))) [] [] (aw (ak Ko))) (bZ Ko)::((yl.drop 14).take 3++(.Assign [.Attribute (qC Kp) (s "filestack") (aw (i6 0 Kp))] (.Call (.Name (s "deque") (aw (hG (ak Kp)))) [] [] (aw (ak Kp))) (bZ Kp)::yl.drop 18)))):=by kernel_rfl
abbrev sR(u:V):List (Str×V):= [(s "self",.ref 1),(s "instream",u),(s "infile",.pv .none),(s "posix",.pv (.bool false)),(s "punctuation_chars",.pv (.bool false))]
abbrev aaJ(u:V):List (Str×V):= [(s "self",.ref 1),(s "instream",u),(s "infile",.pv .none),(s "posix",.pv (.bool false)),(s "punctuation_chars",.pv (.str []))]
abbrev xe:List (Str×V):= [(s "instream",.ref 3),(s "infile",.pv .none),(s "posix",.pv (.bool false)),(s "eof",.pv (.str [])),(s "commenters",.pv (.str (cp "#"))),(s "wordchars",.pv (.str (cp "abcdfeghijklmnopqrstuvwxyzABCDEFGHIJKLMNOPQRSTUVWXYZ0123456789_"))),(s "whitespace",.pv (.str (cp " \t\r\n"))),(s "whitespace_split",.pv (.bool false)),(s "quotes",.pv (.str (cp "'\""))),(s "escape",.pv (.str (cp "\\"))),(s "escapedquotes",.pv (.str (cp "\""))),(s "state",.pv (.str (cp " ")))]
abbrev xf:List (Str×V):=xe++ [(s "pushback",.ref 4),(s "lineno",.pv (.int 1)),(s "debug",.pv (.int 0)),(s "token",.pv (.str []))]
abbrev uh:List (Str×V):=xf++ [(s "filestack",.ref 5),(s "source",.pv .none),(s "_punctuation_chars",.pv (.str []))]
abbrev xg(x:List Nat):List AO:= [.inst 912 0,.dict (lG x),.inst 777 2]
section
variable(P:Params)(e:Fm)(Q:AF->St->Prop)(K:V->St->Prop)
theorem aaK(x:List Nat):cZ (xw e P ug 40) [at_ yl 0] ⟨sR (.pv (.str x)),[.dict [],.inst 912 0]⟩ Q=af e [.pv (.str x)] (.ref 777) [.dict [],.inst 912 0] fun v σ=>Q .next ⟨sR v,σ⟩:=by kernel_rfl
theorem aaL(x:List Nat):cZ (xw e P ug 40) ((yl.drop 1).take 12) ⟨sR (.ref 3),.dict []::xg x⟩ Q=Q .next ⟨sR (.ref 3),.dict xe::xg x⟩:=by kernel_rfl
theorem Q1(l:V)(σ:List AO)(F:Prop):cM P ug (s "deque") ⟨sR l,σ⟩ K F=K (.glob (.type "collections.deque")) ⟨sR l,σ⟩:=by kernel_rfl
theorem aaM(l:V)(σ:List AO):ew e P ug 40 (qC Ko) ⟨sR l,σ⟩ K=K (.ref 1) ⟨sR l,σ⟩:=by kernel_rfl
theorem aaN(l:V)(σ:List AO):ew e P ug 40 (qC Kp) ⟨sR l,σ⟩ K=K (.ref 1) ⟨sR l,σ⟩:=by kernel_rfl
theorem aaO(x:List Nat):cZ (xw e P ug 40) ((yl.drop 14).take 3) ⟨sR (.ref 3),.dict (xe++ [(s "pushback",.ref 4)])::(xg x++ [.dK])⟩ Q=Q .next ⟨sR (.ref 3),.dict xf::(xg x++ [.dK])⟩:=by kernel_rfl
theorem aaP(x:List Nat):cZ (xw e P ug 40) (yl.drop 18) ⟨sR (.ref 3),.dict (xf++ [(s "filestack",.ref 5)])::(xg x++ [.dK,.dK])⟩ Q=(([]:List Nat).length<=100000/\Q .next ⟨aaJ (.ref 3),.dict uh::(xg x++ [.dK,.dK])⟩):=by kernel_rfl
theorem Ea:setOk P 912 (s "pushback")=true/\setOk P 912 (s "filestack")=true/\put xe (s "pushback") (.ref 4)=xe++ [(s "pushback",.ref 4)]/\put xf (s "filestack") (.ref 5)=xf++ [(s "filestack",.ref 5)]:=by and_intros<;>kernel_rfl
theorem aaQ:makesIn (KK P) 912=true/\findIn (KK P) (.ref 912) "__init__" =some (some (.ref 836))/\typeIn (KK P) (.ref 836)=some (.type "function"):=by and_intros<;>kernel_rfl
end
variable{e:Fm}
theorem xh(hx:Cx e)(hk:e.k=k+4)(x:List Nat):af e [.ref 1,.pv (.str x)] (.ref 836) [.dict [],.inst 912 0] fun v σ=>v= .pv .none/\σ= .dict uh::(xg x++ [.dK,.dK]):=by refine lZ hx hk (WR _) (names:= [s "self",s "instream",s "infile",s "posix",s "punctuation_chars"]) (ds:= [.pv .none,.pv (.bool false),.pv (.bool false)]) (fun Z Z=>.cons rfl (.cons rfl (.cons rfl .nil))) (fun Z Z Z Z Z Z x' dc X hv=>by refine eP (iW hv) fun u1 u2 ez=> ?_;exact ez ▸ pA (a:=829) (o:=⟨(.type "tuple"),none,(.seq #[.none,.none,(.bool false),(.bool false)] 0),#[]⟩) (of_eq (by kernel_rfl:mh _ _ _ _=(829=829/\(pure [(s "self",u1),(s "instream",u2),(s "infile",.none),(s "posix",.bool false),(s "punctuation_chars",.bool false)]:Sem _)=pure [(s "self",u1),(s "instream",u2),(s "infile",.none),(s "posix",.bool false),(s "punctuation_chars",.bool false)])) ⟨rfl,rfl⟩) (by kernel_rfl) X) (by kernel_rfl) fun e' aL hw cH hs=> ?_;show Wp e' bN (execs yl e'.env) ⟨sR (.pv (.str x)),_⟩ _;refine D9 ▸ (b8 aL hs ?_);refine of_eq (aaK _ e' _ x) (af.base rfl (II aL cH x) fun v σ hv=> ?_);obtain⟨rfl,rfl⟩:=hv;refine b8 aL hs (of_eq (aaL _ e' _ x) ?_);refine aT (cq rfl (dm aL rfl (cu aL False.elim ?_)));rw[hs];refine of_eq (Q1 _ _ (.ref 3) _ _) ⟨_,rfl,rfl,aN (vI (aB aL hs (aaM _ e' _ (.ref 3) _) (fj aL rfl rfl (Ea _).1 (by decide) ?_)))⟩;show Wp e' bN (execs _ e'.env) ⟨sR (.ref 3),.dict (put xe (s "pushback") (.ref 4))::(xg x++ [.dK])⟩ _;rw[(Ea e'.w.params).2.2.1];refine b8 aL hs (of_eq (aaO _ e' _ x) ?_);refine aT (cq rfl (dm aL rfl (cu aL False.elim ?_)));rw[hs];refine of_eq (Q1 _ _ (.ref 3) _ _) ⟨_,rfl,rfl,aN (vI (aB aL hs (aaN _ e' _ (.ref 3) _) (fj aL rfl rfl (Ea _).2.1 (by decide) ?_)))⟩;show Wp e' bN (execs _ e'.env) ⟨sR (.ref 3),.dict (put xf (s "filestack") (.ref 5))::(xg x++ [.dK,.dK])⟩ _;rw[(Ea e'.w.params).2.2.2];refine bJ aL hs (of_eq (aaP _ e' _ x) ⟨by simp,rfl,rfl⟩)
theorem AI(hx:Cx e)(hk:e.k=k+5)(x:List Nat):af e [.pv (.str x)] (.ref 912) [] fun v σ=>v= .ref 1/\σ= .dict uh::(xg x++ [.dK,.dK]):=by refine bL (aaQ e.w.params) fun h1 h2 h3=>pE hx (ba 486608284457240 (bl hk)) h1 h2 h3 (.inl rfl) fun e' aL hw cH=>(xh (k:=k) aL (aac (dZ 0xe39051f39292b19910938 (bh cH) (cA (ba 1861095561496 (bl hk))) (bh hk)) (dZ 0x3e09329b2919151f09938 (bl hk) eH (bl cH))) x).eqs ?_;exact⟨rfl,rfl,rfl⟩
end
def pY(o' o:AO):Prop:=o=o'\/((∃kd,o'= .vals kd [])/\((∃kd,o= .vals kd [])\/o= .refs []))
theorem OR.same {ad:Ad}(h:pY o' o)(r:OR w ad aa o' ob):OR w ad aa o ob:=by
 rcases h with rfl | ⟨⟨kd,rfl⟩,⟨Hf,rfl⟩ | rfl⟩
 ·exact r
 ·refine bG r fun its k e hi hz=> ?_;cases hi;exact⟨[],k,e,.nil,hz⟩
 ·refine cps fun Z zk=>bG r fun its k e hi hz=> ?_;cases hi;refine zk (⟨[],k,e,.nil,hz⟩)
structure AJ(n:Nat)(σ:List AO)(is:List Nat)(τ:List AO):Prop where
 ne:is≠ []
 nd:is.Nodup
 len:is.length=τ.length
 lo:∀i∈is,n<=i/\i<σ.length
 flat:∀o∈τ,o.eX=false
 at_:∀(j:Nat) (o:AO) (i:Nat),τ[j]? =some o->is[j]? =some i->∃o',σ[i]? =some o'/\pY o' (o.bQ (eJ is σ.length))
theorem xi(ρ:Nat->Nat)(o:AO):(o.bQ ρ).eX=o.eX:=by cases o <;> rfl
theorem AK(h:pY o' o)(hb:o.eX=false):o'.eX=false:=by
 rcases h with rfl | ⟨⟨kd,rfl⟩,_⟩
 ·exact hb
 ·rfl
section
variable{e:Fm}{c:St}
theorem cL.Q2 {ad:Ad}(n:cL w h₀ L nv ad m aa ⟨l,σ++g⟩ h)(hb:σ.all (AO.under σ.length)=true)(hl:l.all (fun x=>x.2.under σ.length)=true) (p:AJ σ.length (σ++g) is τ):∃a ow,ad.m[is.headD 0]? =some a/\(∀b∈a::ow,∃i∈is,ad.m[i]? =some b)/\cL w h₀ L nv ⟨(ad.take σ.length).m++ [a],(ad.take σ.length).o++ [ow]⟩ m aa ⟨l,σ++ [.box τ]⟩ h:=by
 have nt:=n.take hb hl;have hlen:ad.m.length=(σ++g).length:=n.len;refine eP (show ∃i0 ir,is=i0::ir from by
  cases q:is with
  | nil=>exact absurd q p.ne
  | cons a b=>exact⟨a,b,rfl⟩) fun i0 ir UW=> ?_
 refine cps fun Z zk=>aA (⟨_,rfl⟩:∃ls:List Addr,ls=is.map fun i=>ad.m.getD i 0) fun ls vo=> ?_;have UX:∀(j i:Nat),is[j]? =some i->ls[j]? =ad.m[i]? /\i<ad.m.length:=fun j i e=>by
  have:i<ad.m.length:=by simp only[hlen];exact(p.lo i (abW e)).2
  refine⟨?_,this⟩;refine vo ▸ ?_;simp only[aa0,e,acY];simp[acU,this]
 have Q3:ls.length=is.length:=by simp only[vo];simp
 have AL:∀(j:Nat) (b:Addr),ls[j]? =some b->∃i,is[j]? =some i/\ad.m[i]? =some b:=fun j b e=>by
  have hj:j<is.length:=by exact Q3 ▸ (aab.mp e).1
  exact⟨is[j],aad hj,by exact(UX j _ (aad hj)).1 ▸ e⟩
 refine eP (show ∃a ow,ls=a::ow from by exact vo ▸ UW ▸ ⟨_,_,rfl⟩) fun a ow wh=>zk ?_;have h0:ad.m[i0]? =some a:=by have:=(UX 0 i0 (by refine UW ▸ ?_;rfl)).1;have this:=wh ▸ this;simpa using this.symm
 have xj:∀b∈a::ow,∃i∈is,ad.m[i]? =some b:=fun b sg=>by simp only[<-wh]at sg;refine cps fun Z zk=>aA (acb.mp sg) fun j hj=> ?_;refine ah (AL j b hj) fun i h1 h2=>zk ?_;exact⟨i,abW h1,h2⟩
 have eC:ls.Nodup:=gR fun i j b h1 h2=>by refine cps fun Z zk=>ah (AL i b h1) fun i' p1 q1=> ?_;refine ah (AL j b h2) fun j' p2 q2=>zk ?_;have:=n.fb.mi _ _ _ q1 q2;refine cps fun Z zk=> ?_;subst this;refine zk (fo p.nd p1 p2)
 simp only[wh]at eC;have yc:∀b,b∈(⟨(ad.take σ.length).m++ [a],(ad.take σ.length).o++ [ow]⟩:Ad).all->b∈(ad.take σ.length).all\/b∈a::ow:=fun b sg=>by
  rcases Ad.dd.mp sg with⟨i,h1⟩ | ⟨i,qD,h1,h2⟩
  ·rcases aW h1 with⟨_,q⟩ | ⟨_,q⟩
   ·exact .inl (Ad.bk q)
   ·exact q ▸ .inr (.head _)
  ·rcases aW h1 with⟨_,q⟩ | ⟨_,q⟩
   ·exact .inl (Ad.dM q h2)
   ·exact q ▸ .inr (.tail _ h2)
 have low:∀(i:Nat) (b:Addr),(ad.take σ.length).m[i]? =some b->b∉a::ow:=fun i b h1 sg=>by
  refine ah (xj b sg) fun j hj h2=> ?_;have h4:i<σ.length:=by
   have e2:(ad.take σ.length).m.length<=σ.length:=by show(ad.m.take _).length<=_;simp only[acO];lia
   exact ab3 ((aab.mp h1).1) e2
  have:=n.fb.mi _ _ _ (mf h1) h2;have:=(p.lo j hj).1;lia
 have IJ:∀(i:Nat) (q:List Addr) (b:Addr),(ad.take σ.length).o[i]? =some q->b∈q->b∉a::ow:=fun i q b h1 hq sg=>by refine ah (xj b sg) fun j hj h2=>n.fb.mo _ _ _ _ h2 (j8 h1) hq
 refine⟨a,ow,by exact UW ▸ h0,xj,nt.F,nt.N,nt.nd,fun x v e1=> ?_,?_,?_,⟨fun i j b h1 h2=> ?_,fun i j b q h1 h2 h3=> ?_,fun i j q q' b h1 h2 h3 h4=> ?_,fun i q h1=> ?_⟩,fun b sg=> ?_,fun i o e1=> ?_⟩
 ·refine ah (nt.loc x v e1) fun v' h1 h2=> ?_;exact⟨v',h1,VR.fA ⟨⟨[a],rfl⟩,fun Z Z z=>z⟩ h2⟩
 ·simp only[aag,aag,nt.len];rfl
 ·simp only[aag,aag,nt.fP];rfl
 ·rcases aW h1 with⟨p1,q1⟩ | ⟨p1,q1⟩ <;> rcases aW h2 with⟨p2,q2⟩ | ⟨p2,q2⟩
  ·exact nt.fb.mi _ _ _ q1 q2
  ·refine cps fun Z zk=> ?_;subst q2;refine zk ?_;clear zk;exact absurd (.head _) (low _ _ q1)
  ·refine cps fun Z zk=> ?_;subst q1;refine zk ?_;clear zk;exact absurd (.head _) (low _ _ q2)
  ·simp only[p1,p2]
 ·rcases aW h1 with⟨p1,q1⟩ | ⟨p1,q1⟩ <;> rcases aW h2 with⟨p2,q2⟩ | ⟨p2,q2⟩
  ·exact nt.fb.mo _ _ _ _ q1 q2 h3
  ·obtain rfl:=q2.symm;exact low _ _ q1 (.tail _ h3)
  ·obtain rfl:=q1.symm;exact IJ _ _ _ q2 h3 (.head _)
  ·obtain rfl:=q1.symm;obtain rfl:=q2.symm;exact(acD.mp eC).1 h3
 ·rcases aW h1 with⟨p1,q1⟩ | ⟨p1,q1⟩ <;> rcases aW h2 with⟨p2,q2⟩ | ⟨p2,q2⟩
  ·exact nt.fb.oi _ _ _ _ _ q1 q2 h3 h4
  ·obtain rfl:=q2.symm;exact absurd (.tail _ h4) (IJ _ _ _ q1 h3)
  ·obtain rfl:=q1.symm;exact absurd (.tail _ h3) (IJ _ _ _ q2 h4)
  ·simp only[p1,p2]
 ·rcases aW h1 with⟨p1,q1⟩ | ⟨p1,q1⟩
  ·exact nt.fb.on _ _ q1
  ·exact q1 ▸ (acD.mp eC).2
 ·rcases yc b sg with h1 | h1
  ·exact nt.gp b h1
  ·refine ah (xj b h1) fun i Z h2=>n.gp b (Ad.bk h2)
 ·rcases aW e1 with⟨p1,q1⟩ | ⟨p1,q1⟩
  ·refine cY (nt.rep i o q1) fun b qD ob g1 g2 g3 g4=> ?_;refine⟨b,qD,ob,?_,?_,g3,RP.mono ⟨⟨[a],rfl⟩,fun Z Z z=>z⟩ (fun Z Z Z z=>z) g4⟩
   ·exact(aaY (by rw[nt.len];exact p1)) ▸ g1
   ·exact(aaY (by rw[nt.fP];exact p1)) ▸ g2
  ·have zs:=q1.symm;refine cps fun Z zk=> ?_;subst zs;have Gx:∀(j:Nat) (o:AO),τ[j]? =some o->∃b ob,(a::ow)[j]? =some b/\(b,ob)∈aa/\OR w ⟨a::ow,[]⟩ aa o ob:=fun j o ej=>by
    have hj:j<is.length:=by exact p.len ▸ (aab.mp ej).1
    have ei:=aad hj;refine cps fun Z zk=>ah (p.at_ j o _ ej ei) fun o' g1 g2=> ?_;refine cY (n.rep _ _ g1) fun b qD ob g3 g4 g5 g6=>zk ?_;have g7:=OR.same g2 (g6.flat (AK g2 (by rw[xi];exact p.flat o (abW ej)))).2;refine⟨b,ob,by exact wh ▸ (UX j _ ei).1 ▸ g3,g5,OR.er (fun k b' hk=> ?_) g7⟩;refine wh ▸ ?_;by_cases iV:k<is.length
    ·simp only[gf (aad iV)]at hk;exact(UX k _ (aad iV)).1 ▸ hk
    ·simp only[iN ((ic iV))]at hk;have:=(aab.mp hk).1;lia
   refine bG (Gx 0 _ (aad (by refine p.len ▸ UW ▸ ?_;simp))) fun b0 Lz r1 r2 Z=> ?_;refine zk ?_;simp at r1;refine cps fun Z zk=> ?_;subst r1;refine zk ?_;clear zk;refine⟨a,ow,Lz,?_,?_,r2,?_⟩
   ·rw[p1,abF ((bh nt.len)),nt.len];simp
   ·rw[p1,abF ((bh nt.fP)),nt.fP];simp
   ·exact⟨by simp only[<-wh,Q3,p.len],Gx⟩
theorem Wp.FO (hb:c.aj.all (AO.under c.aj.length)=true)(hl:c.loc.all (fun x=>x.2.under c.aj.length)=true) (h:Wp e VR t c fun v c'=>∃g is τ,c'.aj=c.aj++g/\c'.loc=c.loc/\v= .ref (is.headD 0)/\AJ c.aj.length (c.aj++g) is τ/\Q (.ref c.aj.length) ⟨c.loc,c.aj++ [.box τ]⟩):Wp e VR t c Q:=
 fun x ad m aa n R E p=>h x ad m aa n R E fun v v' c' h' tk aF m' ag q n' y rv=>by
  obtain⟨g,is,τ,h1,h2,rfl,pk,q⟩:=q;obtain⟨l',σ'⟩:=c';dsimp only at h1 h2;subst h1;subst h2;refine bG (cL.Q2 n' hb hl pk) fun a ow g1 g2 n2=> ?_;have IK:ad.m.length=c.aj.length:=n.len;refine ah y.grow fun t et ft=> ?_;have em:(aF.take c.aj.length).m=ad.m:=by show aF.m.take c.aj.length=ad.m;simp only[et,<-IK];simp
  have hn2:∀b∈a::ow,b∈t:=fun b sg=>by refine ah (g2 b sg) fun i hi h3=> ?_;have:=(pk.lo i hi).1;rw[et,abF (ab3 (bh IK) this)]at h3;exact abW h3
  refine ah rv fun a' h3 Q4=> ?_;obtain rfl:=Q4.symm;have:a'=a:=by rw[g1]at h3;exact(aah.inj h3).symm
  subst this;refine p _ _ _ h' tk _ m' ag q n2 ⟨⟨[a'],by rw[em],fun b ob hm sg=> ?_⟩,y.tup,y.key,fun b ob hm sg=> ?_⟩ ⟨a',?_,rfl⟩
  ·rw[abH]at sg;refine cps fun Z zk=> ?_;subst sg;refine zk ?_;clear zk;exact ft b ob hm (hn2 b (.head _))
  ·refine aI (y.qE b ob hm sg) fun q1 q2=>⟨q1,fun z=> ?_⟩;rcases Ad.dd.mp z with⟨i,z1⟩ | ⟨i,qD,z1,z2⟩
   ·rcases aW z1 with⟨_,z3⟩ | ⟨_,z3⟩
    ·exact q2 (Ad.bk (mf z3))
    ·subst z3;exact ft b ob hm (hn2 b (.head _))
   ·rcases aW z1 with⟨_,z3⟩ | ⟨_,z3⟩
    ·exact q2 (Ad.dM (j8 z3) z2)
    ·obtain rfl:=z3.symm;exact ft b ob hm (hn2 b (.tail _ z2))
  ·show((aF.take c.aj.length).m++ [a'])[c.aj.length]? =_;rw[em,<-IK];simp
end
section
abbrev xk(i j:Nat):List (Str×V):= [(s "lineno",.pv (.int 1)),(s "instream",.ref i),(s "whitespace",.pv (.str [10,9,13,32])),(s "pushback",.ref j)]
section
variable(P:Params)(e:Fm)(Q:AF->St->Prop)(K:V->St->Prop)
theorem aaS(x:List Nat):sL e P (cst 3 0) ⟨[(s "self",.ref 3),(s "fp",.ref 1)],[.dict (lG x),.inst 777 0,.dict [],.inst 77 2]⟩ Q=(([]:List V).length<=100000/\Q .next ⟨[(s "self",.ref 3),(s "fp",.ref 1)],[.dict (lG x),.inst 777 0,.dict (xk 1 4),.inst 77 2,.vals .int []]⟩):=by kernel_rfl
theorem aaT:makesIn (KK P) 77=true/\findIn (KK P) (.ref 77) "__init__" =some (some (.ref 53))/\typeIn (KK P) (.ref 53)=some (.type "function"):=by and_intros<;>kernel_rfl
end
variable{e:Fm}
theorem Eb(hx:Cx e)(hk:e.k=k+2)(x:List Nat):af e [.ref 1] (.ref 77) [.dict (lG x),.inst 777 0] fun v σ=>v= .ref 3/\σ= [.dict (lG x),.inst 777 0,.dict (xk 1 4),.inst 77 2,.vals .int []]:=by refine bL (aaT e.w.params) fun h1 h2 h3=>pE hx (ba 1900820863256 (bl hk)) h1 h2 h3 (.inl rfl) fun e' aL hw cH=> ?_;refine df (k:=k) aL (aac (dZ 0xb390c39292b19910938 (bh cH) (cA (ba 7277156632 (bl hk))) (bh hk)) (dZ 0x3b09329b29191c09938 (bl hk) eH (bl cH))) (f53 _) (names:= [s "self",s "fp"]) (fun Z Z Z Z Z Z vs hv=>by refine eP (iW hv) fun Z Z Q5=> ?_;subst Q5;kernel_rfl) (by kernel_rfl) fun e2 i9 rL iV kG=>bJ i9 kG ?_;exact of_eq (aaS _ e2 _ x) ⟨by simp,rfl,rfl,rfl⟩
abbrev Q6:List Stmt:=ar (cst 9 0)
abbrev Q7:Scope:=au (cst 9 0)
abbrev Q8:Stmt:=at_ Q6 0
theorem Ec:Q6= .Assign [.Attribute (qC Q8) (s "_node2info") (aw (i6 0 Q8))] (.Dict [] [] (yD (ak Q8))) (bZ Q8)::Q6.drop 1:=by kernel_rfl
section
variable(P:Params)(e:Fm)(Q:AF->St->Prop)(K:V->St->Prop)
theorem aaU(σ:List AO):ew e P Q7 40 (qC Q8) ⟨[(s "self",.ref 1),(s "graph",.pv .none)],σ⟩ K=K (.ref 1) ⟨[(s "self",.ref 1),(s "graph",.pv .none)],σ⟩:=by kernel_rfl
theorem aaV:cZ (xw e P Q7 40) (Q6.drop 1) ⟨[(s "self",.ref 1),(s "graph",.pv .none)],[.dict [(s "_node2info",.ref 2)],.inst 197 0,.bo 0 []]⟩ Q=Q .next ⟨[(s "self",.ref 1),(s "graph",.pv .none)],[.dict (BS (.pv .none) 0 0),.inst 197 0,.bo 0 []]⟩:=by kernel_rfl
theorem Q9:makesIn (KK P) 197=true/\findIn (KK P) (.ref 197) "__init__" =some (some (.ref 133))/\typeIn (KK P) (.ref 133)=some (.type "function")/\setOk P 197 (s "_node2info")=true:=by and_intros<;>kernel_rfl
end
theorem Ed(hx:Cx e)(hk:e.k=k+2):af e [] (.ref 197) [] fun v σ=>v= .ref 1/\σ= [.dict (BS (.pv .none) 0 0),.inst 197 0,.bo 0 []]:=by refine vU (Q9 e.w.params) fun h1 h2 h3 h4=>pE hx (by lia) h1 h2 h3 (.inl rfl) fun e' aL hw cH=> ?_;refine lZ (k:=k) aL (by lia) (WD _) (names:= [s "self",s "graph"]) (ds:= [.pv .none]) (fun Z Z=>.cons rfl .nil) (fun Z Z Z Z Z Z x' dc X hv=>by refine aA (je hv) fun u1 ez=> ?_;subst ez;exact pA (a:=126) (o:=⟨(.type "tuple"),none,(.seq #[.none] 0),#[]⟩) (of_eq (by kernel_rfl:mh _ _ _ _=(126=126/\(pure [(s "self",u1),(s "graph",.none)]:Sem _)=pure [(s "self",u1),(s "graph",.none)])) ⟨rfl,rfl⟩) (by kernel_rfl) X) (by kernel_rfl) fun e2 i9 rL iV kG=> ?_;show Wp e2 bN (execs Q6 e2.env) ⟨[(s "self",.ref 1),(s "graph",.pv .none)],[.dict [],.inst 197 0]⟩ _;refine Ec ▸ ?_;refine aT (cq rfl (vx (aB i9 kG (aaU _ e2 _ _) (fj i9 rfl rfl (Q9 _).2.2.2 (by simp) (bJ i9 kG ?_)))));exact of_eq (aaV _ e2 _) ⟨rfl,rfl,rfl⟩
abbrev Ra(n:Nat):List (Str×V):=uh.map fun x=>(x.1,x.2.bQ fun j=>n+j)
theorem Rb(P:Params)(n:Nat):uN P 912 (s "instream")=true/\look (Ra n) (s "instream")=some (.ref (n+3))/\eY P (.ref 912)=true/\eY P (.ref 77)=true/\eY P (.ref 197)=true:=by and_intros<;>kernel_rfl
variable{c:St}
theorem vK(hx:Cx e)(hk:e.k=k+5)(hA:isStar A=false)(h1:∀c K,cM e.w.params e.scope (s "_netrclex") c K False=K (.glob (.ref 77)) c)(h2:∀c K,cM e.w.params e.scope (s "shlex") c K False=K (.glob (.ref 912)) c) (ha:∀Q:V->St->Prop,Q (.pv (.str x)) c->Wp e VR (eval A e.env) c Q)(hb:c.aj.all (AO.under c.aj.length)=true)(hl:c.loc.all (fun x=>x.2.under c.aj.length)=true)(hQ:Q (.ref c.aj.length) ⟨c.loc,c.aj++ [.box (b4 1 x 0 [] [])]⟩):Wp e VR (eval (.Call (.Name (s "_netrclex") pa) [.Attribute (.Call (.Name (s "shlex") pb) [A] [] pc) (s "instream") pd] [] pe) e.env) c Q:=by
 refine vV (Rb e.w.params c.aj.length) fun f1 f2 f3 f4 Z=>Wp.FO hb hl ?_;refine dm hx rfl (cu hx False.elim (of_eq (h1 _ _) ⟨_,rfl,f4,aS (aE rfl _ _) (b6 rfl ?_)⟩));refine dm hx (by simp[bK,hA]) (cu hx False.elim (of_eq (h2 _ _) ⟨_,rfl,f3,?_⟩));refine aS (aE hA _ _) (ha _ (aN (af.op (af.base rfl (AI hx hk x) fun v σ hv=>aI hv fun Rc Rd=> ?_))));subst Rc;subst Rd;refine aA (⟨_,rfl⟩:∃n,c.aj.length=n) fun n hn=> ?_;rw[hn]at f2 hQ ⊢;refine aA (⟨_,rfl⟩:∃σ2,c.aj++aew (AO.bQ fun j=>n+j) (.dict uh::(xg x++ [.dK,.dK]))=σ2) fun σ2 hσ=>hσ ▸ ?_;have hlen:σ2.length=n+6:=by simp only[<-hσ,aag,hn];rfl
 have si:∀j,σ2[n+j]? =(aew (AO.bQ fun j=>n+j) (.dict uh::(xg x++ [.dK,.dK])))[j]? :=fun j=>by simp only[<-hσ,abF (adl (bh hn)),hn];congr 1;exact aac (bj 2208033708312 (cA (ab2 _ _))) (bj 2268431685912 eH)
 refine nW hx (es:=Ra n) (si 1) (si 0) f1 f2 rfl (aN (af.op ?_));have g2:σ2[n+2]? =some (.dict (lG x)):=si 2;have g3:σ2[n+3]? =some (.inst 777 (n+2)):=si 3;refine af.lift (is:= [n+2,n+3]) (by simp) rfl (fun j o i j1 j2=> ?_) (Eb (k:=k+3) hx (aac (ba 0xcd199051f190918 (bh hk)) (ba 0x1cd099151f09918 (bl hk))) x) fun v σ hv=> ?_
 ·match j,j1,j2 with
  | 0,j1,j2=>simp at j1 j2;subst j1;exact j2 ▸ g2
  | 1,j1,j2=>simp at j1 j2;subst j1;subst j2;exact g3
 refine aI hv fun Rf Rg=> ?_;subst Rf;subst Rg;have IF:n+3<σ2.length:=ba 0x1bd099161f09918 (bl hlen);have aaW:ny [n+2,n+3] σ2 [.dict (lG x),.inst 777 0,.dict (xk 1 4),.inst 77 2,.vals .int []]=σ2++ [.dict (xk (n+3) (n+8)),.inst 77 (n+6),.vals .int []]:=by
  unfold ny;have e1:dq σ2 [n+2,n+3] ([AO.dict (lG x),.inst 777 0,.dict (xk 1 4),.inst 77 2,.vals .int []].map (AO.bQ (eJ [n+2,n+3] σ2.length)))=σ2:=by
   show((σ2.set (n+2) (.dict (lG x))).set (n+3) (.inst 777 (n+2)))=σ2;have a1:σ2.set (n+2) (.dict (lG x))=σ2:=by refine aA (aab.mp g2) fun Z e=> ?_;refine e ▸ ?_;simp
   have a2:σ2.set (n+3) (.inst 777 (n+2))=σ2:=by refine aA (aab.mp g3) fun Z e=> ?_;refine e ▸ ?_;simp
   simp only[a1,a2]
  rw[e1];have e2:eJ [n+2,n+3] σ2.length 4=n+8:=by show σ2.length+(4-2)=_;exact aac (bj 0x81f19209ec29961f190928 (bh hlen) (cA (lx [] [] 60424))) (bj 0x21981f09c29e9161f09928 (bl hlen) eH)
  have e3:eJ [n+2,n+3] σ2.length 2=n+6:=by show σ2.length+(2-2)=_;exact aac (bj 0x61f19209cc29961f190928 (bh hlen) (cA (abE _))) (adl (bl hlen))
  show σ2++ [.dict [(s "lineno",.pv (.int 1)),(s "instream",.ref (n+3)),(s "whitespace",.pv (.str [10,9,13,32])),(s "pushback",.ref (eJ [n+2,n+3] σ2.length 4))],.inst 77 (eJ [n+2,n+3] σ2.length 2),.vals .int []]=_;exact e2 ▸ e3 ▸ rfl
 have ev:(V.ref 3).bQ (eJ [n+2,n+3] σ2.length)= .ref (n+7):=by show V.ref (σ2.length+(3-2))=_;exact hlen ▸ rfl
 refine aaW ▸ ev ▸ (⟨aew (AO.bQ fun j=>n+j) (.dict uh::(xg x++ [.dK,.dK]))++ [.dict (xk (n+3) (n+8)),.inst 77 (n+6),.vals .int []],[n+7,n+6,n+3,n+2,n+8],b4 1 x 0 [] [],by rw[<-acx,hσ],rfl,rfl,?_,hQ⟩);rw[<-acx,hσ];have ll:(σ2++ [AO.dict (xk (n+3) (n+8)),.inst 77 (n+6),.vals .int []]).length=n+9:=by simp only[aag,hlen];rfl
 have k6:(σ2++ [AO.dict (xk (n+3) (n+8)),.inst 77 (n+6),.vals .int []])[n+6]? =some (.dict (xk (n+3) (n+8))):=by refine hlen ▸ ?_;simp
 have k7:(σ2++ [AO.dict (xk (n+3) (n+8)),.inst 77 (n+6),.vals .int []])[n+7]? =some (.inst 77 (n+6)):=by rw[abF (by lia),hlen];simp
 have k8:(σ2++ [AO.dict (xk (n+3) (n+8)),.inst 77 (n+6),.vals .int []])[n+8]? =some (.vals .int []):=by rw[abF (by lia),hlen];simp
 have k2:(σ2++ [AO.dict (xk (n+3) (n+8)),.inst 77 (n+6),.vals .int []])[n+2]? =some (.dict (lG x)):=by rw[aaY (by lia)];exact g2
 have k3:(σ2++ [AO.dict (xk (n+3) (n+8)),.inst 77 (n+6),.vals .int []])[n+3]? =some (.inst 777 (n+2)):=by exact(aaY IF) ▸ g3
 refine⟨by simp,by simp,rfl,fun i hi=> ?_,fun o ho=> ?_,fun j o i j1 j2=> ?_⟩
 ·refine ll ▸ ?_;simp only[abi,acS,or_false]at hi;lia
 ·simp only[abi,acS,or_false]at ho;rcases ho with rfl | rfl | rfl | rfl | rfl <;> rfl
 ·match j,j1,j2 with
  | 0,j1,j2=>simp at j1 j2;subst j1;subst j2;exact⟨_,k7,.inl rfl⟩
  | 1,j1,j2=>simp at j1 j2;subst j1;subst j2;exact⟨_,k6,.inl rfl⟩
  | 2,j1,j2=>simp at j1 j2;subst j1;subst j2;exact⟨_,k3,.inl rfl⟩
  | 3,j1,j2=>simp at j1 j2;subst j1;subst j2;exact⟨_,k2,.inl rfl⟩
  | 4,j1,j2=>simp at j1 j2;subst j1;subst j2;exact⟨_,k8,.inr ⟨⟨_,rfl⟩,.inl ⟨_,rfl⟩⟩⟩
theorem AM(hx:Cx e)(hk:e.k=k+2)(h1:∀c K,cM e.w.params e.scope (s "TopologicalSorter") c K False=K (.glob (.ref 197)) c)(hb:c.aj.all (AO.under c.aj.length)=true)(hl:c.loc.all (fun x=>x.2.under c.aj.length)=true) (hQ:Q (.ref c.aj.length) ⟨c.loc,c.aj++ [.box (bR (.pv .none) 0 0 0 [] [])]⟩):Wp e VR (eval (.Call (.Name (s "TopologicalSorter") pa) [] [] pe) e.env) c Q:=by
 refine Wp.FO hb hl ?_;refine dm hx rfl (cu hx False.elim (of_eq (h1 _ _) ⟨_,rfl,(Rb e.w.params c.aj.length).2.2.2.2,aN (af.op (af.base rfl (Ed hx hk) fun v σ hv=> ?_))⟩));refine cps fun Z zk=>aI hv fun Rh Ri=> ?_;subst Rh;subst Ri;refine aA (⟨_,rfl⟩:∃n,c.aj.length=n) fun n hn=>zk ?_;rw[hn]at hQ ⊢;have si:∀j,(c.aj++aew (AO.bQ fun j=>n+j) [.dict (BS (.pv .none) 0 0),.inst 197 0,.bo 0 []])[n+j]? =(aew (AO.bQ fun j=>n+j) [.dict (BS (.pv .none) 0 0),.inst 197 0,.bo 0 []])[j]? :=fun j=>by rw[abF (adl (bh hn)),hn];congr 1;exact aac (bj 2208033708312 (cA (ab2 _ _))) (bj 2268431685912 eH)
 have ll:(c.aj++aew (AO.bQ fun j=>n+j) [.dict (BS (.pv .none) 0 0),.inst 197 0,.bo 0 []]).length=n+3:=by simp only[aag,hn];rfl
 refine⟨_,[n+1,n,n+2],bR (.pv .none) 0 0 0 [] [],rfl,rfl,rfl,⟨by simp,by simp,rfl,fun i hi=> ?_,fun o ho=> ?_,fun j o i j1 j2=> ?_⟩,hQ⟩
 ·refine ll ▸ ?_;simp only[abi,acS,or_false]at hi;lia
 ·simp only[abi,acS,or_false]at ho;rcases ho with rfl | rfl | rfl <;> rfl
 ·match j,j1,j2 with
  | 0,j1,j2=>simp at j1 j2;subst j1;subst j2;exact⟨_,si 1,.inl rfl⟩
  | 1,j1,j2=>simp at j1 j2;subst j1;subst j2;exact⟨_,si 0,.inl rfl⟩
  | 2,j1,j2=>simp at j1 j2;subst j1;subst j2;exact⟨_,si 2,.inl rfl⟩
end
def eA(e:Fm)(t:Sem Flow)(c:St)(Q:AF->St->Prop):Prop:=
 ∀(x:Shared) (ad:Ad) (m:Str->Option Value) (aa:Led),aU e ad m aa c x.heap->∀(R:Flow->Shared->Prop) (E:Value->Shared->Prop),
  (∀a b c' h' tk aF m' ag,Q a c'->aU e aF m' ag c' h'->bN aF ag a b->R b {x with heap:=h',toks:=tk})->wpAny (model pw e.w) e.A t R E x
section
variable{e:Fm}{c:St}
theorem eA.of (h:Wp e bN t c Q):eA e t c Q:=fun x ad m aa n R E p=>h x ad m aa n R E fun a b c' h' tk aF m' ag q n' Z r=>p a b c' h' tk aF m' ag q n' r
abbrev IL(e:Fm)(r:List Stmt)(Q:AF->St->Prop):AF->St->Prop:=fun f c=>match f with | .next=>eA e (execs r e.env) c Q | f=>Q f c
theorem dD(h:Wp e bN (exec y e.env) c (IL e rest Q)):eA e (execs (y::rest) e.env) c Q:=
 fun x ad m aa n R E p=>wpAny_execs_cons (h x ad m aa n _ E fun f f' c1 h1 dF bx m1 av q1 n1 x1 r1=>by
  cases f with
  | next=>subst r1;exact q1 _ bx m1 av n1 R E p
  | brk=>subst r1;exact p .brk .brk _ _ _ _ _ _ q1 n1 rfl
  | cont=>subst r1;exact p .cont .cont _ _ _ _ _ _ q1 n1 rfl
  | ret v=>refine ah r1 fun v' Rj r=> ?_;exact Rj ▸ p (.ret v) (.ret v') _ _ _ _ _ _ q1 n1 ⟨v',rfl,r⟩)
theorem IM(hx:Cx e){l1:List Stmt}:∀ {c:St},cZ (xw e e.w.params e.scope 40) l1 c (IL e l2 Q)->eA e (execs (l1++l2) e.env) c Q:=by
 induction l1 with
 | nil=>exact fun h=>h
 | cons y r ih=>exact fun{c} h=>dD ((uX hx 40 y c _ h).mono fun fl c1 h1=>by
   cases fl with
   | next=>exact ih h1
   | brk=>exact h1
   | cont=>exact h1
   | ret v=>exact h1)
theorem eG(hx:Cx e)(hs:e.scope=sc)(h:cZ (xw e e.w.params sc 40) l1 c (IL e l2 Q)):eA e (execs (l1++l2) e.env) c Q:=by subst hs;exact IM hx h
theorem eA.mono (h:eA e t c Q)(k:∀a c',Q a c'->Q' a c'):eA e t c Q':=
 fun x ad m aa n R E p=>h x ad m aa n R E fun a b c' h' tk aF m' ag q n' r=>p a b c' h' tk aF m' ag (k _ _ q) n' r
theorem eA.conv (k:∀ad m aa h,aU e ad m aa c h->aU e ad m aa c' h)(h:eA e t c' Q):eA e t c Q:=
 fun x ad m aa n R E p=>h x ad m aa (k _ _ _ _ n) R E p
theorem RP.same {ad:Ad}(h:pY o' o)(r:RP w ad aa a ow ob o'):RP w ad aa a ow ob o:=by
 rcases h with rfl | ⟨⟨kd,rfl⟩,h2⟩
 ·exact r
 ·have:=OR.same (.inr ⟨⟨kd,rfl⟩,h2⟩) r.2;rcases h2 with⟨Hf,rfl⟩ | rfl <;> exact⟨r.1,this⟩
theorem cL.sub {ad:Ad}(n:cL w h₀ L nv ad m aa ⟨l,σ⟩ h)(nd:is.Nodup)(hlen:τ.length=is.length) (kU:∀(j:Nat) (o:AO) (i:Nat),τ[j]? =some o->is[j]? =some i->∃o',σ[i]? =some o'/\pY o' (o.bQ (eJ is σ.length))) (kT:∀x v,look l' x=some v->look l x=some (v.bQ (eJ is σ.length))):∃aF,cL w h₀ L nv aF m aa ⟨l',τ⟩ h/\(∀j i:Nat,is[j]? =some i->aF.m[j]? =ad.m[i]?)/\(∀b,b∈aF.all->b∈ad.all):=by
 have yc:ad.m.length=σ.length:=n.len;have qS:∀(j i:Nat),is[j]? =some i->i<σ.length:=fun j i e=>by
  have hj:j<τ.length:=by exact hlen ▸ (aab.mp e).1
  refine ah (kU j _ i (aad hj) e) fun o' h1 Z=> ?_;exact(aab.mp h1).1
 refine aA (⟨_,rfl⟩:∃aF:Ad,aF=⟨is.map fun i=>ad.m.getD i 0,is.map fun i=>ad.o.getD i []⟩) fun aF uU=> ?_;have E5:aF.m.length=is.length:=by refine uU ▸ ?_;simp
 have GN:aF.o.length=is.length:=by rw[uU];simp
 have o4:∀(j i:Nat),is[j]? =some i->aF.m[j]? =ad.m[i]? :=fun j i e=>by
  have:i<ad.m.length:=by exact yc ▸ qS j i e
  refine uU ▸ ?_;simp only[aa0,e,acY];simp[acU,this]
 have y3:∀(j i:Nat),is[j]? =some i->aF.o[j]? =ad.o[i]? :=fun j i e=>by
  have:i<ad.o.length:=by rw[n.fP];exact qS j i e
  rw[uU];simp only[aa0,e,acY];simp[acU,this]
 have iz:∀(j:Nat) (a:Addr),aF.m[j]? =some a->∃i,is[j]? =some i/\ad.m[i]? =some a:=fun j a e=>by
  have hj:j<is.length:=by exact E5 ▸ (aab.mp e).1
  exact⟨is[j],aad hj,by exact(o4 j _ (aad hj)) ▸ e⟩
 have gB:∀(j:Nat) (a:List Addr),aF.o[j]? =some a->∃i,is[j]? =some i/\ad.o[i]? =some a:=fun j a e=>by
  have hj:j<is.length:=by exact GN ▸ (aab.mp e).1
  exact⟨is[j],aad hj,by exact(y3 j _ (aad hj)) ▸ e⟩
 have hinv:∀j a,ad.m[eJ is σ.length j]? =some a->aF.m[j]? =some a:=fun j a e1=>by
  by_cases hj:j<is.length
  ·rw[gf (aad hj)]at e1;exact(o4 j _ (aad hj)) ▸ e1
  ·rw[iN ((ic hj))]at e1;have:=(aab.mp e1).1;lia
 have o6:∀b,b∈aF.all->b∈ad.all:=fun b hb=>by
  rcases Ad.dd.mp hb with⟨i,h1⟩ | ⟨i,ow,h1,h2⟩
  ·refine ah (iz _ _ h1) fun i' p1 q1=> ?_;exact Ad.bk q1
  ·refine ah (gB _ _ h1) fun i' p1 q1=> ?_;exact Ad.dM q1 h2
 have ok:=n.fb;refine⟨aF,⟨n.F,n.N,n.nd,fun x v e1=> ?_,by rw[E5,hlen],by rw[GN,hlen],⟨fun i j a h1 h2=> ?_,fun i j a ow h1 h2=> ?_,fun i j ow qD a h1 h2 h3 h4=> ?_,fun i ow h1=> ?_⟩,fun b hb=>n.gp b (o6 b hb),fun j o e1=> ?_⟩,o4,o6⟩
 ·refine ah (n.loc x _ (kT x v e1)) fun v' h1 h2=>⟨v',h1,VR.er hinv h2⟩
 ·refine ah (iz _ _ h1) fun i' p1 q1=>ah (iz _ _ h2) fun j' p2 q2=> ?_;have:=ok.mi _ _ _ q1 q2;subst this;exact fo nd p1 p2
 ·refine ah (iz _ _ h1) fun i' p1 q1=>ah (gB _ _ h2) fun j' p2 q2=> ?_;exact ok.mo _ _ _ _ q1 q2
 ·refine ah (gB _ _ h1) fun i' p1 q1=>ah (gB _ _ h2) fun j' p2 q2=> ?_;have:=ok.oi _ _ _ _ _ q1 q2 h3 h4;subst this;exact fo nd p1 p2
 ·refine ah (gB _ _ h1) fun i' p1 q1=>ok.on _ _ q1
 ·have hj:j<is.length:=by exact hlen ▸ (aab.mp e1).1
  refine ah (kU j o _ e1 (aad hj)) fun o' g1 g2=> ?_;refine cY (n.rep _ _ g1) fun a ow ob h1 h2 h3 h4=>⟨a,ow,ob,by simp only[o4 j _ (aad hj)];exact h1,by simp only[y3 j _ (aad hj)];exact h2,h3,RP.er hinv (RP.same g2 h4)⟩
theorem eA.sub (is:List Nat)(nd:is.Nodup)(hlen:τ.length=is.length) (kU:∀(j:Nat) (o:AO) (i:Nat),τ[j]? =some o->is[j]? =some i->∃o',σ[i]? =some o'/\pY o' (o.bQ (eJ is σ.length))) (kT:∀x v,look l' x=some v->look l x=some (v.bQ (eJ is σ.length)))(h:eA e t ⟨l',τ⟩ Q):eA e t ⟨l,σ⟩ Q:=
 fun x ad m aa n R E p=>let ⟨aF,n',_,_⟩:=cL.sub n nd hlen kU kT;h x aF m aa n' R E p
theorem Wp.Rk {α β:Type}{aJ:Ad->Led->α->β->Prop}{t:Sem β}{Q:α->St->Prop}(hy:e.nv y≠none)(hv:look c.loc y=some (.ref i))(hl:∀x v,look l x=some v->look c.loc x=some v) (h:Wp e aJ t ⟨l,c.aj⟩ fun a c'=>Q a ⟨c'.loc++ [(y,.ref i)],c'.aj⟩):Wp e aJ t c Q:=by
 intro x ad m aa n R E p;refine h x ad m aa (n.le ⟨rfl,hl⟩) R E fun a b c' h' tk aF m' ag q n' y' r=>p a b _ h' tk aF m' ag q ?_ y' r;refine⟨n'.F,n'.N,n'.nd,fun z v ez=> ?_,n'.len,n'.fP,n'.fb,n'.gp,n'.rep⟩;have AN:∀(l:List (Str×V)),look (l++ [(y,V.ref i)]) z=some v->look l z=some v\/(z=y/\v= .ref i):=fun l=>by
  induction l with
  | nil=>
   intro h1;simp only[aey,eQ]at h1;cases q:Fast.sEq y z with
   | true=>rw[q]at h1;exact(aah.inj h1).symm ▸ .inr ⟨(Fast.sEq_iff.mp q).symm,rfl⟩
   | false=>have h1:=q ▸ h1;exact aZ h1
  | cons a l ih=>
   intro h1;simp only[aev,eQ]at h1 ⊢;cases q:Fast.sEq a.1 z with
   | true=>rw[q]at h1;exact .inl h1
   | false=>rw[q]at h1;exact ih h1
 rcases AN _ ez with h1 | ⟨rfl,rfl⟩
 ·exact n'.loc z v h1
 ·refine ah (n.loc z _ hv) fun v' e' r'=>⟨v',?_,VR.mono y' r'⟩;unfold Nm at e' ⊢;cases q:e.nv z with
  | none=>exact absurd q hy
  | some a=>rw[q]at e';exact e'
end
structure nM(n0:Nat)(σ:List AO)(f:Nat->Nat)(w:Wd):Prop where
 inj:∀i j,i<44->j<44->f i=f j->i=j
 lo:∀j,j<44->n0<=f j
 at_:∀(j:Nat) (o:AO),w.aj[j]? =some o->σ[f j]? =some (o.bQ f)
noncomputable abbrev km(f:Nat->Nat):List Nat:=(acj 44).map f
theorem dO(f:Nat->Nat):(km f).length=44:=rfl
theorem mH(f:Nat->Nat)(h:j<44):(km f)[j]? =some (f j):=by simp[km,h]
theorem jo(h:(km f)[j]? =some i):j<44/\i=f j:=by
 have hj:j<44:=by have:=(aab.mp h).1;rwa [dO]at this
 replace h:=(mH f hj) ▸ h;exact(aah.inj h) ▸ ⟨hj,rfl⟩
theorem fE(w:Wd):w.aj.length=44:=rfl
noncomputable def V.ok (p:Nat->Bool):V->Bool
 | .ref i=>p i
 | _=>true
noncomputable def AO.ok (p:Nat->Bool):AO->Bool
 | .refs is=>is.all p
 | .dict es=>es.all fun x=>x.2.ok p
 | .inst _ d=>p d
 | .bo _ es=>es.all fun x=>x.2.ok p
 | .slot _ d vs=>p d&&vs.all fun x=>match x with | some v=>v.ok p | none=>true
 | .bound _ i=>p i
 | .da i _=>match i with | some i=>p i | none=>true
 | .cK l _=>p l
 | .wrap _ i=>p i
 | .cell v=>match v with | some v=>v.ok p | none=>true
 | .ns l=>l.all fun x=>x.2.ok p
 | _=>true
theorem V.cX {v:V}(h:v.ok p=true)(k:∀j,p j=true->ρ j=ρ' j):v.bQ ρ=v.bQ ρ':=by
 cases v with
 | ref i=>exact congrArg V.ref (k i h)
 | _=>rfl
theorem AO.cX {o:AO}(h:o.ok p=true)(k:∀j,p j=true->ρ j=ρ' j):o.bQ ρ=o.bQ ρ':=by
 cases o with
 | refs xs=>exact congrArg AO.refs (acH fun i hi=>k i (aaZ.mp h i hi))
 | dict es=>have h:(es.all fun x=>x.2.ok p)=true:=h;exact congrArg AO.dict (acH fun x hx=>by rw[V.cX (aaZ.mp h x hx) k])
 | inst C d=>exact congrArg (AO.inst C) (k d h)
 | bo ep es=>exact congrArg (AO.bo ep) (acH fun x hx=>by rw[V.cX (aaZ.mp h x hx) k])
 | slot C d vs=>
  have h:(p d&&vs.all fun x=>match x with | some v=>v.ok p | none=>true)=true:=h;rw[abD]at h;show AO.slot _ _ _=AO.slot _ _ _;refine(k d h.1) ▸ ?_;congr 1;exact acH fun x hx=>by
   have:=aaZ.mp h.2 x hx;cases x with
   | none=>rfl
   | some v=>exact congrArg some (V.cX this k)
 | bound f i=>exact congrArg (AO.bound f) (k i h)
 | da i y=>
  cases i with
  | none=>rfl
  | some i=>exact congrArg (fun q=>AO.da (some q) y) (k i h)
 | cK l q=>exact congrArg (fun z=>AO.cK z q) (k l h)
 | wrap f i=>exact congrArg (AO.wrap f) (k i h)
 | cell v=>
  cases v with
  | none=>rfl
  | some v=>exact congrArg (fun q=>AO.cell (some q)) (V.cX h k)
 | ns l=>have h:(l.all fun x=>x.2.ok p)=true:=h;exact congrArg AO.ns (acH fun x hx=>by rw[V.cX (aaZ.mp h x hx) k])
 | _=>rfl
noncomputable abbrev jP(j:Nat):Bool:=Nat.blt j 44
noncomputable abbrev Rl(j:Nat):Bool:=Nat.blt j 34||(Nat.blt 36 j&&Nat.blt j 44)
theorem vL(w:Wd):w.aj.all (AO.ok jP)=true:=by kernel_rfl
theorem AP(w:Wd):(w.aj.set 33 .dK).all (AO.ok Rl)=true:=by kernel_rfl
theorem IP(w:Wd)(m:Int):(cU w 0 m)[33]? =some (.refs [44,35,36])/\(cU w 1 m)[33]? =some (.refs [34,44,36])/\(cU w 2 m)[33]? =some (.refs [34,35,44])/\w.aj[33]? =some (.refs [34,35,36]):=by and_intros<;>kernel_rfl
theorem Ee(w:Wd)(m:Int):∀(p:Nat),p<3->({w with ahead:=up1 w.ahead p [m]}:Wd).aj=w.aj.set (34+p) (.vals .int [m])
 | 0,_=>by kernel_rfl
 | 1,_=>by kernel_rfl
 | 2,_=>by kernel_rfl
 | n+3,h=>gm h
theorem iT(f:Nat->Nat)(N:Nat)(h:j<44):eJ (km f) N j=f j:=gf (mH f h)
theorem mI(w:Wd)(f:Nat->Nat)(N:Nat){j:Nat}(h:w.aj[j]? =some o):o.bQ (eJ (km f) N)=o.bQ f:=
 AO.cX (aaZ.mp (vL w) o (abW h)) fun j hj=>iT f N (aep (adb hj))
section
variable{n0:Nat}{σ:List AO}{f:Nat->Nat}{w:Wd}
theorem nM.nd (W:nM n0 σ f w):(km f).Nodup:=gR fun i j a h1 h2=>by obtain⟨l1,e1⟩:=jo h1;obtain⟨l2,e2⟩:=jo h2;exact W.inj i j l1 l2 (e1.symm.trans e2)
theorem nM.hi (W:nM n0 σ f w)(h:j<44):f j<σ.length:=
 (aab.mp (W.at_ j _ (aad (by rw[fE];exact h)))).1
theorem nM.put (W:nM n0 σ f w)(w':Wd):nM n0 (ny (km f) σ w'.aj) f w'/\(ny (km f) σ w'.aj).length=σ.length/\∀i,i<n0->(ny (km f) σ w'.aj)[i]? =σ[i]? :=by
 have hd:(w'.aj.drop (km f).length).map (AO.bQ (eJ (km f) σ.length))= []:=by rw[dO];rfl
 have he:ny (km f) σ w'.aj=dq σ (km f) (w'.aj.map (AO.bQ (eJ (km f) σ.length))):=by unfold ny;rw[hd,ab5]
 refine he ▸ (⟨⟨W.inj,W.lo,fun j o h=> ?_⟩,bE _ _ _,fun i hi=>eD _ _ _ _ fun hm=> ?_⟩)
 ·have hj:j<44:=by have:=(aab.mp h).1;rwa [fE]at this
  rw[gA (km f) _ σ j (f j) (o.bQ f) W.nd (mH f hj) (by simp only[aa0,h,acY,mI w' f _ h]) (W.hi hj)]
 ·refine aA (acb.mp hm) fun j hj=>aI (jo hj) fun l1 e1=> ?_;exact cB (bj 0xab0b29921910938 (W.lo j l1) (bl e1) hi)
theorem nM.aaX (W:nM n0 σ f w)(hn:n0<=σ.length)(w':Wd)(m:Int)(p:Nat)(hp:p<3):∃f',(∀j,j≠34+p->f' j=f j)/\nM n0 (ny (km f) σ (cU w' p m)) f' {w' with ahead:=up1 w'.ahead p [m]}/\n0<=(ny (km f) σ (cU w' p m)).length/\∀i,i<n0->(ny (km f) σ (cU w' p m))[i]? =σ[i]? :=by
 refine cps fun Z zk=>aA (⟨_,rfl⟩:∃T,T=w'.aj.set 33 (.refs ([34,35,36].set p 44))) fun T hT=> ?_;have hah:cU w' p m=T++ [.vals .int [m]]:=by simp only[hT]
 have hTl:T.length=44:=by rw[hT,acN,fE]
 refine aA (⟨_,rfl⟩:∃ρ,ρ=eJ (km f) σ.length) fun ρ hρ=>zk ?_;have he:ny (km f) σ (cU w' p m)=dq σ (km f) (T.map (AO.bQ ρ))++ [.vals .int [m]]:=by
  unfold ny;simp only[hah,<-hρ,dO];have e1:(T++ [AO.vals .int [m]]).drop 44= [.vals .int [m]]:=by refine hTl ▸ ?_;simp
  simp only[e1];have e2:∀(is:List Nat) (l:List AO) (x:List AO) (σ:List AO),is.length<=l.length->dq σ is (l++x)=dq σ is l:=fun is=>by
   induction is with
   | nil=>intro l x σ _;cases l <;> cases x <;> rfl
   | cons i r ih=>
    intro l x σ h;cases l with
    | nil=>simp at h
    | cons a l=>exact ih l x _ (by simpa using h)
  rw[acq,e2 _ _ _ _ (by simp only[dO,aaR,hTl];exact abE _)];rfl
 refine he ▸ ?_;have IQ:ρ 44=σ.length:=by rw[hρ,iN (by simp only[dO];exact abE _),dO];exact aac (ba 0x10192c2f2c2f09918 (cA (abE _))) (ab2 _ _)
 refine aA (⟨_,rfl⟩:∃f':Nat->Nat,f'=fun j=>if j=34+p then σ.length else f j) fun f' UY=> ?_;have f1:∀j,j≠34+p->f' j=f j:=fun j hj=>by exact UY ▸ if_neg hj
 have f2:f' (34+p)=σ.length:=by exact UY ▸ if_pos rfl
 have xj:∀i,i<n0->i∉km f:=fun i hi hm=>by refine cps fun Z zk=>aA (acb.mp hm) fun j hj=> ?_;refine aI (jo hj) fun l1 e1=>zk ?_;exact cB (bj 0xab0b29921910938 (W.lo j l1) (bl e1) hi)
 refine⟨f',f1,⟨fun i j hi hj e=> ?_,fun j hj=> ?_,fun j o h=> ?_⟩,by simp[bE];exact adh hn,fun i hi=> ?_⟩
 ·by_cases h1:i=34+p <;> by_cases h2:j=34+p
  ·simp only[h1,h2]
  ·simp only[h1,f2,f1 j h2]at e;have:=W.hi hj;exact cB (ba 0xab0191b09928 this (bh e))
  ·simp only[h2,f2,f1 i h1]at e;have:=W.hi hi;exact cB (ba 0xab0191b09928 this (bl e))
  ·simp only[f1 i h1,f1 j h2]at e;exact W.inj i j hi hj e
 ·by_cases h1:j=34+p
  ·simp only[h1,f2];exact hn
  ·simp only[f1 j h1];exact W.lo j hj
 ·have hj:j<44:=by have:=(aab.mp h).1;rwa [fE]at this
  rw[(Ee w' m p hp)]at h;by_cases h1:j=34+p
  ·refine cps fun Z zk=> ?_;subst h1;rw[adC (by rw[fE];exact hj)]at h;cases h;refine zk ?_;rw[f2,abF (by simp only[bE];exact abE _),bE];simp[AO.qP]
  ·replace h:=(acr (Ne.symm h1)) ▸ h;rw[f1 j h1,aaY (by simp only[bE];exact W.hi hj)];refine gA (km f) _ σ j (f j) _ W.nd (mH f hj) ?_ (W.hi hj);simp only[aa0];by_cases h33:j=33
   ·refine cps fun Z zk=> ?_;subst h33;refine vU (IP w' m) fun a0 a1 a2 a3=> ?_;replace h:=a3 ▸ h;cases h;refine zk ?_;have r34:ρ 34=f 34:=by exact hρ ▸ iT f _ (lx [] [] 48583363721480)
    have r35:ρ 35=f 35:=by exact hρ ▸ iT f _ (lx [] [] 48583364770056)
    have r36:ρ 36=f 36:=by exact hρ ▸ iT f _ (lx [] [] 48583365818632)
    have IS:T[33]? =(cU w' p m)[33]? :=by rw[hah,aaY (by exact hTl ▸ lx [] [] 48583362672904)]
    have wK:=Cc hp;rcases wK with rfl | rfl | rfl
    ·simp only[IS,a0];show some (AO.refs [ρ 44,ρ 35,ρ 36])=some (AO.refs [f' 34,f' 35,f' 36]);simp only[IQ,r35,r36,show f' 34=_ from f2,f1 35 (fun zq=>cB (lx [] [] 0xaba222f9232f918 (bh zq))),f1 36 (fun zq=>cB (lx [] [] 0xaba222f9242f918 (bh zq)))]
    ·simp only[IS,a1];show some (AO.refs [ρ 34,ρ 44,ρ 36])=some (AO.refs [f' 34,f' 35,f' 36]);simp only[IQ,r34,r36,show f' 35=_ from f2,f1 34 (fun zq=>cB (lx [] [] 0xab222fb222f9918 (bl zq))),f1 36 (fun zq=>cB (lx [] [] 0xabb222f9242f918 (bh zq)))]
    ·simp only[IS,a2];show some (AO.refs [ρ 34,ρ 35,ρ 44])=some (AO.refs [f' 34,f' 35,f' 36]);simp only[IQ,r34,r35,show f' 36=_ from f2,f1 34 (fun zq=>cB (lx [] [] 0xab222fc222f9918 (bl zq))),f1 35 (fun zq=>cB (lx [] [] 0xab232fc222f9918 (bl zq)))]
   ·have e1:T[j]? =some o:=by exact hT ▸ (acr (Ne.symm h33)) ▸ h
    simp only[e1,acY];refine congrArg some ?_;have e2:(w'.aj.set 33 .dK)[j]? =some o:=by exact(acr (Ne.symm h33)) ▸ h
    refine AO.cX (aaZ.mp (AP w') o (abW e2)) fun k hk=> ?_;have iV:k<44/\k≠34+p:=by simp only[Rl,Nat.blt,aeg,abD,Nat.ble_eq]at hk;lia
    simp only[hρ,iT f _ iV.1,f1 k iV.2]
 ·rw[aaY (by simp only[bE];exact ab3 hi hn),eD _ _ _ _ (xj i hi)]
end
section
variable{e:Fm}{c:St}
noncomputable def AQ(e:Fm):List (Str×Pos×Expr)->St->(List (Str×V)->St->Prop)->Prop
 | [],c,Q=>Q [] c
 | p::r,c,Q=>Wp e VR (eval p.2.2 e.env) c fun a c1=>AQ e r c1 fun l c2=>Q ((p.1,a)::l) c2
def KvR(ad:Ad)(aa:Led)(u:Str×V)(kv:Value×Value):Prop:=(∃t,kv.1= .str u.1 t)/\VR ad aa u.2 kv.2
theorem IT(ps:List (Str×Pos×Expr)):∀(c:St) (Q:List (Str×V)->St->Prop),AQ e ps c Q->∀(x:Shared) (ad:Ad) (m:Str->Option Value) (aa:Led),aU e ad m aa c x.heap->∀(R:List (Value×Value)->Shared->Prop) (E:Value->Shared->Prop),(∀us vs c' h' tk aF m' ag,Q us c'->aU e aF m' ag c' h'->Ext ad aa aF ag->aM (KvR aF ag) us vs->us.map (·.1)=ps.map (·.1)->R vs {x with heap:=h',toks:=tk})-> wpAny (model pw e.w) e.A (evalPairs (ps.map fun p=>(eval (.Constant (.str p.1) 0 p.2.1) e.env,do let y <-eval p.2.2 e.env;standAt pos;pure y))) R E x:=by
 induction ps with
 | nil=>exact fun c Q h x ad m aa n R E p=>evalPairs_nil (p [] [] c x.heap x.toks ad m aa h n (Ext.refl ..) .nil rfl)
 | cons q r ih=>intro c Q h x ad m aa n R E p;refine evalPairs_cons (wpAny_Constant_str (wpAny_bind ?_));refine h {x with toks:=x.toks+1} ad m aa n _ E fun a a' c1 h1 dF bx m1 av q1 n1 x1 r1=> ?_;refine wpAny_bind (wpAny_standAt (wpAny_pure ?_));refine ih c1 _ q1 {x with heap:=h1,toks:=dF} bx m1 av n1 _ E fun us vs c' h' tk aF m' ag qq n' y' rr el=> ?_;exact p _ _ _ _ _ _ _ _ qq n' (x1.trans y') (.cons ⟨⟨_,rfl⟩,VR.mono y' r1⟩ rr) (by simp[el])
theorem cL.adopt {ad:Ad}(n:cL w h₀ L nv ad m aa ⟨l,σ⟩ h)(hm:(a,ob)∈aa)(ha:a∉ad.all)(ho:OR w (ad.snoc a) aa o ob):cL w h₀ L nv (ad.snoc a) m aa ⟨l,σ++ [o]⟩ h:=by
 have g:Gr ad aa (ad.snoc a) aa:=⟨⟨[a],rfl⟩,fun Z Z z=>z⟩;refine⟨n.F,n.N,n.nd,fun y v e=> ?_,by simp[Ad.snoc,n.len],by simp[Ad.snoc,n.fP],⟨fun i j b h3 h4=> ?_,fun i j b ow h3 h4 fQ=> ?_,fun i j ow qD b h3 h4 fQ Rm=> ?_,fun i ow h3=> ?_⟩,fun b hb=> ?_,fun j q e=> ?_⟩
 ·refine ah (n.loc y v e) fun v' e' r=> ?_;exact⟨v',e',VR.fA g r⟩
 ·rcases aW h3 with⟨p1,q1⟩ | ⟨p1,q1⟩ <;> rcases aW h4 with⟨p2,q2⟩ | ⟨p2,q2⟩
  ·exact n.fb.mi _ _ _ q1 q2
  ·subst q2;exact absurd (Ad.bk q1) ha
  ·subst q1;exact absurd (Ad.bk q2) ha
  ·simp only[p1,p2]
 ·rcases aW h4 with⟨p2,q2⟩ | ⟨p2,q2⟩
  ·rcases aW h3 with⟨p1,q1⟩ | ⟨p1,q1⟩
   ·exact n.fb.mo _ _ _ _ q1 q2 fQ
   ·have zs:=q1.symm;subst zs;exact ha (Ad.dM q2 fQ)
  ·refine cps fun Z zk=> ?_;subst q2;refine zk ?_;clear zk;exact bg fQ
 ·rcases aW h3 with⟨p1,q1⟩ | ⟨p1,q1⟩ <;> rcases aW h4 with⟨p2,q2⟩ | ⟨p2,q2⟩
  ·exact n.fb.oi _ _ _ _ _ q1 q2 fQ Rm
  ·subst q2;exact bg Rm
  ·subst q1;exact bg fQ
  ·simp only[p1,p2]
 ·rcases aW h3 with⟨p2,q2⟩ | ⟨p2,q2⟩
  ·exact n.fb.on _ _ q2
  ·subst q2;exact .nil
 ·rcases Ad.il.mp hb with q | q
  ·exact n.gp b q
  ·have zs:=q.symm;subst zs;exact⟨ob,hm,ho.cls⟩
 ·rcases aW e with⟨hj,e1⟩ | ⟨hj,e1⟩
  ·refine cY (n.rep j q e1) fun b ow qb g1 g2 g3 g4=> ?_;refine sG b ow qb ⟨bq g g1,?_,g3,RP.mono g (fun Z Z Z hb=>hb) g4⟩;show(ad.o++ [[]])[j]? =some ow;exact(aaY (by rw[n.fP];exact hj)) ▸ g2
  ·have zs:=e1.symm;subst zs;have hj:j=σ.length:=hj;subst hj;exact sG a ([]) ob ⟨by show(ad.m++ [a])[_]? =_;rw[<-n.len];simp,by show(ad.o++ [[]])[_]? =_;rw[<-n.fP];simp,hm,RP.of ho⟩
theorem ui{ad:Ad}{vs:List (Value×Value)}(h:aM (KvR ad aa) us vs):Carries (strKind pw w) vs ((us.zip vs).map fun q=>(q.1.1,q.2.2)):=by
 induction h with
 | nil=>exact trivial
 | @cons _ b _ _ h1 h2 ih=>refine aI h1 fun z Z=>aA z fun t ht=> ?_;obtain⟨b1,b2⟩:=b;have zs:=ht.symm;subst zs;exact⟨by simp[PySem.strKind,Value.isStrOf],rfl,ih⟩
theorem Ef{ad:Ad}{vs:List (Value×Value)}(h:aM (KvR ad aa) us vs)(hk:∀e∈es,∃k,(strKind pw w).is k e.key=true/\e.hash=(strKind pw w).hash k)(hp:Pairs (strKind pw w) es ((us.zip vs).map fun q=>(q.1.1,q.2.2))):aM (ER w ad aa) us es:=by
 induction h generalizing es with
 | nil=>cases hp;exact .nil
 | @cons u b us vs h1 h2 ih=>
  cases hp with
  | @cons e1 _ es1 _ g1 g2 g3=>
   refine ah (hk e1 (.head _)) fun k k1 k2=> ?_;refine aA (Value.isStrOf_shape (show Value.isStrOf u.1 e1.key=true from g1)) fun t2 ht2=> ?_;refine aA (Value.isStrOf_shape (show Value.isStrOf k e1.key=true from k1)) fun t3 ht3=> ?_;have:k=u.1:=by rw[ht2]at ht3;cases ht3;rfl
   exact .cons ⟨this ▸ k2,⟨t2,ht2⟩,g2 ▸ h1.2⟩ (ih (fun e he=>hk e (.tail _ he)) g3)
theorem xl(env:Env)(pos:Pos)(ps:List (Str×Pos×Expr)):(evalEachOpt (ps.map fun p=>some (Expr.Constant (.str p.1) 0 p.2.1)) env).zip ((evalEach (ps.map fun p=>p.2.2) env).map fun v=>do let x <-v;standAt pos;pure x)=
  (ps.map fun p=>(eval (.Constant (.str p.1) 0 p.2.1) env,(do let y <-eval p.2.2 env;standAt pos;pure y:Sem Value))).map fun p=>(some p.1,p.2):=by
 induction ps with
 | nil=>rfl
 | cons p r ih=>show(_::evalEachOpt _ env).zip ((_::evalEach _ env).map _)=_;simp only[acu,adR,ih];rfl
theorem Eg(h0:ps≠ [])(hlen:ps.length<=15)(IU:∀vs:List Value,vs.length=ps.length->merged [] ((ps.map (·.1)).zip vs)=(ps.map (·.1)).zip vs) (h:AQ e ps c fun l c1=>Q (.ref c1.aj.length) {c1 with aj:=c1.aj++ [.dict l]}):Wp e VR (eval (.Dict (ps.map fun p=>some (.Constant (.str p.1) 0 p.2.1)) (ps.map fun p=>p.2.2) pos) e.env) c Q:=by
 intro x ad m aa n R E p;refine bL (Fr.en n.F n.N emptyDict) fun F' N' hl=> ?_;refine aI (n.more hl F' N') fun n1 x1=> ?_;refine wpAny_Dict_pairs (knd:=strKind pw e.w) (xl e.env pos ps) (by simpa using h0) (by simpa using hlen) ?_;refine IT ps c _ h {x with heap:=x.heap.push emptyDict} ad m _ n1 _ E fun us vs c' h' tk aF m' ag q n' y rr el=> ?_;refine aI (y.qE _ _ (.head _) (n.lt hl)) fun hd2 hd3=> ?_;have hul:us.length=ps.length:=by have:=congrArg ade el;simpa using this
 have hvl:vs.length=ps.length:=by rw[<-rr.length];exact hul
 have ekv:(us.zip vs).map (fun q=>(q.1.1,q.2.2))=(ps.map (·.1)).zip (vs.map (·.2)):=by refine el ▸ List.zip_map ▸ ?_;simp[Prod.map]
 refine⟨(us.zip vs).map fun q=>(q.1.1,q.2.2),ui rr,⟨_,#[],0,((n'.N _ hd2).1),⟨rfl,rfl,rfl⟩,rfl,(fun e he=>by simp at he),.nil,aek⟩,fun h2 hD hs=> ?_⟩;rw[ekv,IU _ (by rw[aaR];exact hvl),<-ekv]at hD;refine cps fun Z zk=> ?_;refine B3 hD fun o es ep g1 g2 g3 g4 g5 Z=> ?_;obtain⟨oc,od,odt,V8⟩:=o;refine bL g2 fun e1 e2 e3=> ?_;dsimp only at e1 e2 e3 g3;subst e1;subst e2;subst e3;subst g3;refine zk ?_;have N2:News e.h₀ e.L h2 (bB ag x.heap.objs.size (dictOf es.toList ep)):=by exact dA n'.nd hd2 n'.N hs (by simpa using g1)
 have n2:=n'.Cm (ob':=dictOf es.toList ep) hd3 hd2 (NT.of (by simp)) (n'.F.change hs (n'.N _ hd2).2.1 (n'.N _ hd2).2.2) N2;have gg:Gr aF ag (aF.snoc x.heap.objs.size) (bB ag x.heap.objs.size (dictOf es.toList ep)):=⟨⟨[x.heap.objs.size],rfl⟩,fun b its hb=>aX hb fun z=>(NT.of (o:=emptyDict) (by simp)) its (by subst z;exact(dz n'.nd hd2 hb) ▸ rfl)⟩;have hE:aM (ER e.w aF ag) us es.toList:=Ef rr (fun e he=>g4 e (by simpa using he)) g5;have tr:rt x.heap.objs.size aa:=fun q hq z=>by have:=hl q hq;rw[z]at this;exact absurd this (acI _)
 have y2:Ext ad aa aF (bB ag x.heap.objs.size (dictOf es.toList ep)):=(x1.trans y).CX tr _;refine p _ _ _ h2 _ _ m' _ q (n2.adopt (o:=.dict us) (b5 hd2) hd3 ⟨es.toList,ep,rfl,hE.mono fun a b z=>⟨z.1,z.2.1,VR.fA gg z.2.2⟩,by rw[hul];exact bY 989831301630232 hlen⟩) ⟨?_,y2.tup,y2.key,fun b ob hb hbn=> ?_⟩ ⟨x.heap.objs.size,?_,rfl⟩
 ·refine ah y2.grow fun t et ft=> ?_;refine⟨t++ [x.heap.objs.size],by show aF.m++_=_;rw[et,acx],fun b ob hb hbt=> ?_⟩;rcases abn.mp hbt with z | z
  ·exact ft b ob hb z
  ·rw[abH]at z;exact tr _ hb z
 ·refine aI (y2.qE b ob hb hbn) fun q1 q2=> ?_;refine⟨q1,fun z=> ?_⟩;rcases Ad.il.mp z with z | z
  ·exact q2 z
  ·exact tr _ hb z
 ·show(aF.m++ [x.heap.objs.size])[c'.aj.length]? =_;rw[<-n'.len];simp
theorem oF(hx:Cx e)(hl:look e.scope.names y=some .cell)(hv:look c.loc y=some (.ref i))(hs:c.aj[i]? =some (.cell v₀))(h:Q () {c with aj:=c.aj.set i (.cell (some v))}):cP e cD v (assign (.Name y pos) e.env) c Q:=
 fun x ad m aa v' n r R E p=>wpAny_assign_Name (jy (Q:=Q) hx hl hv hs h x ad m aa v' n r R E p)
theorem IV{lo up:Option Expr}(hD:e.h₀.IsList D its.toArray)(hi:IntsAre its xs)(hz:xs.length<=100000) (h:Wp e VR (eval v e.env) c fun u c1=>Wp e J8 (evalPart lo e.env) c1 fun a c2=>Wp e J8 (evalPart up e.env) c2 fun b c3=>∃(s k:Nat),u= .glob (.ref D)/\(∀its:Array Value,its.size=xs.length->(slicePick its a b none).toList=(its.toList.drop s).take k)/\Q (.ref c3.aj.length) {c3 with aj:=c3.aj++ [.vals .int ((xs.drop s).take k)]}):Wp e VR (eval (.Subscript v (.Slice lo up none p) pos) e.env) c Q:=
 fun x ad m aa n R E pp=>Subscript_ (h x ad m aa n _ E fun u u' c1 h1 dF bx m1 av q1 n1 x1 r1=>wpAny_Slice (q1 _ bx m1 av n1 _ E fun a a' c2 h2 gI bp m2 ay q2 n2 x2 r2=>q2 _ bp m2 ay n2 _ E fun b b' c3 h3 jr iq m3 cn q3 n3 x3 r3=>by
  refine bG q3 fun st k Rn HI q=> ?_;have zs:=Rn.symm;subst zs;subst r1;refine wpAny_pure ?_;have hlen:=hi.length;refine bD hD fun ob g1 g2 g3=> ?_;refine kba_turn (value':=.Name (s "_") ⟨0,0,0,0⟩) (fun Z=>rfl) (kmk_slice (s:={x with heap:=h3,toks:=jr}) n3.F n3.N ⟨ob,n3.F.keep _ _ g1,g2,g3⟩ r2 r3 (fun D h' F' N' hl=> ?_) rfl (fun Z=>rfl) (by have:=aD;simp;lia));have e1:slicePick its.toArray a b none=((its.drop st).take k).toArray:=by apply Array.toList_inj.mp;rw[HI _ (by simp;exact hlen)]
  rw[e1]at N';have hvp:∀ {its:List Value} {xs:List Int},IntsAre its xs->aM (VP cn) (xs.map (Kd.inj .int)) its:=fun{its xs} h=>by
   induction h with
   | nil=>exact .nil
   | cons i t _ ih=>exact .cons ⟨t,rfl⟩ ih
  refine aI (n3.new (o:=.vals .int ((xs.drop st).take k)) hl F' N' ⟨_,0,rfl,(aM.ofMap (kd:=.int) (hvp hi) st k).mono fun Z Z=>VP.mono (jH (ad:=iq)),ab3 EV hz⟩) fun n4 x4=> ?_;exact pp _ _ _ _ _ _ _ _ q n4 (((x1.trans x2).trans x3).trans x4) ⟨D,by show(iq.m++ [D])[_]? =_;refine n3.len ▸ ?_;simp,rfl⟩))
end
abbrev kY:List Stmt:=ar (st 40)
abbrev aK:Scope:=au (st 40)
abbrev l0:Stmt:=at_ kY 0
abbrev l1:Stmt:=at_ kY 1
abbrev l2:Stmt:=at_ kY 2
abbrev l3:Stmt:=at_ kY 3
abbrev Kq:Expr:=ie (ak l0)
abbrev Eh:Expr:=gc (ak l1)
abbrev Ei:Expr:=ak l2
abbrev AR:Expr:=az 0 (ak l3)
theorem aa2:l0= .Assign [.Name (s "numbers") (aw (i6 0 l0))] (.BinOp (gc (ak l0)) .Add (.Subscript (dh Kq) (.Slice none (some (jI (oT Kq))) none (nQ Kq)) (aw Kq)) (aw (ak l0))) (bZ l0):=by kernel_rfl
theorem aa3:l1= .Assign [.Name (s "draws") (aw (i6 0 l1))] (.BinOp (.ListComp (bH Eh) [⟨.Name (s "x") (aw (dT Eh).target),(dT Eh).iter,[],0⟩] (cb Eh) (aw Eh)) .Add (ie (ak l1)) (aw (ak l1))) (bZ l1):=by kernel_rfl
theorem aa4:l2= .Assign [.Name (s "words") (aw (i6 0 l2))] (.ListComp (bH Ei) [⟨.Name (s "d") (aw (dT Ei).target),(dT Ei).iter,[],0⟩] (cb Ei) (aw Ei)) (bZ l2):=by kernel_rfl
theorem aa5:l3= .Assign [.Name (s "text") (aw (i6 0 l3))] (.Call (.Attribute (.Constant (.str (s "")) 0 (yD (aR (ak l3)))) (s "join") (aw (hG (ak l3)))) [.ListComp (bH AR) [⟨.Name (s "k") (aw (dT AR).target),.Call (.Name (s "range") (fJ (hG (dT AR).iter))) [az 0 (dT AR).iter] [] (aw (dT AR).iter),[],0⟩] (cb AR) (aw AR)] [] (aw (ak l3))) (bZ l3):=by kernel_rfl
abbrev ym(D:Addr):List (Str×V):= [(s "script",.glob (.ref D)),(s "draws",.ref 0),(s "words",.ref 1),(s "p",.ref 2)]
abbrev kL(D:Addr):List (Str×V):=ym D++ [(s "numbers",.ref 5)]
abbrev UZ(D:Addr)(t:List Nat):List (Str×V):=kL D++ [(s "text",.pv (.str t))]
noncomputable abbrev vM(a b c:Option V):List AO:= [.cell a,.cell b,.cell c]
noncomputable abbrev gb(x:Int):Int:=(x.fdiv 9).fmod 1152
section
variable(P:Params)(e:Fm)(Q:AF->St->Prop)(K:V->St->Prop)
theorem aa6(D:Addr):ew e P aK 40 (gc (ak l0)) ⟨ym D,vM none none none⟩ K=([V.pv (.int 0),.pv (.int 0),.pv (.int 7),.pv (.int 1)].length<=100000/\K (.ref 3) ⟨ym D,vM none none none++ [.vals .int [0,0,7,1]]⟩):=by kernel_rfl
theorem aa7(D:Addr)(σ:List AO):ew e P aK 40 (dh Kq) ⟨ym D,σ⟩ K=K (.glob (.ref D)) ⟨ym D,σ⟩:=by kernel_rfl
theorem aa8(c:St):ew e P aK 40 (jI (oT Kq)) c K=K (.pv (.int 12)) c:=by kernel_rfl
theorem aa9(D:Addr)(σ:List AO):ew e P aK 40 (dT Eh).iter ⟨kL D,σ⟩ K=K (.ref 5) ⟨kL D,σ⟩:=by kernel_rfl
theorem aba(D:Addr)(a b d acc:List Int)(x:Int):ew e P (kC (cb Eh) aK) 40 (bH Eh) ⟨kL D++ [(s "x",.ref 7)],vM none none none++ [.vals .int a,.vals .int b,.vals .int d,.vals .int acc,.ns [(s "x",.pv (.int x))]]⟩ K=K (.pv (.int (gb x))) ⟨kL D++ [(s "x",.ref 7)],vM none none none++ [.vals .int a,.vals .int b,.vals .int d,.vals .int acc,.ns [(s "x",.pv (.int x))]]⟩:=by kernel_rfl
theorem abb(l:List (Str×V))(a b d acc:List Int):ew e P aK 40 (ie (ak l1)) ⟨l,vM none none none++ [.vals .int a,.vals .int b,.vals .int d,.vals .int acc,.ns []]⟩ K=([V.pv (.int 1),.pv (.int 2),.pv (.int 3)].length<=100000/\K (.ref 8) ⟨l,vM none none none++ [.vals .int a,.vals .int b,.vals .int d,.vals .int acc,.ns [],.vals .int [1,2,3]]⟩):=by kernel_rfl
theorem abc:look aK.names (s "numbers")=some .local/\look aK.names (s "draws")=some .cell/\look aK.names (s "words")=some .cell/\look aK.names (s "text")=some .local/\look aK.names (s "p")=some .cell/\b7 (cb Eh) aK (s "x")=true/\b7 (cb Ei) aK (s "d")=true/\b7 (cb AR) aK (s "k")=true/\((aw (hG (ak l3))).endLine==(aw (ak l3)).line)=true:=by and_intros<;>kernel_rfl
noncomputable abbrev lA(w:Option V)(a b n d:List Int):List AO:=vM (some (.ref 9)) w none++ [.vals .int a,.vals .int b,.vals .int n,.vals .int (n.map gb),.ns [],.vals .int [1,2,3],.vals .int d]
theorem abd(D:Addr)(a b n d:List Int):ew e P aK 40 (dT Ei).iter ⟨kL D,lA none a b n d⟩ K=K (.ref 9) ⟨kL D,lA none a b n d⟩:=by kernel_rfl
theorem abe(D:Addr)(a b n d:List Int)(acc:List (List Nat))(x:Int):ew e P (kC (cb Ei) aK) 40 (bH Ei) ⟨kL D++ [(s "d",.ref 11)],lA none a b n d++ [.vals .str acc,.ns [(s "d",.pv (.int x))]]⟩ K=af e [.pv (.int x)] (.ref 923) (lA none a b n d++ [.vals .str acc,.ns [(s "d",.pv (.int x))]]) fun v σ=>K v ⟨kL D++ [(s "d",.ref 11)],σ⟩:=by kernel_rfl
noncomputable abbrev lW(a b n d:List Int)(w:List (List Nat)):List AO:=lA (some (.ref 10)) a b n d++ [.vals .str w,.ns []]
theorem abf(D:Addr)(a b n d:List Int)(w:List (List Nat)):ew e P aK 40 (az 0 (dT AR).iter) ⟨kL D,lW a b n d w⟩ K=K (.pv (.int d.length)) ⟨kL D,lW a b n d w⟩:=by kernel_rfl
theorem abg(D:Addr)(a b n d:List Int)(w acc:List (List Nat))(k:Int):ew e P (kC (cb AR) aK) 40 (bH AR) ⟨kL D++ [(s "k",.ref 13)],lW a b n d w++ [.vals .str acc,.ns [(s "k",.pv (.int k))]]⟩ K= ((0<=k/\k<w.length)/\(0<=k/\k<d.length)/\af e [.pv (.str (w.getD k.toNat [])),.pv (.int (d.getD k.toNat 0))] (.ref 928) (lW a b n d w++ [.vals .str acc,.ns [(s "k",.pv (.int k))]]) fun v σ=>K v ⟨kL D++ [(s "k",.ref 13)],σ⟩):=by kernel_rfl
theorem xm(c:St)(F:Prop):cM P aK (s "range") c K F=K (.glob (.type "range")) c:=by kernel_rfl
end
section
theorem mJ{α β:Type}(f:α->β){l:List α}{x:α}(h:l[k]? =some x):(l.take (k+1)).map f=(l.take k).map f++ [f x]:=by simp only[adG,h,acq];rfl
theorem jQ{xs:List kd.ty}{k:Nat}(h:(yg kd xs)[k]? =some u):∃x,xs[k]? =some x/\u= .pv (kd.inj x):=by simp only[aa0,abh]at h;refine ah h fun x h1 h2=>⟨x,h1,h2.symm⟩
noncomputable abbrev numsOf(sc:List Int):List Int:= [0,0,7,1]++sc.take 12
noncomputable abbrev drawsOf(sc:List Int):List Int:=(numsOf sc).map gb++ [1,2,3]
noncomputable abbrev Ej(sc:List Int):List Nat:=(drawsOf sc).map adH
noncomputable abbrev wordsOf(sc:List Int):List (List Nat):=(Ej sc).map wordOf
noncomputable abbrev bO(sc:List Int):List (List Nat):=(Ej sc).map bF
noncomputable abbrev lT(sc:List Int):List AO:=lW [0,0,7,1] (sc.take 12) (numsOf sc) (drawsOf sc) (wordsOf sc)++ [.vals .str (bO sc),.ns []]
theorem xn(x:Int):0<=gb x/\gb x<1152:=by unfold gb;rw[ac8 _ (by lia)];lia
theorem oG(h:x∈drawsOf sc):0<=x/\x<1152:=by
 rcases abn.mp h with h | h
 ·refine ah (ab6.mp h) fun y Z Ro=>Ro ▸ xn y
 ·simp only[abi,acS,or_false]at h;lia
theorem sj(sc:List Int):(numsOf sc).length<=16:=by simp;lia
theorem oH(sc:List Int):(drawsOf sc).length<=19:=by rw[aag,aaR];simp only[acn,acQ];exact bY 0x132fbbba99909102f0918 (sj sc)
theorem kM(d:Nat):(bF d).length<=20:=by
 refine F9 (wok d) fun Z Z h3 Z h5 Z=> ?_;have h6:=sa (wordOf d);unfold bF jc;split
 ·simp;exact bY 18893697386776 h5
 ·simp;exact ba 0x132f0c1a102ff0928 h6 h3
theorem sk{l:List (List Nat)}(h:∀x∈l,x.length<=b):l.flatten.length<=b*l.length:=by
 induction l with
 | nil=>simp
 | cons x r ih=>simp only[adE,aag,acn,Nat.mul_succ];exact dZ 5508592758229288 (h x (.head _)) (ih fun y hy=>h y (.tail _ hy))
variable{e:Fm}
theorem Ek(hx:Cx e)(hs:e.scope=aK){k:Nat}(hk:e.k=k+1){D:Addr}{its:List Value}{sc:List Int}(hD:e.h₀.IsList D its.toArray)(hi:IntsAre its sc)(hz:sc.length<=63){rest:List Stmt}{Q:AF->St->Prop} (h:eA e (execs rest e.env) ⟨UZ D (bO sc).flatten,lT sc⟩ Q):eA e (execs (l0::l1::l2::l3::rest) e.env) ⟨ym D,vM none none none⟩ Q:=by
 refine KN abc fun f1 f2 f3 f4 f5 f6 f7 f8 f9=> ?_;have Kh:=oH sc;refine aa2 ▸ (dD (cR (aH rfl _ _ _) (fR (aB hx hs (aa6 _ e _ D) ⟨by simp,IV hD hi (bY 0x186a05f03f2f0918 hz) (aB hx hs (aa7 _ e _ D _) (lz (lB (aB hx hs (aa8 _ e _ _) ⟨12,rfl,0,12,rfl,(fun its Z=>kc (lx [] [] 12712448) its),?_⟩))))⟩))));refine tH rfl rfl (by simp;lia) (cE hx (hs ▸ f1) ?_);show eA e _ ⟨put (ym D) (s "numbers") (.ref 5),vM none none none++ [.vals .int [0,0,7,1],.vals .int ((sc.drop 0).take 12),.vals .int ([0,0,7,1]++(sc.drop 0).take 12)]⟩ Q;rw[(show put (ym D) (s "numbers") (.ref 5)=kL D from by kernel_rfl),aeB];refine aa3 ▸ ?_;have sw:∀(y:Str) (pos:Pos) (v:Expr) (l:Nat),look aK.names y=some .cell->iB v=true->swapsWith v (some (.Name y pos)) l e.env=pure false:=fun y pos v l hy hv=>by have k:=hx.sH (hs ▸ hy);unfold swapsWith;cases v <;> first | rfl | (simp[k.1,show(NameKind.cell==NameKind.local)=false from rfl])
 refine dD (cR (aH rfl _ _ _) (fR ?_));refine pM hx (hs ▸ f6) (fun Z=>rfl) (by kernel_rfl) (by kernel_rfl) (.vals .int []) (.inl ⟨.int,rfl⟩)
  (fun a k σ=>a=6/\∃l,σ=vM none none none++ [.vals .int [0,0,7,1],.vals .int (sc.take 12),.vals .int (numsOf sc),.vals .int (((numsOf sc).take k).map gb),.ns l]) (fun a k σ hI=>by obtain⟨rfl,l,rfl⟩:=hI;exact⟨l,rfl⟩)
  (dr hx (aB hx hs (aa9 _ e _ D _) ⟨rfl,rfl,rfl,⟨rfl,[],rfl⟩,rfl⟩)) (fun Z Z Z z=>z) (fun e2 i9 rL iV kG a j u σ hu hI Z=> ?_) (fun a σ hI=> ?_)
 ·obtain⟨rfl,l,rfl⟩:=hI;refine ah (jQ hu) fun x Kk Rp=> ?_;subst Rp;show Wp e2 VR _ ⟨put (kL D) (s "x") (.ref 7),_⟩ _;rw[(show put (kL D) (s "x") (.ref 7)=kL D++ [(s "x",.ref 7)] from by kernel_rfl)];refine aB i9 (by rw[kG,hs]) (aba _ e2 _ D [0,0,7,1] (sc.take 12) (numsOf sc) (((numsOf sc).take j).map gb) x) (ed (kd:=.int) rfl (by have:=sj sc;rw[aaR,acO];lia) ⟨rfl,⟨rfl,[(s "x",.pv (.int x))],?_⟩,rfl⟩);show vM none none none++ [_,_,_,AO.vals .int (((numsOf sc).take j).map gb++ [gb x]),_]=_;rw[mJ gb Kk]
 obtain⟨rfl,l,rfl⟩:=hI;rw[(show(numsOf sc).take (yg .int (numsOf sc)).length=numsOf sc from by rw[aaR,adk])];refine aB hx hs (abb _ e _ (kL D) [0,0,7,1] (sc.take 12) (numsOf sc) ((numsOf sc).map gb)) ⟨by simp,tH rfl rfl (by have:=oH sc;rw[aag]at this;exact bY 0x186a05fbbba99909132fbbba99909918 this) (jy (i:=0) hx (hs ▸ f2) (by kernel_rfl) rfl ?_)⟩;show eA e _ ⟨kL D,lA none [0,0,7,1] (sc.take 12) (numsOf sc) (drawsOf sc)⟩ Q;rw[aa4];refine dD (cR (sw _ _ _ _ f3 rfl) ?_);refine pM hx (hs ▸ f7) (fun Z=>rfl) (by kernel_rfl) (by kernel_rfl) (.vals .str []) (.inl ⟨.str,rfl⟩)
  (fun a k σ=>a=10/\∃l,σ=lA none [0,0,7,1] (sc.take 12) (numsOf sc) (drawsOf sc)++ [.vals .str (((drawsOf sc).take k).map fun d=>wordOf d.toNat),.ns l]) (fun a k σ hI=>by refine aI hI fun Rq Rr=> ?_;subst Rq;refine aA Rr fun l Rt=> ?_;subst Rt;exact⟨l,rfl⟩)
  (dr hx (aB hx hs (abd _ e _ D _ _ _ _) ⟨rfl,rfl,rfl,⟨rfl,[],rfl⟩,rfl⟩)) (fun Z Z Z z=>z) (fun e2 i9 rL iV kG a j u σ hu hI Z=> ?_) (fun a σ hI=> ?_)
 ·obtain⟨rfl,l,rfl⟩:=hI;refine ah (jQ hu) fun x Kk Ru=> ?_;subst Ru;show Wp e2 VR _ ⟨put (kL D) (s "d") (.ref 11),lA none [0,0,7,1] (sc.take 12) (numsOf sc) (drawsOf sc)++ [.vals .str (((drawsOf sc).take j).map fun d=>wordOf d.toNat),.ns [(s "d",.pv (.int x))]]⟩ _;rw[(show put (kL D) (s "d") (.ref 11)=kL D++ [(s "d",.ref 11)] from by kernel_rfl)];have hxp:=oG (abW Kk);refine aB i9 (by rw[kG,hs]) (abe _ e2 _ D [0,0,7,1] (sc.take 12) (numsOf sc) (drawsOf sc) _ x) ?_;rw[((abC hxp.1).symm)];refine(DU i9 (by rw[iV];exact hk) x.toNat _).mono fun v σ hv=>aI hv fun Rv Rw=> ?_;subst Rv;subst Rw;refine ed (kd:=.str) rfl (by rw[aaR,acO];lia) ⟨rfl,⟨rfl,[(s "d",.pv (.int (adH x)))],?_⟩,rfl⟩;show lA none _ _ _ _++ [AO.vals .str ((((drawsOf sc).take j).map fun d=>wordOf d.toNat)++ [wordOf x.toNat]),_]=_;rw[mJ (fun d:Int=>wordOf d.toNat) Kk]
 obtain⟨rfl,l,rfl⟩:=hI;rw[(show(drawsOf sc).take (yg .int (drawsOf sc)).length=drawsOf sc from by rw[aaR,adk])];have ew:((drawsOf sc).map fun d=>wordOf d.toNat)=wordsOf sc:=by show _=((drawsOf sc).map adH).map wordOf;rw[aeu];rfl
 rw[ew];refine jy (i:=1) hx (hs ▸ f3) (by kernel_rfl) rfl ?_;show eA e _ ⟨kL D,lW [0,0,7,1] (sc.take 12) (numsOf sc) (drawsOf sc) (wordsOf sc)⟩ Q;have hwl:(wordsOf sc).length=(drawsOf sc).length:=by show(((drawsOf sc).map adH).map wordOf).length=_;rw[aaR,aaR]
 rw[aa5];refine dD (cR (aH rfl _ _ _) (@dp e _ V VR hx _ _ _ _ _ _ ?h1 ?h2 ?h3 ?h4 ?h5))
 case h1=>rfl
 case h2=>rfl
 case h3=>show 1<30;decide
 case h4=>exact f9
 refine qG fun pl=> ?_;rw[show(s "").cps.toList= [] by kernel_rfl];refine Av ⟨rfl,aS rfl ?_⟩;have Rx:∀(j:Nat),j<(drawsOf sc).length->((drawsOf sc).getD j 0)=(((drawsOf sc).getD j 0).toNat:Int)/\(wordsOf sc).getD j []=wordOf ((drawsOf sc).getD j 0).toNat/\(drawsOf sc)[j]? =some ((drawsOf sc).getD j 0):=fun j hj=>by
  have hg:=eL (d:=(0:Int)) hj;have hp:=oG (abW hg);refine⟨ace ((jv (abC hp.1))) ((ij (abC hp.1))),?_,hg⟩;have:(wordsOf sc)[j]? =some (wordOf ((drawsOf sc).getD j 0).toNat):=by show(((drawsOf sc).map adH).map wordOf)[j]? =_;rw[aeu,aa0,hg];rfl
  simp only[acU,this,Option.getD_some]
 refine pM hx (us:=iZ (drawsOf sc).length) (hs ▸ f8) (fun Z=>rfl) (by kernel_rfl) (by kernel_rfl) (.vals .str []) (.inl ⟨.str,rfl⟩)
  (fun a k σ=>a=12/\∃l,σ=lW [0,0,7,1] (sc.take 12) (numsOf sc) (drawsOf sc) (wordsOf sc)++ [.vals .str (((drawsOf sc).take k).map fun d=>bF d.toNat),.ns l]) (fun a k σ hI=>by refine aI hI fun Ry Rz=> ?_;subst Ry;refine aA Rz fun l RA=> ?_;subst RA;exact⟨l,rfl⟩)
  (cy hx (bY 0x186a05f0132f0918 Kh) (dm hx (by kernel_rfl) (cu hx False.elim ?_))) (fun Z Z Z z=>z) (fun e2 i9 rL iV kG a j u σ hu hI Z=> ?_) (fun a σ hI=> ?_)
 ·rw[hs];refine of_eq (xm _ _ _ _) ⟨_,rfl,rfl,aS (aE (by kernel_rfl) _ _) (aB hx hs (abf _ e _ D _ _ _ _ _) (aN (fV ⟨rfl,⟨rfl,[],rfl⟩,trivial⟩)))⟩
 ·obtain⟨rfl,l,rfl⟩:=hI;simp only[aa0,abh]at hu;obtain⟨j',hj,rfl⟩:=hu;have bT:=(aab.mp hj).1;rw[acV]at bT;rw[acz bT]at hj;obtain rfl:=aah.inj hj;refine bL (Rx j bT) fun b1 b2 b3=> ?_;show Wp e2 VR _ ⟨put (kL D) (s "k") (.ref 13),lW [0,0,7,1] (sc.take 12) (numsOf sc) (drawsOf sc) (wordsOf sc)++ [.vals .str (((drawsOf sc).take j).map fun d=>bF d.toNat),.ns [(s "k",.pv (.int j))]]⟩ _;rw[(show put (kL D) (s "k") (.ref 13)=kL D++ [(s "k",.ref 13)] from by kernel_rfl)];refine aB i9 (by rw[kG,hs]) (abg _ e2 _ D [0,0,7,1] (sc.take 12) (numsOf sc) (drawsOf sc) (wordsOf sc) _ j) ⟨⟨aa1 _,bj 0x28b0892191b09920 bT (bl hwl)⟩,⟨aa1 _,acL.mpr bT⟩,?_⟩;rw[acw,b2,b1,acw];refine(uc i9 (by rw[iV];exact hk) ((drawsOf sc).getD j 0).toNat (by kernel_rfl)).mono fun v σ hv=> ?_;obtain⟨rfl,rfl⟩:=hv;refine ed (kd:=.str) rfl (by rw[aaR,acO];lia) ⟨rfl,⟨rfl,[(s "k",.pv (.int j))],?_⟩,trivial⟩;show lW _ _ _ _ _++ [AO.vals .str ((((drawsOf sc).take j).map fun d=>bF d.toNat)++ [bF ((drawsOf sc).getD j 0).toNat]),_]=_;rw[mJ (fun d:Int=>bF d.toNat) b3]
 obtain⟨rfl,l,rfl⟩:=hI;rw[(show(drawsOf sc).take (iZ (drawsOf sc).length).length=drawsOf sc from by rw[aaR,acV,adk])];have ew3:((drawsOf sc).map fun d=>bF d.toNat)=bO sc:=by show _=((drawsOf sc).map adH).map bF;rw[aeu];rfl
 rw[ew3];have htl:(bO sc).flatten.length<=100000:=by
  have h1:(bO sc).length=(drawsOf sc).length:=by show(((drawsOf sc).map adH).map bF).length=_;rw[aaR,aaR]
  have:=sk (l:=bO sc) fun x hxm=>by refine ah (ab6.mp hxm) fun d Z RB=>cps fun Z zk=> ?_;subst RB;refine zk ?_;clear zk;exact kM d
  lia
 refine aN (Au rfl htl (cE hx (hs ▸ f4) (h)))
end
section
theorem V.cC (h:n<=m){v:V}(hv:v.under n=true):v.under m=true:=by
 cases v with
 | ref i=>exact decide_eq_true (adB (of_decide_eq_true hv) h)
 | _=>rfl
theorem AO.cC (h:n<=m){o:AO}(ho:o.under n=true):o.under m=true:=by
 have lt:∀ {i:Nat},decide (i<n)=true->decide (i<m)=true:=fun z=>decide_eq_true (adB (of_decide_eq_true z) h);cases o with
 | refs xs=>exact aaZ.mpr fun i hi=>lt (aaZ.mp ho i hi)
 | dict es=>exact aaZ.mpr fun i hi=>V.cC h (aaZ.mp ho i hi)
 | inst C d=>exact lt ho
 | bo ep es=>exact aaZ.mpr fun i hi=>V.cC h (aaZ.mp ho i hi)
 | slot C d vs=>
  have ho:(decide (d<n)&&vs.all fun x=>match x with | some v=>v.under n | none=>true)=true:=ho;rw[abD]at ho;show(decide (d<m)&&vs.all fun x=>match x with | some v=>v.under m | none=>true)=true;rw[lt ho.1,adN];refine aaZ.mpr fun x hx=> ?_;have:=aaZ.mp ho.2 x hx;cases x with
  | none=>rfl
  | some v=>exact V.cC h this
 | bound f i=>exact lt ho
 | da i y=>cases i with
  | none=>rfl
  | some i=>exact lt ho
 | cK l k=>exact lt ho
 | wrap f i=>exact lt ho
 | cell v=>cases v with
  | none=>rfl
  | some v=>exact V.cC h ho
 | ns l=>exact aaZ.mpr fun i hi=>V.cC h (aaZ.mp ho i hi)
 | _=>rfl
theorem kn(h:n<=m){σ:List AO}(hs:σ.all (AO.under n)=true):σ.all (AO.under m)=true:=aaZ.mpr fun o ho=>AO.cC h (aaZ.mp hs o ho)
theorem ko(h:n<=m){l:List (Str×V)}(hs:l.all (fun x=>x.2.under n)=true):l.all (fun x=>x.2.under m)=true:=aaZ.mpr fun o ho=>V.cC h (aaZ.mp hs o ho)
theorem oI(hv:v.under n=true):∀ {l:List (Str×V)},l.all (fun x=>x.2.under n)=true->(put l y v).all (fun x=>x.2.under n)=true:=by
 intro l;induction l with
 | nil=>intro _;exact(aea _).trans hv
 | cons p r ih=>
  intro h;simp only[acP,abD]at h;show List.all (cond (Fast.sEq p.1 y) _ _) _=true;cases Fast.sEq p.1 y with
  | true=>exact acA.mpr ⟨hv,h.2⟩
  | false=>exact acA.mpr ⟨h.1,ih h.2⟩
theorem AS{α:Type}(n:Nat)(x:α):acM n x++ [x]=acM (n+1) x:=by simp only[List.replicate_succ']
abbrev IW(E:Expr)(x:Str):Prop:=E= .ListComp (bH E) [⟨.Name x (aw (dT E).target),.Call (.Name (s "range") (aw (hG (dT E).iter))) [az 0 (dT E).iter] [] (aw (dT E).iter),[],0⟩] (cb E) (aw E)
variable{e:Fm}
theorem IX(hx:Cx e)(hE:IW E x)(tB:b7 (cb E) e.scope x=true)(lr:isStar (az 0 (dT E).iter)=false)(hr:∀c K F,cM e.w.params e.scope (s "range") c K F=K (.glob (.type "range")) c)(h3:∀c K,ew e e.w.params e.scope 40 (az 0 (dT E).iter) c K=K (.pv (.int 3)) c) (C4:look l x=none)(jg:look l (s ".0")=none)(hb:σ.all (AO.under σ.length)=true)(hl:l.all (fun x=>x.2.under σ.length)=true)(hX:X.under 0=true) (leaf:∀e':Fm,Cx e'->e'.w=e.w->e'.k=e.k->e'.scope=kC (cb E) e.scope->∀(c:St) (Q:V->St->Prop),c.aj.all (AO.under c.aj.length)=true->c.loc.all (fun x=>x.2.under c.aj.length)=true->Q (.ref c.aj.length) ⟨c.loc,c.aj++ [X]⟩->Wp e' VR (eval (bH E) e'.env) c Q) (h:Q (.ref σ.length) ⟨l,σ++ [.refs [σ.length+2,σ.length+3,σ.length+4],.ns [],X,X,X]⟩):Wp e VR (eval E e.env) ⟨l,σ⟩ Q:=by
 rw[hE];refine pM hx tB (fun Z=>rfl) C4 jg (.refs []) (.inr rfl)
  (fun a k σ'=>a=σ.length/\k<=3/\∃ln,σ'=σ++(.refs ((acj k).map fun j=>σ.length+2+j):: .ns ln::acM k X)) (fun a k σ' hI=> ?_)
  (cy hx (n:=3) (lx [] [] 104857992456) (dm hx (by show(!isStar _&&true)=true;refine lr ▸ ?_;rfl) (cu hx False.elim (of_eq (hr _ _ _) ⟨_,rfl,rfl,aS (aE lr _ _) (aB hx rfl (h3 _ _) (aN (fV ⟨rfl,⟨rfl,aci _,[],by simp⟩,trivial⟩)))⟩)))) (fun Z Z Z z=>z) (fun e2 i9 rL iV kG a j u σ' hu hI Z=> ?_) (fun a σ' hI=> ?_)
 ·obtain⟨rfl,_,ln,rfl⟩:=hI;exact⟨ln,by rw[abF (ab2 _ _)];simp⟩
 ·obtain⟨rfl,_,ln,rfl⟩:=hI;have hj:j<3:=by
   simpa using ((aab.mp hu).1)
  have AU:u= .pv (.int j):=by simp only[aa0,abh]at hu;obtain⟨j',nc,rfl⟩:=hu;replace nc:=(acz hj) ▸ nc;exact(aah.inj nc) ▸ rfl
  obtain rfl:=AU.symm;have e1:(σ++(AO.refs ((acj j).map fun j=>σ.length+2+j):: .ns ln::acM j X)).set (σ.length+1) (.ns [(x,.pv (.int j))])=σ++(.refs ((acj j).map fun j=>σ.length+2+j):: .ns [(x,.pv (.int j))]::acM j X):=by rw[acG _ _ (ab2 _ _)];simp
  rw[e1];obtain⟨S,hS⟩:∃S,S=σ++(AO.refs ((acj j).map fun j=>σ.length+2+j):: .ns [(x,V.pv (.int j))]::acM j X):=⟨_,rfl⟩;have El:S.length=σ.length+2+j:=by refine hS ▸ ?_;simp;exact aac (ba 7891863652075784) (ba 0xbb199091c09908)
  have hSu:S.all (AO.under S.length)=true:=by rw[El,hS,adf,kn (by lia) hb,adN,acP,acP,abD,abD];refine⟨?_,rfl,aaZ.mpr fun o ho=>by exact(List.eq_of_mem_replicate ho) ▸ AO.cC (aci _) hX⟩;show(List.all _ fun i=>decide (i<σ.length+2+j))=true;rw[aeh];exact aaZ.mpr fun i hi=>decide_eq_true (by have:=acB.mp hi;dsimp only;exact bj 0x1c299b0c29991b09918 this)
  have hg:S[σ.length]? =some (.refs ((acj j).map fun j=>σ.length+2+j)):=by refine hS ▸ ?_;simp
  refine hS ▸ (leaf e2 i9 rL iV kG ⟨put l x (.ref (σ.length+1)),S⟩ _ hSu (oI (show V.under S.length (.ref (σ.length+1))=true from decide_eq_true (bj 0x2bb09921c099918 (bl El))) (ko (by exact El ▸ ba 470388744) hl)) ?_);refine kh (xs:=(acj j).map fun j=>σ.length+2+j) ?_ (by simp;exact bY 0x186a05fb09db09918 hj) ⟨rfl,⟨rfl,hj,[(x,.pv (.int j))],?_⟩,trivial⟩
  ·show(S++ [X])[σ.length]? =_;rw[aaY (by lia)];exact hg
  ·show(S++ [X]).set σ.length _=_;rw[adK _ _ (by lia),El,hS,acG _ _ (abE _),<-AS,adq];simp
 ·obtain⟨rfl,_,ln,rfl⟩:=hI;have e1:(σ++(AO.refs ((acj (iZ 3).length).map fun j=>σ.length+2+j):: .ns ln::acM (iZ 3).length X)).set (σ.length+1) (.ns [])=σ++ [.refs [σ.length+2,σ.length+3,σ.length+4],.ns [],X,X,X]:=by
   refine(acG _ _ (ab2 _ _)) ▸ ?_;rw[(show σ.length+1-σ.length=1 from aac (ba 0xb0b19109918 (cA (ab2 _ _))) (ba 1855856875800 eH))];rfl
  exact e1 ▸ h
noncomputable abbrev js(X:AO)(m:Nat):List AO:= [.refs [m+2,m+3,m+4],.ns [],X,X,X]
theorem vN(hx:Cx e)(hE:IW E x)(wC:IW (bH E) y)(VV:Fast.sEq x y=false)(RC:Fast.sEq x (s ".0")=false)(tB:b7 (cb E) e.scope x=true)(abj:b7 (cb (bH E)) (kC (cb E) e.scope) y=true)(lr:isStar (az 0 (dT E).iter)=false)(abk:isStar (az 0 (dT (bH E)).iter)=false) (hr:∀c K F,cM e.w.params e.scope (s "range") c K F=K (.glob (.type "range")) c)(FA:∀c K F,cM e.w.params (kC (cb E) e.scope) (s "range") c K F=K (.glob (.type "range")) c) (h3:∀e' P sc c K,ew e' P sc 40 (az 0 (dT E).iter) c K=K (.pv (.int 3)) c)(h32:∀e' P sc c K,ew e' P sc 40 (az 0 (dT (bH E)).iter) c K=K (.pv (.int 3)) c) (C4:look l x=none)(hly:look l y=none)(jg:look l (s ".0")=none)(hb:σ.all (AO.under σ.length)=true)(hl:l.all (fun x=>x.2.under σ.length)=true)(hX:X.under 0=true) (leaf:∀e':Fm,Cx e'->e'.w=e.w->e'.k=e.k->e'.scope=kC (cb (bH E)) (kC (cb E) e.scope)->∀(c:St) (Q:V->St->Prop),c.aj.all (AO.under c.aj.length)=true->c.loc.all (fun x=>x.2.under c.aj.length)=true->Q (.ref c.aj.length) ⟨c.loc,c.aj++ [X]⟩->Wp e' VR (eval (bH (bH E)) e'.env) c Q) (h:Q (.ref σ.length) ⟨l,σ++([.refs [σ.length+2,σ.length+7,σ.length+12],.ns []]++js X (σ.length+2)++js X (σ.length+7)++js X (σ.length+12))⟩):Wp e VR (eval E e.env) ⟨l,σ⟩ Q:=by
 have vO:∀(l:List (Str×V)) (z:Str) (v:V),Fast.sEq x z=false->look l z=none->look (put l x v) z=none:=fun l z v hz h=>by rw[fz,if_neg (fun q=>gu (hz.symm.trans (Fast.sEq_iff.mpr q.symm)))];exact h
 obtain⟨rows,FP⟩:∃rows:Nat->List AO,rows=fun k=>((acj k).map fun j=>js X (σ.length+2+5*j)).flatten:=⟨_,rfl⟩;have r0:rows 0= []:=by refine FP ▸ ?_;rfl
 have rs:∀k,rows (k+1)=rows k++js X (σ.length+2+5*k):=fun k=>by simp only[FP];simp only[adq,acq,List.flatten_append,acu,aeK,adE,List.flatten_nil,ab5]
 have rl:∀k,(rows k).length=5*k:=fun k=>by
  induction k with
  | zero=>refine r0 ▸ ?_;rfl
  | succ k ih=>simp only[rs,aag,ih];show 5*k+5=_;exact rfl
 have ru:∀k,(rows k).all (AO.under (σ.length+2+5*k))=true:=fun k=>by
  induction k with
  | zero=>refine r0 ▸ ?_;rfl
  | succ k ih=>
   rw[rs,adf,kn (by lia) ih,adN];have d1:∀i,i<5->decide (σ.length+2+5*k+i<σ.length+2+5*(k+1))=true:=fun i hi=>decide_eq_true (bj 0xb2905ffc199b0205ffc1999951fb09918 hi);have a1:(AO.refs [σ.length+2+5*k+2,σ.length+2+5*k+3,σ.length+2+5*k+4]).under (σ.length+2+5*(k+1))=true:=by show(decide (σ.length+2+5*k+2<σ.length+2+5*(k+1))&&(decide (σ.length+2+5*k+3<σ.length+2+5*(k+1))&&(decide (σ.length+2+5*k+4<σ.length+2+5*(k+1))&&true)))=true;simp only[d1 2 (lx [] [] 1375455496),d1 3 (lx [] [] 1375459592),d1 4 (lx [] [] 1375463688)];rfl
   show(AO.under _ (.refs _)&&(AO.under _ (.ns [])&&(AO.under _ X&&(AO.under _ X&&(AO.under _ X&&true)))))=true;rw[a1,(AO.cC (aci _) hX)];rfl
 rw[hE];refine pM hx tB (fun Z=>rfl) C4 jg (.refs []) (.inr rfl)
  (fun a k σ'=>a=σ.length/\k<=3/\∃ln,σ'=σ++(.refs ((acj k).map fun j=>σ.length+2+5*j):: .ns ln::rows k)) (fun a k σ' hI=> ?_)
  (cy hx (n:=3) (lx [] [] 104857992456) (dm hx (by show(!isStar _&&true)=true;refine lr ▸ ?_;rfl) (cu hx False.elim (of_eq (hr _ _ _) ⟨_,rfl,rfl,aS (aE lr _ _) (aB hx rfl (h3 _ _ _ _ _) (aN (fV ⟨rfl,⟨rfl,aci _,[],by rw[r0];simp⟩,trivial⟩)))⟩)))) (fun Z Z Z z=>z) (fun e2 i9 rL iV kG a j u σ' hu hI Z=> ?_) (fun a σ' hI=> ?_)
 ·obtain⟨rfl,_,ln,rfl⟩:=hI;exact⟨ln,by rw[abF (ab2 _ _)];simp⟩
 ·obtain⟨rfl,_,ln,rfl⟩:=hI;have hj:j<3:=by
   simpa using ((aab.mp hu).1)
  have AU:u= .pv (.int j):=by simp only[aa0,abh]at hu;obtain⟨j',nc,rfl⟩:=hu;replace nc:=(acz hj) ▸ nc;exact(aah.inj nc) ▸ rfl
  obtain rfl:=AU.symm;have e1:(σ++(AO.refs ((acj j).map fun j=>σ.length+2+5*j):: .ns ln::rows j)).set (σ.length+1) (.ns [(x,.pv (.int j))])=σ++(.refs ((acj j).map fun j=>σ.length+2+5*j):: .ns [(x,.pv (.int j))]::rows j):=by rw[acG _ _ (ab2 _ _)];simp
  rw[e1];obtain⟨S,hS⟩:∃S,S=σ++(AO.refs ((acj j).map fun j=>σ.length+2+5*j):: .ns [(x,V.pv (.int j))]::rows j):=⟨_,rfl⟩;have El:S.length=σ.length+2+5*j:=by refine hS ▸ ?_;simp[rl];exact aac (ba 7891863652075784) (ba 0xbb199091c09908)
  have hSu:S.all (AO.under S.length)=true:=by rw[El,hS,adf,kn (by lia) hb,adN,acP,acP,abD,abD];refine⟨?_,rfl,ru j⟩;show(List.all _ fun i=>decide (i<σ.length+2+5*j))=true;rw[aeh];exact aaZ.mpr fun i hi=>decide_eq_true (by have:=acB.mp hi;dsimp only;exact bj 0x105ffc299b005ffc29991b09d18 this)
  have hg:S[σ.length]? =some (.refs ((acj j).map fun j=>σ.length+2+5*j)):=by refine hS ▸ ?_;simp
  refine hS ▸ (IX i9 wC (by exact kG ▸ abj) abk (by exact kG ▸ rL ▸ FA) (h32 _ _ _) (vO _ _ _ VV hly) (vO _ _ _ RC jg) hSu (oI (show V.under S.length (.ref (σ.length+1))=true from decide_eq_true (bj 0x2bb09921c099918 (bl El))) (ko (by exact El ▸ ba 470388744) hl)) hX (fun e3 Hh hw3 Kr RD=>leaf e3 Hh (hw3.trans rL) (Kr.trans iV) (by simp only[RD,kG])) ?_);refine kh (xs:=(acj j).map fun j=>σ.length+2+5*j) ?_ (by simp;exact bY 0x186a05fb09db09918 hj) ⟨rfl,⟨rfl,hj,[(x,.pv (.int j))],?_⟩,trivial⟩
  ·rw[aaY (by lia)];exact hg
  ·show(S++js X S.length).set σ.length _=_;rw[adK _ _ (by lia),El,hS,acG _ _ (abE _),rs,adq];simp
 ·obtain⟨rfl,_,ln,rfl⟩:=hI;have e1:(σ++(AO.refs ((acj (iZ 3).length).map fun j=>σ.length+2+5*j):: .ns ln::rows (iZ 3).length)).set (σ.length+1) (.ns [])=σ++([.refs [σ.length+2,σ.length+7,σ.length+12],.ns []]++js X (σ.length+2)++js X (σ.length+7)++js X (σ.length+12)):=by
   refine(acG _ _ (ab2 _ _)) ▸ ?_;rw[(show σ.length+1-σ.length=1 from aac (ba 0xb0b19109918 (cA (ab2 _ _))) (ba 1855856875800 eH))];have h3:(iZ 3).length=3:=rfl;simp only[h3,rs,rs,rs,r0];rfl
  exact e1 ▸ h
end
def nN(n:Nat):Expr->Pos
 | .Dict l _ _=>match l[n]? with
  | some (some k)=>yD k
  | _=>⟨0,0,0,0⟩
 | _=>⟨0,0,0,0⟩
abbrev l4:Stmt:=at_ kY 4
abbrev wV(n:Nat):Expr:=Vp n (ak l4)
abbrev wP:List (Str×Pos×Expr):= [(s "words",nN 0 (ak l4),wV 0),(s "sorter",nN 1 (ak l4),wV 1),(s "lines",nN 2 (ak l4),wV 2),(s "came",nN 3 (ak l4),wV 3),(s "heaps",nN 4 (ak l4),wV 4),(s "ahead",nN 5 (ak l4),wV 5),(s "out",nN 6 (ak l4),wV 6),(s "clock",nN 7 (ak l4),wV 7),(s "told",nN 8 (ak l4),wV 8),(s "mails",nN 9 (ak l4),wV 9)]
theorem abl:wV 0= .Call (.Name (s "_netrclex") (aw (hG (wV 0)))) [.Attribute (.Call (.Name (s "shlex") (aw (hG (aR (az 0 (wV 0)))))) [az 0 (aR (az 0 (wV 0)))] [] (aw (aR (az 0 (wV 0))))) (s "instream") (aw (az 0 (wV 0)))] [] (aw (wV 0)):=by kernel_rfl
theorem abm:wV 1= .Call (.Name (s "TopologicalSorter") (aw (hG (wV 1)))) [] [] (aw (wV 1)):=by kernel_rfl
theorem RE:IW (wV 2) (s "p")/\IW (bH (wV 2)) (s "q"):=⟨by kernel_rfl,by kernel_rfl⟩
theorem RF:IW (wV 3) (s "p")/\IW (bH (wV 3)) (s "q"):=⟨by kernel_rfl,by kernel_rfl⟩
abbrev B0:Expr:=bH (bH (wV 2))
theorem RG:B0= .Call (.Name (s "_netrclex") (aw (hG B0))) [.Attribute (.Call (.Name (s "shlex") (aw (hG (aR (az 0 B0))))) [az 0 (aR (az 0 B0))] [] (aw (aR (az 0 B0)))) (s "instream") (aw (az 0 B0))] [] (aw B0):=by kernel_rfl
theorem RH:bH (bH (wV 3))= .List [] (yD (bH (bH (wV 3)))):=by kernel_rfl
abbrev sc2:Scope:=kC (cb (wV 2)) aK
abbrev U0:Scope:=kC (cb (bH (wV 2))) sc2
abbrev sd2:Scope:=kC (cb (wV 3)) aK
section
variable(P:Params)(e:Fm)(K:V->St->Prop)
theorem abo(c:St):cM P aK (s "_netrclex") c K False=K (.glob (.ref 77)) c:=by kernel_rfl
theorem abp(c:St):cM P aK (s "shlex") c K False=K (.glob (.ref 912)) c:=by kernel_rfl
theorem abq(c:St):cM P aK (s "TopologicalSorter") c K False=K (.glob (.ref 197)) c:=by kernel_rfl
theorem abr(c:St):cM P U0 (s "_netrclex") c K False=K (.glob (.ref 77)) c:=by kernel_rfl
theorem abt(c:St):cM P U0 (s "shlex") c K False=K (.glob (.ref 912)) c:=by kernel_rfl
theorem abu(c:St)(F:Prop):cM P sc2 (s "range") c K F=K (.glob (.type "range")) c:=by kernel_rfl
theorem abv(c:St)(F:Prop):cM P sd2 (s "range") c K F=K (.glob (.type "range")) c:=by kernel_rfl
theorem abw(c:St):ew e P U0 40 (az 0 (aR (az 0 B0))) c K=K (.pv (.str [])) c:=by kernel_rfl
theorem abx(sc:Scope)(c:St):ew e P sc 40 (az 0 (dT (wV 2)).iter) c K=K (.pv (.int 3)) c:=by kernel_rfl
theorem aby(sc:Scope)(c:St):ew e P sc 40 (az 0 (dT (bH (wV 2))).iter) c K=K (.pv (.int 3)) c:=by kernel_rfl
theorem abz(sc:Scope)(c:St):ew e P sc 40 (az 0 (dT (wV 3)).iter) c K=K (.pv (.int 3)) c:=by kernel_rfl
theorem abA(sc:Scope)(c:St):ew e P sc 40 (az 0 (dT (bH (wV 3))).iter) c K=K (.pv (.int 3)) c:=by kernel_rfl
theorem RI:b7 (cb (wV 2)) aK (s "p")=true/\b7 (cb (bH (wV 2))) sc2 (s "q")=true/\b7 (cb (wV 3)) aK (s "p")=true/\b7 (cb (bH (wV 3))) sd2 (s "q")=true/\isStar (az 0 (dT (wV 2)).iter)=false/\isStar (az 0 (dT (bH (wV 2))).iter)=false/\isStar (az 0 (dT (wV 3)).iter)=false/\isStar (az 0 (dT (bH (wV 3))).iter)=false/\look aK.names (s "world")=some .local/\isStar (az 0 (aR (az 0 (wV 0))))=false/\isStar (az 0 (aR (az 0 B0)))=false:=by and_intros<;>kernel_rfl
abbrev sS(D:Addr)(t:List Nat):List (Str×V):= [(s "script",.glob (.ref D)),(s "draws",.ref 0),(s "words",.ref 1),(s "numbers",.ref 5),(s "text",.pv (.str t))]
theorem abB(D:Addr)(t:List Nat)(σ:List AO):ew e P aK 40 (az 0 (aR (az 0 (wV 0)))) ⟨sS D t,σ⟩ K=K (.pv (.str t)) ⟨sS D t,σ⟩:=by kernel_rfl
end
noncomputable abbrev wE:AO:=.vals .int []
abbrev i5(t:List Nat):AO:=.box (b4 1 t 0 [] [])
abbrev RJ(sc:List Int)(t:List Nat):List AO:=lT sc++ [i5 t,.box (bR (.pv .none) 0 0 0 [] [])]++([.refs [18,23,28],.ns []]++js (i5 []) 18++js (i5 []) 23++js (i5 []) 28)++([.refs [35,40,45],.ns []]++js wE 35++js wE 40++js wE 45)
abbrev FQ(sc:List Int)(t:List Nat):List AO:=RJ sc t++ [wE,wE,wE,.refs [50,51,52],wE,wE,wE,.refs [54,55,56],wE,wE,wE,.refs [58,59,60],.vals .int [0,0,0],wE,wE]
abbrev xo:List (Str×V):= [(s "words",.ref 14),(s "sorter",.ref 15),(s "lines",.ref 16),(s "came",.ref 33),(s "heaps",.ref 53),(s "ahead",.ref 57),(s "out",.ref 61),(s "clock",.ref 62),(s "told",.ref 63),(s "mails",.ref 64)]
noncomputable abbrev t3(σ:List AO):List AO:=σ++ [wE]++ [wE]++ [wE]++ [.refs [σ.length,(σ++ [wE]).length,(σ++ [wE]++ [wE]).length]]
section
variable(P:Params)(e:Fm)(K:V->St->Prop)
end
abbrev w0(t:List Nat):Wd:={words:=⟨1,t,0,[]⟩,gh:=bR (.pv .none) 0 0 0 [] [],lines:=fun Z Z=>⟨1,[],0,[]⟩,aY:=fun Z Z=> [],aC:=fun Z=> [],ahead:=fun Z=> [],out:=fun Z=> [],aP:=fun Z=>0,told:= [],ae:= []}
noncomputable abbrev bV(p:Option V)(sc:List Int):List AO:= [.cell (some (.ref 3)),.cell (some (.ref 4)),.cell p,.vals .int (drawsOf sc),.vals .str (wordsOf sc),.vals .int (numsOf sc)]
abbrev sT(D:Addr)(t:List Nat):List (Str×V):= [(s "script",.glob (.ref D)),(s "draws",.ref 0),(s "words",.ref 1),(s "p",.ref 2),(s "numbers",.ref 5),(s "text",.pv (.str t)),(s "world",.ref 6)]
noncomputable abbrev uj(j:Nat):Nat:=6+j
theorem nM.start (p:Option V)(sc:List Int)(w:Wd):nM 6 (bV p sc++w.aj.map (AO.bQ uj)) uj w:=by
 refine⟨fun i j Z Z h=>by unfold uj at h;exact aac (ba 72446791192123672 (bh h)) (ba 72446791192123672 (bl h)),fun j Z=>by unfold uj;exact ab2 _ _,fun j o h=> ?_⟩;have:(bV p sc++w.aj.map (AO.bQ uj))[6+j]? =(w.aj.map (AO.bQ uj))[j]? :=by rw[abF (by show 6<=6+j;exact ab2 _ _)];congr 1;show 6+j-6=j;exact aac (ba 72446792732547352 (cA (ab2 _ _))) (ba 73780636235569432 eH)
 simp only[this,aa0,h];rfl
noncomputable abbrev RK:List Nat:= [0,1,2,9,10,5,65,14,15,16,18,23,28,20,21,22,25,26,27,30,31,32,33,35,40,45,37,38,39,42,43,44,47,48,49,53,50,51,52,57,54,55,56,61,58,59,60,62,63,64]
abbrev g66(sc:List Int)(t:List Nat):List AO:=FQ sc t++ [.dict xo]
abbrev wR(sc:List Int)(t:List Nat):List AO:= [.cell (some (.ref 9)),.cell (some (.ref 10)),.cell none,.vals .int (drawsOf sc),.vals .str (wordsOf sc),.vals .int (numsOf sc),.dict xo,i5 t,.box (bR (.pv .none) 0 0 0 [] []),.refs [18,23,28],.refs [20,21,22],.refs [25,26,27],.refs [30,31,32],
 i5 [],i5 [],i5 [],i5 [],i5 [],i5 [],i5 [],i5 [],i5 [],.refs [35,40,45],.refs [37,38,39],.refs [42,43,44],.refs [47,48,49],wE,wE,wE,wE,wE,wE,wE,wE,wE,.refs [50,51,52],wE,wE,wE,.refs [54,55,56],wE,wE,wE,.refs [58,59,60],wE,wE,wE,.vals .int [0,0,0],wE,wE]
theorem IY(sc:List Int)(t:List Nat):RK.map (fun i=>(g66 sc t)[i]?)=(wR sc t).map some:=by kernel_rfl
theorem IZ(sc:List Int)(t:List Nat):(bV none sc++(w0 t).aj.map (AO.bQ uj)).map (AO.bQ (eJ RK 66))= [.cell (some (.ref 9)),.cell (some (.ref 10)),.cell none,.vals .int (drawsOf sc),.vals .str (wordsOf sc),.vals .int (numsOf sc),.dict xo,i5 t,.box (bR (.pv .none) 0 0 0 [] []),.refs [18,23,28],.refs [20,21,22],.refs [25,26,27],.refs [30,31,32],i5 [],i5 [],i5 [],i5 [],i5 [],i5 [],i5 [],i5 [],i5 [],.refs [35,40,45],.refs [37,38,39],.refs [42,43,44],.refs [47,48,49],.vals .tup [],.vals .tup [],.vals .tup [],.vals .tup [],.vals .tup [],.vals .tup [],.vals .tup [],.vals .tup [],.vals .tup [],.refs [50,51,52],.vals .tup [],.vals .tup [],.vals .tup [],.refs [54,55,56],wE,wE,wE,.refs [58,59,60],.vals .tup [],.vals .tup [],.vals .tup [],.vals .int [0,0,0],.vals .str [],.vals .tup []]:=by kernel_rfl
theorem I0:RK.Nodup:=by decide +kernel
theorem AV:pY o o:=.inl rfl
theorem I1:pY wE (.vals k []):=.inr ⟨⟨_,rfl⟩,.inl ⟨_,rfl⟩⟩
theorem Em(sc:List Int)(t:List Nat):aM pY (wR sc t) ((bV none sc++(w0 t).aj.map (AO.bQ uj)).map (AO.bQ (eJ RK 66))):=by
 rw[IZ]
 repeat (first | exact .nil | refine .cons AV ?_ | refine .cons I1 ?_)
theorem oJ{f:V->V}:l.map (fun p=>look L p.1)=l.map (fun p=>some (f p.2))->∀ {x v},look l x=some v->look L x=some (f v):=by
 induction l with
 | nil=>exact fun Z Z Z h=>aZ h
 | cons p r ih=>
  intro e x v h;have e:=List.cons.inj e;have h:(match Fast.sEq p.1 x with | true=>some p.2 | false=>look r x)=some v:=h;cases q:Fast.sEq p.1 x with
  | true=>rw[q]at h;rw[<-Fast.sEq_iff.mp q,show look L p.1=some (f p.2) from e.1,aah.inj h]
  | false=>rw[q]at h;exact ih e.2 h
theorem En(h:eA e (execs rest e.env) ⟨sT D t,bV none sc++(w0 t).aj.map (AO.bQ uj)⟩ Q):eA e (execs rest e.env) ⟨sS D t++ [(s "p",.ref 2)]++ [(s "world",.ref 65)],g66 sc t⟩ Q:=by
 have hl:(g66 sc t).length=66:=by kernel_rfl
 refine eA.sub RK I0 (by kernel_rfl) (fun j o i h1 h2=> ?_) (fun x v hx=> ?_) h
 ·refine hl ▸ ?_;have g1:=congrArg (fun l:List (Option AO)=>l[j]?) (IY sc t);simp only[aa0,h2,acY]at g1;cases g2:(wR sc t)[j]? with
  | none=>simp only[g2]at g1;exact KV g1
  | some o'=>simp only[g2]at g1;simp only[acY,aah.injEq]at g1;refine ah ((Em sc t).get g2) fun o2 k1 k2=> ?_;replace k1:=h1 ▸ (aa0) ▸ k1;exact(aah.inj k1) ▸ ⟨o',g1,k2⟩
 ·refine hl ▸ (oJ (by kernel_rfl) hx)
section
theorem AW(sc:List Int):(lT sc).all (AO.under (lT sc).length)=true:=by kernel_rfl
abbrev Ks(sc:List Int)(t:List Nat):List AO:=lT sc++ [i5 t]
abbrev yn(sc:List Int)(t:List Nat):List AO:=lT sc++ [i5 t,.box (bR (.pv .none) 0 0 0 [] [])]
abbrev yp(sc:List Int)(t:List Nat):List AO:=yn sc t++([.refs [18,23,28],.ns []]++js (i5 []) 18++js (i5 []) 23++js (i5 []) 28)
theorem RL(sc:List Int)(t:List Nat):Ks sc t++ [.box (bR (.pv .none) 0 0 0 [] [])]=yn sc t/\(lT sc).length=14/\(Ks sc t).length=15/\(yn sc t).length=16/\(yp sc t).length=33/\(RJ sc t).length=50/\ yn sc t++([.refs [(yn sc t).length+2,(yn sc t).length+7,(yn sc t).length+12],.ns []]++js (i5 []) ((yn sc t).length+2)++js (i5 []) ((yn sc t).length+7)++js (i5 []) ((yn sc t).length+12))=yp sc t/\ yp sc t++([.refs [(yp sc t).length+2,(yp sc t).length+7,(yp sc t).length+12],.ns []]++js wE ((yp sc t).length+2)++js wE ((yp sc t).length+7)++js wE ((yp sc t).length+12))=RJ sc t:=by and_intros<;>kernel_rfl
theorem Eo(sc:List Int)(t:List Nat):(Ks sc t).all (AO.under (Ks sc t).length)=true/\(yn sc t).all (AO.under (yn sc t).length)=true/\(yp sc t).all (AO.under (yp sc t).length)=true:=by and_intros<;>kernel_rfl
theorem RM(vs:List Value)(h:vs.length=wP.length):merged [] ((wP.map (·.1)).zip vs)=(wP.map (·.1)).zip vs:=by have h:vs.length=9+1:=h;refine cps fun Z zk=>dy (j5 h) fun a0 t0 e0 h=> ?_;refine dy (j5 h) fun a1 t1 e1 h=>dy (j5 h) fun a2 t2 e2 h=> ?_;refine dy (j5 h) fun a3 t3 e3 h=>dy (j5 h) fun a4 t4 e4 h=> ?_;refine dy (j5 h) fun a5 t5 e5 h=>dy (j5 h) fun a6 t6 e6 h=> ?_;refine dy (j5 h) fun a7 t7 e7 h=>dy (j5 h) fun a8 t8 e8 h=> ?_;refine dy (j5 h) fun a9 t9 e9 h=> ?_;have e:=acT h;subst e;subst e9;subst e8;subst e7;subst e6;subst e5;subst e4;subst e3;subst e2;subst e1;subst e0;refine zk ?_;kernel_rfl
def h50(sc:List Int)(t:List Nat):List AO:=RJ sc t
def h54(sc:List Int)(t:List Nat):List AO:=h50 sc t++ [wE,wE,wE,.refs [50,51,52]]
def h58(sc:List Int)(t:List Nat):List AO:=h54 sc t++ [wE,wE,wE,.refs [54,55,56]]
def h62(sc:List Int)(t:List Nat):List AO:=h58 sc t++ [wE,wE,wE,.refs [58,59,60]]
def h63(sc:List Int)(t:List Nat):List AO:=h62 sc t++ [.vals .int [0,0,0]]
def RN(sc:List Int)(t:List Nat):List AO:=h63 sc t++ [wE]
def h65(sc:List Int)(t:List Nat):List AO:=RN sc t++ [wE]
section
variable(P:Params)(e:Fm)(K:V->St->Prop)
theorem abI(l:List (Str×V))(sc:List Int)(t:List Nat):ew e P aK 40 (wV 4) ⟨l,h50 sc t⟩ K=(([]:List V).length<=100000/\([]:List V).length<=100000/\([]:List V).length<=100000/\ [V.ref 50,.ref 51,.ref 52].length<=100000/\K (.ref 53) ⟨l,h54 sc t⟩):=by kernel_rfl
theorem abJ(l:List (Str×V))(sc:List Int)(t:List Nat):ew e P aK 40 (wV 5) ⟨l,h54 sc t⟩ K=(([]:List V).length<=100000/\([]:List V).length<=100000/\([]:List V).length<=100000/\ [V.ref 54,.ref 55,.ref 56].length<=100000/\K (.ref 57) ⟨l,h58 sc t⟩):=by kernel_rfl
theorem abK(l:List (Str×V))(sc:List Int)(t:List Nat):ew e P aK 40 (wV 6) ⟨l,h58 sc t⟩ K=(([]:List V).length<=100000/\([]:List V).length<=100000/\([]:List V).length<=100000/\ [V.ref 58,.ref 59,.ref 60].length<=100000/\K (.ref 61) ⟨l,h62 sc t⟩):=by kernel_rfl
theorem abL(l:List (Str×V))(sc:List Int)(t:List Nat):ew e P aK 40 (wV 7) ⟨l,h62 sc t⟩ K=([V.pv (.int 0),.pv (.int 0),.pv (.int 0)].length<=100000/\K (.ref 62) ⟨l,h63 sc t⟩):=by kernel_rfl
theorem abM(l:List (Str×V))(sc:List Int)(t:List Nat):ew e P aK 40 (wV 8) ⟨l,h63 sc t⟩ K=(([]:List V).length<=100000/\K (.ref 63) ⟨l,RN sc t⟩):=by kernel_rfl
theorem abN(l:List (Str×V))(sc:List Int)(t:List Nat):ew e P aK 40 (wV 9) ⟨l,RN sc t⟩ K=(([]:List V).length<=100000/\K (.ref 64) ⟨l,h65 sc t⟩):=by kernel_rfl
theorem FR(sc:List Int)(t:List Nat):RJ sc t=h50 sc t/\h65 sc t=FQ sc t:=⟨by kernel_rfl,by kernel_rfl⟩
end
def vP:Expr:=.Dict (wP.map fun p=>some (.Constant (.str p.1) 0 p.2.1)) (wP.map fun p=>p.2.2) (yD (ak l4))
theorem RO:l4= .Assign [.Name (s "world") (aw (i6 0 l4))] vP (bZ l4):=by kernel_rfl
theorem Ep:iB vP=false:=by kernel_rfl
variable{e:Fm}
theorem uk(hx:Cx e)(hs:e.scope=aK)(hk:e.k=k+5)(h:Q xo ⟨sS D t,FQ sc t⟩):AQ e wP ⟨sS D t,lT sc⟩ Q:=by
 refine cps fun Z zk=> ?_;obtain⟨d1,d2,d3,d4,d5,d6,d7,d8,d9,d10,d11⟩:=RI;refine Va (RL sc t) fun q1 q2 q3 q4 q5 q6 q7 q8=>bL (Eo sc t) fun u1 u2 u3=> ?_;refine zk ?_;have lu:∀n,6<=n->(sS D t).all (fun x=>x.2.under n)=true:=fun n hn=>ko hn (by kernel_rfl);show Wp e VR (eval (wV 0) e.env) ⟨sS D t,lT sc⟩ _;refine abl ▸ ?_;refine vK hx hk d10 (fun c K=>by exact hs ▸ abo _ K c) (fun c K=>by exact hs ▸ abp _ K c) (fun Q hQ=>aB hx hs (abB _ e Q D t (lT sc)) hQ) (AW sc) (lu _ (by rw[q2];exact lx [] [] 3791003400)) ?_;show Wp e VR (eval (wV 1) e.env) ⟨sS D t,Ks sc t⟩ _;refine abm ▸ (AM (k:=k+3) hx (aac (ba 0xcd199051f190918 (bh hk)) (ba 0x1cd099151f09918 (bl hk))) (fun c K=>by exact hs ▸ abq _ K c) u1 (lu _ (by rw[q3];exact lx [] [] 4059438856)) ?_);show Wp e VR (eval (wV 2) e.env) ⟨sS D t,Ks sc t++ [.box (bR (.pv .none) 0 0 0 [] [])]⟩ _;simp only[q1];refine vN (X:=i5 []) hx RE.1 RE.2 (by kernel_rfl) (by kernel_rfl) (hs ▸ d1) (hs ▸ d2) d5 d6 (fun c K F=>by rw[hs];exact xm _ _ c F) (fun c K F=>by exact hs ▸ abu _ K c F) (fun e' P sc c K=>abx P e' K sc c) (fun e' P sc c K=>aby P e' K sc c) (by kernel_rfl) (by kernel_rfl) (by kernel_rfl) u2 (lu _ (by rw[q4];exact lx [] [] 4344651528)) rfl (fun e2 i9 rL iV kG c Q hb hl hQ=> ?_) ?_
 ·have RD:e2.scope=U0:=by rw[kG,hs]
  show Wp e2 VR (eval B0 e2.env) c Q;exact RG ▸ vK i9 (by rw[iV];exact hk) d11 (fun c K=>by exact RD ▸ abr _ K c) (fun c K=>by exact RD ▸ abt _ K c) (fun Q hQ=>aB i9 RD (abw _ e2 Q c) hQ) hb hl hQ
 simp only[q7];show Wp e VR (eval (wV 3) e.env) ⟨sS D t,yp sc t⟩ _;refine vN (X:=wE) hx RF.1 RF.2 (by kernel_rfl) (by kernel_rfl) (hs ▸ d3) (hs ▸ d4) d7 d8 (fun c K F=>by rw[hs];exact xm _ _ c F) (fun c K F=>by exact hs ▸ abv _ K c F) (fun e' P sc c K=>abz P e' K sc c) (fun e' P sc c K=>abA P e' K sc c) (by kernel_rfl) (by kernel_rfl) (by kernel_rfl) u3 (lu _ (by rw[q5];exact lx [] [] 8908054280)) rfl (fun e2 i9 rL iV kG c Q hb hl hQ=> ?_) ?_
 ·exact RH ▸ yU (aN ⟨wE,rfl,by simp,hQ⟩)
 simp only[q8];simp only[(FR sc t).1,q2,q3,q4,q5];refine aB hx hs (abI _ e _ _ sc t) ⟨by simp,by simp,by simp,by simp,aB hx hs (abJ _ e _ _ sc t) ⟨by simp,by simp,by simp,by simp,?_⟩⟩;refine aB hx hs (abK _ e _ _ sc t) ⟨by simp,by simp,by simp,by decide,aB hx hs (abL _ e _ _ sc t) ⟨by decide,?_⟩⟩;refine aB hx hs (abM _ e _ _ sc t) ⟨by simp,?_⟩;refine aB hx hs (abN _ e _ _ sc t) ⟨by simp,(FR sc t).2 ▸ h⟩
theorem Er(hE:E= .Dict (ps.map fun p=>some (.Constant (.str p.1) 0 p.2.1)) (ps.map fun p=>p.2.2) pos)(h0:ps≠ [])(hlen:ps.length<=15)(IU:∀vs:List Value,vs.length=ps.length->merged [] ((ps.map (·.1)).zip vs)=(ps.map (·.1)).zip vs) (h:AQ e ps c fun l c1=>Q (.ref c1.aj.length) {c1 with aj:=c1.aj++ [.dict l]}):Wp e VR (eval E e.env) c Q:=by subst hE;exact Eg h0 hlen IU h
theorem xp(hx:Cx e)(hs:e.scope=aK)(hk:e.k=k+5)(E:Expr)(hE:E=vP)(Q:V->St->Prop)(h:Q (.ref (FQ sc t).length) ⟨sS D t,FQ sc t++ [.dict xo]⟩):Wp e VR (eval E e.env) ⟨sS D t,lT sc⟩ Q:=by refine Er hE (by simp) (by simp) RM (uk hx hs hk h)
theorem AX(hx:Cx e)(hs:e.scope=aK){k:Nat}(hk:e.k=k+5)(hp:e.nv (s "p")≠none){D:Addr}{sc:List Int}{t:List Nat}{rest:List Stmt}{Q:AF->St->Prop} (h:eA e (execs rest e.env) ⟨sT D t,bV none sc++(w0 t).aj.map (AO.bQ uj)⟩ Q):eA e (execs (l4::rest) e.env) ⟨UZ D t,lT sc⟩ Q:=by
 rw[RO];obtain⟨E,hE⟩:∃E,E=vP:=⟨_,rfl⟩;have hc:iB E=false:=by exact hE ▸ Ep
 have MG:look (UZ D t) (s "p")=some (.ref 2):=by kernel_rfl
 refine hE ▸ (dD ?_);refine cR ?_ ?_
 ·exact aH hc _ _ _
 refine Wp.Rk hp MG (fun x v hv=>qW (names:= [s "script",s "draws",s "words",s "numbers",s "text"]) (by kernel_rfl) hv:∀x v,look (sS D t) x=some v->look (UZ D t) x=some v) ?_;refine(xp hx hs hk E hE) _ ?_;show cP e cD (.ref (FQ sc t).length) (storeName e.env (s "world")) ⟨sS D t++ [(s "p",.ref 2)],FQ sc t++ [.dict xo]⟩ _;rw[show(FQ sc t).length=65 by kernel_rfl];refine cE hx (hs ▸ RI.2.2.2.2.2.2.2.2.1) ?_;rw[(show put (sS D t++ [(s "p",V.ref 2)]) (s "world") (.ref 65)=sS D t++ [(s "p",.ref 2)]++ [(s "world",.ref 65)] from by kernel_rfl)];exact En h
end
section
variable{e:Fm}{n0:Nat}{σ:List AO}{f:Nat->Nat}{w:Wd}
theorem AY{us:List V}(h:us.all (V.ok jP)=true):us.map (V.bQ (eJ (km f) N))=us.map (V.bQ f):=
 acH fun u hu=>V.cX (aaZ.mp h u hu) fun j hj=>iT f N (aep (adb hj))
theorem sm(W:nM n0 σ f w){P:V->Prop}{X:Wd->Prop}(hu:us.all (V.ok jP)=true)(hP:∀v,P v->v.flat=true)(h:af e us g w.aj fun v τ=>P v/\∃w',τ=w'.aj/\X w'):af e (us.map (V.bQ f)) g σ fun v σ'=>P v/\∃w',X w'/\nM n0 σ' f w'/\σ'.length=σ.length/\∀i,i<n0->σ'[i]? =σ[i]? :=by
 refine af.gen fun K9 jf=>(AY (N:=σ.length) hu) ▸ ?_;refine af.lift W.nd (by rw[dO];rfl) (fun j o i h1 h2=> ?_) h fun v τ' q=> ?_
 ·obtain⟨_,rfl⟩:=jo h2;exact(mI w f _ h1) ▸ W.at_ j o h1
 ·obtain⟨hp,w',rfl,hx⟩:=q;refine bL (W.put w') fun k1 k2 k3=> ?_;have:v.bQ (eJ (km f) σ.length)=v:=by have:=hP v hp;cases v <;> first | rfl | exact absurd this ack
  rw[this];exact jf _ _ (⟨hp,w',hx,k1,k2,k3⟩)
theorem AZ(W:nM n0 σ f w)(hn:n0<=σ.length)(hp:p<3){X:Wd->Prop}(hu:us.all (V.ok jP)=true)(h:af e us g w.aj fun v τ=>v= .pv .none/\∃w':Wd,τ=cU w' p m/\X {w' with ahead:=up1 w'.ahead p [m]}):af e (us.map (V.bQ f)) g σ fun v σ'=>v= .pv .none/\∃f' w',X w'/\(∀j,j<34->f' j=f j)/\nM n0 σ' f' w'/\n0<=σ'.length/\∀i,i<n0->σ'[i]? =σ[i]? :=by
 refine af.gen fun K9 jf=>(AY (N:=σ.length) hu) ▸ ?_;refine af.lift W.nd (by simp only[dO];rfl) (fun j o i h1 h2=> ?_) h fun v τ' q=> ?_
 ·refine aI (jo h2) fun Z RQ=> ?_;subst RQ;exact(mI w f _ h1) ▸ W.at_ j o h1
 ·refine aI q fun RS RT=> ?_;subst RS;refine ah RT fun w' RU hx=> ?_;subst RU;refine nf (W.aaX hn w' m p hp) fun f' k1 k2 k3 k4=>jf _ _ (⟨rfl,f',_,hx,fun j hj=>k1 j (by lia),k2,k3,k4⟩)
theorem mK{pre σw σ':List AO}(hl:pre.length<=σ'.length)(h:∀i,i<pre.length->σ'[i]? =(pre++σw)[i]?):∃lH,σ'=pre++lH:=by
 refine⟨σ'.drop pre.length,?_⟩
 conv=>lhs;rw[<-List.take_append_drop pre.length σ']
 congr 1;apply adi;intro i;by_cases hi:i<pre.length
 ·rw[ac9,if_pos hi,h i hi,aaY hi]
 ·rw[acW (by simp;lia),acW ((ic hi))]
end
abbrev l5:Stmt:=at_ kY 5
abbrev l6:Stmt:=at_ kY 6
abbrev l7:Stmt:=at_ kY 7
abbrev l8:Stmt:=at_ kY 8
abbrev l9:Stmt:=at_ kY 9
theorem abO:l5= .For (.Name (s "x") (eI l5)) (aG l5) (ax l5) [] (di l5):=by kernel_rfl
theorem abP:l8= .For (.Name (s "p") (eI l8)) (.Call (.Name (s "range") (fJ (hG (aG l8)))) [az 0 (aG l8)] [] (s8 (aG l8))) (ax l8) [] (di l8):=by kernel_rfl
theorem RV:ax l5=(ax l5).take 2++ [at_ (ax l5) 2]:=by kernel_rfl
abbrev sU(D:Addr)(t:List Nat)(n:Int):List (Str×V):=sT D t++ [(s "x",.pv (.int n))]
section
variable(P:Params)(e:Fm)(Q:AF->St->Prop)(K:V->St->Prop)
theorem abQ(D:Addr)(t:List Nat)(n:Int)(pv:Option V)(sc:List Int)(σ:List AO):cZ (xw e P aK 40) ((ax l5).take 2) ⟨sU D t n,bV pv sc++σ⟩ Q= fL ((n.fdiv 3).fmod 3==0) (af e [.ref 6,.pv (.int (n.fmod 3))] (.ref 935) (bV (some (.pv (.int (n.fmod 3)))) sc++σ) fun Z σ'=>Q .next ⟨sU D t n,σ'⟩) (af e [.ref 6,.pv (.int (n.fmod 3)),.pv (.int ((n.fmod 3+n.fdiv 3).fmod 3))] (.ref 942) (bV (some (.pv (.int (n.fmod 3)))) sc++σ) fun Z σ'=>Q .next ⟨sU D t n,σ'⟩):=by kernel_rfl
theorem abR(D:Addr)(t:List Nat)(n p:Int)(sc:List Int)(σ:List AO):cZ (xw e P aK 40) [at_ (ax l5) 2] ⟨sU D t n,bV (some (.pv (.int p))) sc++σ⟩ Q=af e [.ref 6,.pv (.int p)] (.ref 947) (bV (some (.pv (.int p))) sc++σ) fun Z σ'=>Q .next ⟨sU D t n,σ'⟩:=by kernel_rfl
theorem abS(D:Addr)(t:List Nat)(n:Int)(σ:List AO):cZ (xw e P aK 40) [l6] ⟨sU D t n,σ⟩ Q=af e [.ref 6] (.ref 954) σ fun Z σ'=>Q .next ⟨sU D t n,σ'⟩:=by kernel_rfl
theorem abT(c:St):ew e P aK 40 (az 0 (aG l8)) c K=K (.pv (.int 3)) c:=by kernel_rfl
abbrev A0(D:Addr)(t:List Nat)(n:Int)(sz:Int):List (Str×V):=sU D t n++ [(s "size",.pv (.int sz))]
theorem abU(D:Addr)(t:List Nat)(n sz p:Int)(sc:List Int)(σ:List AO):cZ (xw e P aK 40) (ax l8) ⟨A0 D t n sz,bV (some (.pv (.int p))) sc++σ⟩ Q=af e [.ref 6,.pv (.int p)] (.ref 935) (bV (some (.pv (.int p))) sc++σ) fun Z σ'=>Q .next ⟨A0 D t n sz,σ'⟩:=by kernel_rfl
theorem abV(D:Addr)(t:List Nat)(n sz:Int)(σ:List AO):cZ (xw e P aK 40) [l9] ⟨A0 D t n sz,σ⟩ Q=af e [.ref 6] (.ref 954) σ fun Z σ'=>Q .next ⟨A0 D t n sz,σ'⟩:=by kernel_rfl
theorem A1(D:Addr)(t:List Nat)(v:V)(n:Int):put (sT D t) (s "x") v=sT D t++ [(s "x",v)]/\put (sU D t n) (s "x") v=sT D t++ [(s "x",v)]/\look aK.names (s "x")=some .local/\look aK.names (s "size")=some .local/\isStar (az 0 (aG l8))=false:=by and_intros<;>kernel_rfl
end
section
noncomputable def PW.eZ (x:PW)(p:Nat):PW:=match ee x.rest with
 | some (w,r)=>x.send p w r
 | none=>x
noncomputable def PW.hV (x:PW)(q p:Nat):PW:=match x.lines p q with
 | t::ps=>x.take q p (t.getD 0 0) (t.getD 1 0) (t.getD 2 0) ps
 | []=>x
noncomputable def PW.step (x:PW)(n:Int):PW:=
 (if(n.fdiv 3).fmod 3=0 then x.eZ (n.fmod 3).toNat else x.hV (n.fmod 3).toNat ((n.fmod 3+n.fdiv 3).fmod 3).toNat).put (n.fmod 3).toNat
noncomputable def PW.rounds (l:List Int)(x:PW):PW:=l.foldl PW.step x
theorem so(l:List Int)(n:Int)(x:PW):PW.rounds (l++ [n]) x=(PW.rounds l x).step n:=by unfold PW.rounds;simp
structure um(sc:List Int)(J:PW->Prop):Prop where
 inv:Inv J
 snd:∀x p,J x->p<3->x.ae.length<(drawsOf sc).length->∃w r,ee x.rest=some (w,r)/\J (x.send p w r)
theorem Kt(n:Int):0<=n.fmod 3/\n.fmod 3<3:=⟨Int.fmod_nonneg_of_pos n (by decide),Int.fmod_lt_of_pos n (by decide)⟩
theorem FT(n:Int)(h0:¬(n.fdiv 3).fmod 3=0):((n.fmod 3+n.fdiv 3).fmod 3).toNat≠(n.fmod 3).toNat:=fun z=>by
 have e:(n.fmod 3+n.fdiv 3).fmod 3=n.fmod 3:=by rw[<-abC (Kt _).1,z,abC (Kt _).1]
 rw[ac8 _ (by decide),ac8 n (by decide)]at e;rw[ac8 _ (by decide)]at h0;have:=Int.emod_eq_emod_iff_emod_sub_eq_zero.mp (e.trans (Int.emod_emod_of_dvd n (Int.dvd_refl 3)).symm);rw[Int.add_comm,Int.add_sub_cancel]at this;exact h0 this
theorem nM.pre (W:nM n0 σ f w)(h:∀i,n0<=i->σ'[i]? =σ[i]?):nM n0 σ' f w:=
 ⟨W.inj,W.lo,fun j o ho=>by
  have hj:j<44:=by have:=(aab.mp ho).1;rwa [fE]at this
  exact(h _ (W.lo j hj)) ▸ W.at_ j o ho⟩
theorem xq(p p':Option V)(sc:List Int)(σw:List AO)(i:Nat)(h:6<=i):(bV p sc++σw)[i]? =(bV p' sc++σw)[i]? :=by rw[abF (by exact h),abF (by exact h)];rfl
structure Here(sc:List Int)(pv:Option V)(σ:List AO)(J:PW->Prop)(x:PW):Prop where
 it:∃σw f w,σ=bV pv sc++σw/\nM 6 σ f w/\(∀j,j<34->f j=6+j)/\Rep w x
 j:J x
theorem Here.RW (H:Here sc pv (bV pv sc++σw) J x):Here sc pv' (bV pv' sc++σw) J x:=by
 refine cps fun Z zk=> ?_;obtain⟨⟨σ2,f,w,e1,W,hf,hr⟩,hj⟩:=H;have e2:σw=σ2:=by simpa using e1
 subst e2;refine zk ?_;exact⟨⟨σw,f,w,rfl,W.pre fun i hi=>xq _ _ _ _ i hi,hf,hr⟩,hj⟩
variable{e:Fm}
theorem kp(H:Here sc pv σ J x){P:V->Prop}(hu:us.all (V.ok jP)=true)(FU:∀f:Nat->Nat,f 0=6->us.map (V.bQ f)=nT)(hP:∀v,P v->v.flat=true) (h:∀w,Rep w x->af e us g w.aj fun v τ=>P v/\∃w',τ=w'.aj/\Rep w' x')(hj:J x'):af e nT g σ fun v σ'=>P v/\Here sc pv σ' J x':=by refine af.gen fun K9 jf=> ?_;obtain⟨⟨σw,f,w,rfl,W,hf,hr⟩,_⟩:=H;refine(FU f (hf 0 (acy _))) ▸ ?_;refine(sm W hu hP (h w hr)).mono fun v σ' hv=>nf hv.2 fun w' rA W' hl hk=> ?_;refine aA (mK (pre:=bV pv sc) (by simp only[hl,aag];exact ab2 _ _) hk) fun lH RX=> ?_;subst RX;exact jf _ _ (⟨hv.1,⟨lH,f,w',rfl,W',hf,rA⟩,hj⟩)
theorem oK(hx:Cx e)(hk:e.k=k+6)(H:Here sc pv σ J x)(L:um sc J){p:Nat}(hp:p<3)(hm:x.ae.length<(drawsOf sc).length):af e [.ref 6,.pv (.int p)] (.ref 935) σ fun v σ'=>Here sc pv σ' J (x.eZ p):=by
 refine af.gen fun K9 jf=>cps fun Z zk=> ?_;obtain⟨⟨σw,f,w,rfl,W,hf,hr⟩,hj⟩:=H;refine dy (L.snd x p hj hp hm) fun wd r Fv nc=>zk ?_;have FU:([.ref 0,.pv (.int p)]:List V).map (V.bQ f)= [.ref 6,.pv (.int p)]:=by show [V.ref (f 0),.pv (.int p)]=_;rw[hf 0 (acy _)]
 refine FU ▸ ?_;refine(AZ W (by rw[aag];show 6<=6+_;exact ab2 _ _) hp (X:=fun w'=>Rep w' (x.send p wd r)) (by kernel_rfl) (Oz hx hk hr (L.inv.ok x hj) hp Fv)).mono fun v σ' hv=>cI hv.2 fun f' w' rA UY W' hn PZ=> ?_;refine aA (mK (pre:=bV pv sc) hn PZ) fun lH RY=> ?_;subst RY;have:x.eZ p=x.send p wd r:=by unfold PW.eZ;rw[Fv]
 refine jf _ _ ?_;rw[this];exact⟨⟨lH,f',w',rfl,W',fun j hj=>by rw[UY j hj,hf j hj],rA⟩,nc⟩
theorem xr(hx:Cx e)(hk:e.k=k+6)(H:Here sc pv σ J x)(L:um sc J){q p:Nat}(hq:q<3)(hp:p<3)(fF:p≠q):af e [.ref 6,.pv (.int q),.pv (.int p)] (.ref 942) σ fun v σ'=>Here sc pv σ' J (x.hV q p):=by
 have FU:∀f:Nat->Nat,f 0=6->([.ref 0,.pv (.int q),.pv (.int p)]:List V).map (V.bQ f)= [.ref 6,.pv (.int q),.pv (.int p)]:=fun f hf=>by show [V.ref (f 0),.pv (.int q),.pv (.int p)]=_;rw[hf]
 cases hl:x.lines p q with
 | nil=>
  have e1:x.hV q p=x:=by unfold PW.hV;rw[hl]
  rw[e1];exact(kp H (by kernel_rfl) FU (fun v hv=>by rw[hv];rfl) (fun w hr=>my hx hk hr hq hp hl) H.j).mono fun v σ' hv=>hv.2
 | cons t ps=>
  have ok:=L.inv.ok x H.j;refine hY ((ok.tM p q).2 t (by rw[hl];exact .head _)) fun a b m RZ=> ?_;subst RZ;have e1:x.hV q p=x.take q p a b m ps:=by unfold PW.hV;rw[hl];rfl
  rw[e1];exact(kp H (by kernel_rfl) FU (fun v hv=>by rw[hv];rfl) (fun w hr=>mz hx hk hr ok hq hp hl) (L.inv.take x q p a b m ps H.j hq hp fF hl)).mono fun v σ' hv=>hv.2
theorem A2(hx:Cx e)(hk:e.k=k+4)(H:Here sc pv σ J x)(L:um sc J){q:Nat}(hq:q<3):af e [.ref 6,.pv (.int q)] (.ref 947) σ fun v σ'=>Here sc pv σ' J (x.put q):=
 (kp H (by kernel_rfl) (fun f hf=>by show [V.ref (f 0),.pv (.int q)]=_;rw[hf]) (fun v hv=>by rw[hv];rfl) (fun w hr=>Ov hx hk hr (L.inv.ok x H.j) hq) (L.inv.put x q H.j hq)).mono fun v σ' hv=>hv.2
theorem mL(hx:Cx e)(hk:e.k=k+7)(H:Here sc pv σ J x)(L:um sc J):af e [.ref 6] (.ref 954) σ fun v σ'=>Here sc pv σ' J (x.aV 3):=by
 refine af.gen fun K9 jf=> ?_;obtain⟨⟨σw,f,w,rfl,W,hf,hr⟩,hj⟩:=H;have FU:([.ref 0]:List V).map (V.bQ f)= [.ref 6]:=by show [V.ref (f 0)]=_;exact(hf 0 (acy _)) ▸ rfl
 refine FU ▸ ?_;refine(sm (X:=fun w'=>Rep w' (x.aV 3)/\J (x.aV 3)) W (by kernel_rfl) (fun v hv=>by refine hv ▸ ?_;rfl) ((HW hx hk L.inv hr hj).mono fun v σ hv=>⟨hv.1,let ⟨w',h1,h2,h3⟩:=hv.2;⟨w',h1,h2,h3⟩⟩)).mono fun v σ' hv=> ?_;refine cps fun Z zk=>nf hv.2 fun w' FV W' hl PZ=> ?_;refine aA (mK (pre:=bV pv sc) (by simp only[hl,aag];exact ab2 _ _) PZ) fun lH R0=> ?_;subst R0;refine zk (jf _ _ (⟨⟨lH,f,w',rfl,W',hf,FV.1⟩,FV.2⟩))
theorem oM(x:PW)(q:Nat):(x.put q).ae=x.ae:=rfl
theorem sq(x:PW)(q p:Nat):(x.hV q p).ae=x.ae:=by unfold PW.hV;cases x.lines p q <;> rfl
theorem kN(x:PW)(p:Nat):(x.eZ p).ae.length<=x.ae.length+1:=by
 unfold PW.eZ;cases ee x.rest with
 | none=>exact Nat.le_succ _
 | some y=>exact aes aag
theorem mM(x:PW)(n:Int):(x.step n).ae.length<=x.ae.length+1:=by
 unfold PW.step;simp only[oM];split
 ·exact kN _ _
 ·simp only[sq];exact ab2 _ _
theorem pZ(q p:Nat):∀(l:List (List Int)) (x:PW),(gj q p l x).ae=x.ae:=by
 intro l;induction l with
 | nil=>exact fun Z=>rfl
 | cons t ps ih=>exact fun x=>ih _
theorem p3(x:PW)(q:Nat):∀k,(x.b9 q k).ae=x.ae:=by
 intro k;induction k with
 | zero=>exact rfl
 | succ k ih=>
  show((x.b9 q k).drain q k).ae=_;unfold PW.drain;split
  ·exact ih
  ·simp only[pZ];exact ih
theorem gk(x:PW):∀k,(x.aV k).ae=x.ae:=by
 intro k;induction k with
 | zero=>exact rfl
 | succ k ih=>show(((x.aV k).b9 k 3).put k).ae=_;simp only[oM,p3];exact ih
end
section
noncomputable def PW.mid (sc:List Int)(x:PW):PW:=(PW.rounds (numsOf sc) x).aV 3
noncomputable def PW.sends (x:PW):Nat->PW
 | 0=>x
 | k+1=>(x.sends k).eZ k
noncomputable def PW.last (sc:List Int)(x:PW):PW:=((PW.mid sc x).sends 3).aV 3
abbrev l7A:Expr:=az 0 (ak l7)
theorem abX:l7= .Assign [.Name (s "size") (aw (i6 0 l7))] (.Call (.Name (s "len") (fJ (hG (ak l7)))) [.Subscript (.Name (s "world") (aw (dh l7A))) (.Constant (.str (s "mails")) 0 (fJ (ec l7A))) (aw l7A)] [] (aw (ak l7))) (bZ l7):=by kernel_rfl
section
variable(P:Params)(K:V->St->Prop)
theorem R1(e:Fm)(D:Addr)(t:List Nat)(σ:List AO):ew e P aK 40 (aG l5) ⟨sT D t,σ⟩ K=K (.ref 5) ⟨sT D t,σ⟩:=by kernel_rfl
theorem abY(c:St):cM P aK (s "len") c K False=K (.glob (.builtin "len")) c:=by kernel_rfl
theorem R2(D:Addr)(t:List Nat)(n:Int):look (sU D t n) (s "world")=some (.ref 6)/\look aK.names (s "world")=some .local:=⟨by kernel_rfl,by kernel_rfl⟩
theorem abZ(f:Nat->Nat):look (Uo.map fun x=>(x.1,x.2.bQ f)) (SS (s "mails").cps.toList)=some (.ref (f 43)):=by kernel_rfl
theorem ab0(D:Addr)(t:List Nat)(n sz:Int):put (sU D t n) (s "size") (.pv (.int sz))=A0 D t n sz:=by kernel_rfl
theorem I2(D:Addr)(t:List Nat)(n sz:Int)(pv:Option V)(sc:List Int)(σ:List AO):look (A0 D t n sz) (s "p")=some (.ref 2)/\(bV pv sc++σ)[2]? =some (.cell pv)/\look aK.names (s "p")=some .cell:=⟨by kernel_rfl,rfl,by kernel_rfl⟩
theorem R3(w:Wd):w.aj[0]? =some (.dict Uo)/\w.aj[43]? =some (.vals .tup w.ae):=⟨by kernel_rfl,by kernel_rfl⟩
end
theorem A3(u:V)(pv:Option V)(sc:List Int)(σ:List AO):(bV pv sc++σ).set 2 (.cell (some u))=bV (some u) sc++σ:=rfl
variable{e:Fm}
theorem xt(hx:Cx e)(hs:e.scope=aK)(hk:e.k=k+7)(L:um sc J)(hj:J x0)(hm:x0.ae.length=0)(hr:Rep (w0 t) x0) (h:∀n σw,Here sc (some (.pv (.int 2))) (bV (some (.pv (.int 2))) sc++σw) J (PW.last sc x0)->eA e (execs rest e.env) ⟨A0 D t n ((PW.mid sc x0).ae.length),bV (some (.pv (.int 2))) sc++σw⟩ Q):eA e (execs (l5::l6::l7::l8::l9::rest) e.env) ⟨sT D t,bV none sc++(w0 t).aj.map (AO.bQ uj)⟩ Q:=by
 have U1:(numsOf sc).length+3=(drawsOf sc).length:=by have:(drawsOf sc).length=((numsOf sc).map gb).length+3:=aag;rw[this,aaR]
 have hn4:4<=(numsOf sc).length:=by show 4<=([0,0,7,1]++sc.take 12).length;rw[aag];show 4<=4+_;exact ab2 _ _
 rw[abO];refine dD ?_;refine gU hx (by rw[hs];exact(A1 D t (.pv .none) 0).2.2.1) (fun Z=>rfl)
  (fun j c=>∃l pv σw,((j=0/\l= [])\/∃n,l= [(s "x",V.pv (.int n))])/\c=⟨sT D t++l,bV pv sc++σw⟩/\Here sc pv (bV pv sc++σw) J (PW.rounds ((numsOf sc).take j) x0)/\(PW.rounds ((numsOf sc).take j) x0).ae.length<=j)
  (dr (kd:=.int) hx (aB hx hs (R1 _ _ e D t _) ⟨rfl,rfl,[],none,(w0 t).aj.map (AO.bQ uj),.inl ⟨rfl,rfl⟩,by rw[ab5],⟨⟨_,uj,w0 t,rfl,nM.start none sc (w0 t),fun Z Z=>rfl,hr⟩,hj⟩,by show x0.ae.length<=0;exact(bh hm)⟩)) (fun j u c hu hI Z=> ?_) (fun c hI Z=> ?_)
 ·obtain⟨l,pv,σw,hl,rfl,H,nI⟩:=hI;refine ah (jQ hu) fun n hn R4=> ?_;subst R4;have yh:j<(numsOf sc).length:=(aab.mp hn).1;have ep:put (sT D t++l) (s "x") (.pv (.int n))=sU D t n:=by
   rcases hl with⟨_,rfl⟩ | ⟨n',rfl⟩
   ·rw[ab5];exact(A1 D t (.pv (.int n)) 0).1
   ·exact(A1 D t (.pv (.int n)) n').2.1
  dsimp only;show Wp e bN _ ⟨put (sT D t++l) (s "x") (.pv (.int n)),_⟩ _;rw[ep,RV];refine aI (Kt n) fun m1 m2=> ?_;have DJ:(n.fmod 3)=((n.fmod 3).toNat:Int):=(abC m1).symm;have ph:(n.fmod 3).toNat<3:=lx [_] [_] 0xdb09db091008128 (jv DJ) m2;have lr:PW.rounds ((numsOf sc).take (j+1)) x0=(PW.rounds ((numsOf sc).take j) x0).step n:=by rw[adG,hn];exact so _ _ _
  have fin:∀σ',Here sc (some (.pv (.int (n.fmod 3)))) σ' J (if(n.fdiv 3).fmod 3=0 then(PW.rounds ((numsOf sc).take j) x0).eZ (n.fmod 3).toNat else(PW.rounds ((numsOf sc).take j) x0).hV (n.fmod 3).toNat ((n.fmod 3+n.fdiv 3).fmod 3).toNat)->
    Wp e bN (execs [at_ (ax l5) 2] e.env) ⟨sU D t n,σ'⟩ fun f c2=>match f with
     | .next=>(∃l pv σw,((j+1=0/\l= [])\/∃n,l= [(s "x",V.pv (.int n))])/\c2=⟨sT D t++l,bV pv sc++σw⟩/\Here sc pv (bV pv sc++σw) J (PW.rounds ((numsOf sc).take (j+1)) x0)/\(PW.rounds ((numsOf sc).take (j+1)) x0).ae.length<=j+1)/\c2.aj[5]? =some (.vals .int (numsOf sc))
     | .cont=>(∃l pv σw,((j+1=0/\l= [])\/∃n,l= [(s "x",V.pv (.int n))])/\c2=⟨sT D t++l,bV pv sc++σw⟩/\Here sc pv (bV pv sc++σw) J (PW.rounds ((numsOf sc).take (j+1)) x0)/\(PW.rounds ((numsOf sc).take (j+1)) x0).ae.length<=j+1)/\c2.aj[5]? =some (.vals .int (numsOf sc))
     | .brk=>(match(AF.next)with | .next=>eA e (execs (l6::l7::l8::l9::rest) e.env) c2 Q | f=>Q f c2)
     | .ret v=>(match(AF.ret v)with | .next=>eA e (execs (l6::l7::l8::l9::rest) e.env) c2 Q | f=>Q f c2):=fun σ' H'=>by
   refine aA (let ⟨⟨lH,_,_,h1,_⟩,_⟩:=H';⟨lH,h1⟩:∃lH,σ'=bV (some (.pv (.int (n.fmod 3)))) sc++lH) fun lH e1=> ?_;subst e1;refine bJ hx hs (of_eq (abR _ e _ D t n (n.fmod 3) sc lH) ?_);rw[show(V.pv (.int (n.fmod 3)))= .pv (.int ((n.fmod 3).toNat:Int)) by rw[<-DJ]];have H2:Here sc (some (.pv (.int ((n.fmod 3).toNat:Int)))) (bV (some (.pv (.int ((n.fmod 3).toNat:Int)))) sc++lH) J (if(n.fdiv 3).fmod 3=0 then(PW.rounds ((numsOf sc).take j) x0).eZ (n.fmod 3).toNat else(PW.rounds ((numsOf sc).take j) x0).hV (n.fmod 3).toNat ((n.fmod 3+n.fdiv 3).fmod 3).toNat):=by rw[<-DJ];exact H'
   refine(A2 (k:=k+3) hx (aac (ba 0xed199071f190918 (bh hk)) (ba 0x1ed099171f09918 (bl hk))) H2 L ph).mono fun v σ2 H3=>aA (let ⟨⟨lH,_,_,h1,_⟩,_⟩:=H3;⟨lH,h1⟩:∃σw2,σ2=bV (some (.pv (.int ((n.fmod 3).toNat:Int)))) sc++σw2) fun σw2 e2=> ?_;subst e2;refine⟨⟨[(s "x",.pv (.int n))],_,σw2,.inr ⟨n,rfl⟩,rfl,by rw[lr];exact H3,?_⟩,rfl⟩;rw[lr];have:=mM (PW.rounds ((numsOf sc).take j) x0) n;exact bj 0xb290219b190928 this nI
  refine b8 hx hs (of_eq (abQ _ e _ D t n pv sc σw) ?_);have H1:=H.RW (pv':=some (.pv (.int (n.fmod 3))));by_cases h0:(n.fdiv 3).fmod 3=0
  ·have hb:((n.fdiv 3).fmod 3==0)=true:=by rw[h0];rfl
   rw[hb];rw[if_pos h0]at fin;refine sJ ?_;have hc:=oK (k:=k+1) hx (aac (ba 0x61fb199071f190918 (bh hk)) (ba 0x161fb099171f09918 (bl hk))) H1 L ph (dZ 0x3b093d2992b19910938 nI yh (bh U1));rw[<-DJ]at hc;exact hc.mono fun v σ' H'=>fin σ' H'
  ·have hb:((n.fdiv 3).fmod 3==0)=false:=by
    rw[beq_eq_false_iff_ne];exact h0
   rw[hb];rw[if_neg h0]at fin;refine qk (aI (Kt (n.fmod 3+n.fdiv 3)) fun a1 a2=> ?_);have hqn:((n.fmod 3+n.fdiv 3).fmod 3)=(((n.fmod 3+n.fdiv 3).fmod 3).toNat:Int):=(abC a1).symm;have qp:=FT n h0;have hc:=xr (k:=k+1) hx (aac (ba 0x61fb199071f190918 (bh hk)) (ba 0x161fb099171f09918 (bl hk))) H1 L ph (p:=((n.fmod 3+n.fdiv 3).fmod 3).toNat) (lx [_] [_] 0xdb09db091008128 (jv hqn) a2) qp;rw[<-DJ,<-hqn]at hc;exact hc.mono fun v σ' H'=>fin σ' H'
 ·refine cY hI fun l pv σw hl R5 H nI=> ?_;subst R5;have hlen:(yg .int (numsOf sc)).length=(numsOf sc).length:=by rw[aaR]
  rw[hlen]at hl H nI;rw[adk]at H nI;refine aA (show ∃n,l= [(s "x",V.pv (.int n))] from by
   rcases hl with⟨z,_⟩ | z
   ·lia
   ·exact z) fun n R6=> ?_
  subst R6;show eA e (execs (l6::l7::l8::l9::rest) e.env) ⟨sU D t n,bV pv sc++σw⟩ Q;refine eG (l1:= [l6]) hx hs (of_eq (abS _ e _ D t n _) ((mL (k:=k) hx hk H L).mono fun v σ' H1=> ?_));obtain⟨⟨Ku,f,w,rfl,W,hf,Dv⟩,z5⟩:=H1;have Es:(PW.rounds (numsOf sc) x0).aV 3=PW.mid sc x0:=rfl;rw[Es]at Dv z5;have vp:(PW.mid sc x0).ae.length<=(numsOf sc).length:=by rw[<-Es,gk];exact nI
  show eA e (execs (l7::l8::l9::rest) e.env) ⟨sU D t n,bV pv sc++Ku⟩ Q;rw[abX];refine dD (cR ?_ ?_)
  ·exact aH rfl _ _ _
  have g0:(bV pv sc++Ku)[6]? =some (.dict (Uo.map fun x=>(x.1,x.2.bQ f))):=by have:=W.at_ 0 _ (R3 w).1;rw[hf 0 (by lia)]at this;exact this
  have g43:=W.at_ 43 _ (R3 w).2;refine dm hx rfl (cu hx False.elim ?_);rw[hs];refine of_eq (abY _ _ _) ⟨_,rfl,rfl,aS (aE rfl _ _) (dj (uI hx (by kernel_rfl) (by rw[hs];exact(R2 D t n).2) (R2 D t n).1 (qG (uO rfl g0 (abZ f) (aN (uL g43 (.inl ⟨_,_,rfl,by rw[Dv.sM]⟩) (cE hx (by rw[hs];exact(A1 D t (.pv .none) 0).2.2.2.1) ?_)))))))⟩;show eA e _ ⟨put (sU D t n) (s "size") (.pv (.int (PW.mid sc x0).ae.length)),bV pv sc++Ku⟩ Q;rw[ab0];have H2:Here sc pv (bV pv sc++Ku) J (PW.mid sc x0):=⟨⟨Ku,f,w,rfl,W,hf,Dv⟩,z5⟩;rw[abP];refine dD ?_;refine tq (fun u c=>{c with aj:=c.aj.set 2 (.cell (some u))}) (fun Z=>rfl)
   (fun j c=>∃pv' σ2,j<=3/\c=⟨A0 D t n ((PW.mid sc x0).ae.length),bV pv' sc++σ2⟩/\(0<j->pv'=some (.pv (.int ((j:Int)-1))))/\Here sc pv' (bV pv' sc++σ2) J ((PW.mid sc x0).sends j)/\((PW.mid sc x0).sends j).ae.length<=(numsOf sc).length+j) (fun j u c hu hI Z=> ?_)
   (cy hx (n:=3) (by lia) (dm hx (by kernel_rfl) (cu hx False.elim ?_))) (fun j u c hu hI Z=> ?_) (fun c hI Z=> ?_)
  ·refine cI hI fun pv' σ2 Z R7 Z Z Z=> ?_;subst R7;exact oF hx (by rw[hs];exact(I2 D t n 0 pv' sc σ2).2.2) (I2 D t n _ pv' sc σ2).1 (I2 D t n 0 pv' sc σ2).2.1 rfl
  ·rw[hs];exact of_eq (xm _ _ _ _) ⟨_,rfl,rfl,aS (aE (A1 D t (.pv .none) 0).2.2.2.2 _ _) (aB hx hs (abT _ e _ _) (aN (fV ⟨pv,Ku,by lia,rfl,(fun z=>absurd z (by lia)),H2,vp⟩)))⟩
  ·refine cI hI fun pv' σ2 Z R8 Z H3 BP=> ?_;subst R8;have vt:j<3:=by
    have:=(aab.mp hu).1;simpa using this
   have AU:u= .pv (.int j):=by simp only[aa0,abh]at hu;obtain⟨j',nc,rfl⟩:=hu;rw[acz vt]at nc;cases nc;rfl
   subst AU;dsimp only;rw[A3];refine bJ hx hs (of_eq (abU _ e _ D t n _ j sc σ2) ((oK (k:=k+1) hx (by lia) H3.RW L vt (by lia)).mono fun v σ' H4=> ?_));refine aA (let ⟨⟨lH,_,_,h1,_⟩,_⟩:=H4;⟨lH,h1⟩:∃lH,σ'=bV (some (.pv (.int j))) sc++lH) fun σw4 e4=> ?_;subst e4;refine⟨⟨_,σw4,by lia,rfl,fun Z=> ?_,H4,?_⟩,trivial⟩
   ·rw[show((j+1:Nat):Int)-1=(j:Int) by lia]
   ·have:=kN ((PW.mid sc x0).sends j) j;show(((PW.mid sc x0).sends j).eZ j).ae.length<=_;lia
  ·refine cI hI fun pv' σ2 Z R9 hpv H3 BP=> ?_;subst R9;have e3:(iZ 3).length=3:=rfl;rw[e3]at hpv H3 BP;have:=hpv (by lia);subst this;show eA e (execs (l9::rest) e.env) ⟨A0 D t n ((PW.mid sc x0).ae.length),bV (some (.pv (.int 2))) sc++σ2⟩ Q;refine eG (l1:= [l9]) hx hs (of_eq (abV _ e _ D t n _ _) ((mL (k:=k) hx hk H3 L).mono fun v σ' H4=> ?_));refine aA (let ⟨⟨lH,_,_,h1,_⟩,_⟩:=H4;⟨lH,h1⟩:∃lH,σ'=bV (some (.pv (.int 2))) sc++lH) fun σw4 e4=> ?_;subst e4;exact h n σw4 H4
end
noncomputable def KW{α:Type}(n:Nat)(lt:Nat->Nat->Bool):KasT α->(α->Prop)->Prop
 | .ret a,P=>P a
 | .ask i j k,P=>i<n/\j<n/\KW n lt (k (lt i j)) P
theorem KW.mono {α:Type}{P P':α->Prop}(h:∀a,P a->P' a):∀ {t:KasT α},KW n lt t P->KW n lt t P'
 | .ret a,k=>h a k
 | .ask _ _ _,⟨a,b,k⟩=>⟨a,b,KW.mono h k⟩
theorem KW.bind {α β:Type}{f:α->KasT β}{P:β->Prop}:∀ {t:KasT α},KW n lt t (fun a=>KW n lt (f a) P)->KW n lt (t.bind f) P
 | .ret a,k=>k
 | .ask _ _ _,⟨a,b,k⟩=>⟨a,b,KW.bind k⟩
theorem KW.run {α:Type}{P:α->Prop}{Q:α->Shared->Prop}{s:Shared} (hc:∀i j C,i<n->j<n->C (lt i j) s->cmp i j C s)(hq:∀a,P a->Q a s):∀ {t:KasT α},KW n lt t P->t.kasWp cmp Q s
 | .ret a,k=>hq a k
 | .ask _ _ _,⟨a,b,k⟩=>hc _ _ _ a b (KW.run hc hq k)
section
variable{n:Nat}{key:Nat->Int}
noncomputable abbrev klt(key:Nat->Int)(i j:Nat):Bool:=decide (key i<key j)
noncomputable def kk(key:Nat->Int)(p:Array Nat)(i:Nat):Int:=key (p.getD i 0)
structure WP(n:Nat)(p:Array Nat):Prop where
 sz:p.size=n
 pm:p.toList.Perm (acj n)
theorem WP.lt (W:WP n p)(h:i<n):p.getD i 0<n:=by
 have h':i<p.size:=by rw[W.sz];exact h
 rw[(show p.getD i 0=p[i] from by simp[Array.getD,h'])];exact acB.mp (W.pm.mem_iff.mp (by simp))
theorem iG(h:p[i]? =q[j]?):kk key p i=kk key q j:=by unfold kk;simp only[show p.getD i 0=p[i]?.getD 0 by simp,show q.getD j 0=q[j]?.getD 0 by simp,h]
def Up(key:Nat->Int)(p:Array Nat)(k:Nat):Prop:=∀i j,i<=j->j<k->kk key p i<=kk key p j
def Dn(key:Nat->Int)(p:Array Nat)(k:Nat):Prop:=∀i j,i<=j->j<k->kk key p j<=kk key p i
theorem Up.more (h:Up key p m)(h1:1<=m)(k:∀i,m<=i->i<r->kk key p (i-1)<=kk key p i):Up key p r:=by
 intro i j qi hj;refine aA (⟨j-i,aac (bj 1275640482072 eH) (bj 2205768784152 (cA qi))⟩:∃d,j=i+d) fun d Sa=> ?_;subst Sa;clear qi;induction d with
 | zero=>exact acd _
 | succ d ih=>
  refine acC (ih (bj 0x2b10992bb19099918 hj)) ?_;by_cases hm:i+d+1<m
  ·exact h _ _ (ba 762634635528) hm
  ·exact k (i+d+1) ((ic hm)) (bj 0x2bb109992bb19099918 hj)
theorem Dn.more (h:Dn key p m)(h1:1<=m)(k:kk key p m<=kk key p (m-1)):Dn key p (m+1):=by
 intro i j qi hj;by_cases hm:j<m
 ·exact h i j qi hm
 ·have:j=m:=aac (ab8 hj) ((ic hm));refine cps fun Z zk=> ?_;subst this;refine zk ?_;by_cases hi:i=j
  ·exact hi ▸ acd _
  ·exact acC k (h i (j-1) (bj 9203537539012904 (aca qi hi) eH) ((cA h1)))
theorem WP.rev (W:WP n p)(i j:Nat):WP n (kas_rev p i j):=⟨by rw[kas_rev_size];exact W.sz,(mirror_perm p i j _).toList.trans W.pm⟩
theorem WP.bub (W:WP n p)(i d:Nat):WP n (bubble p i d):=⟨by rw[bubble_size];exact W.sz,(bubble_perm p i d).toList.trans W.pm⟩
theorem uo(hj:j<=p.size)(k:Nat):kk key (kas_rev p i j) k=if i<=k/\k<j then kk key p (i+j-1-k)else kk key p k:=by
 have e:=getElem?_mirror_all (i:=i) hj k;split
 ·next h=>rw[if_pos h]at e;exact iG e
 ·next h=>rw[if_neg h]at e;exact iG e
theorem kq(hj:j<=p.size)(h:∀k,i<=k->k<j->kk key p k=kk key p (j-1))(k:Nat):kk key (kas_rev p i j) k=kk key p k:=by
 rw[uo hj];split
 ·next q=>rw[h _ (by lia) (by lia),h k q.1 q.2]
 ·rfl
theorem A4(hs:src<p.size)(hd:d<=src)(k:Nat):kk key (bubble p src d) k=if k=src-d then kk key p src else if src-d<k/\k<=src then kk key p (k-1)else kk key p k:=by
 have e:=getElem?_bubble hs d hd k;by_cases h1:k=src-d
 ·rw[if_pos h1]at e ⊢;exact iG e
 ·rw[if_neg h1]at e ⊢;by_cases h2:src-d<k/\k<=src
  ·rw[if_pos h2]at e ⊢;exact iG e
  ·rw[if_neg h2]at e ⊢;exact iG e
theorem A5(W:WP n p):∀(f m:Nat),1<=m->m+f<=n->(∀r,m<=r->r<=m+f->(∀i,m<=i->i<r->kk key p (i-1)<=kk key p i)->(r<m+f->kk key p r<kk key p (r-1))->P r)->KW n (klt key) (kas_asc p f m) P:=by
 intro f;induction f with
 | zero=>exact fun m h1 h2 h=>h m (abE _) (abE _) (fun i a b=>absurd b (acv a)) (fun a=>absurd a (acv (bY 657672)))
 | succ f ih=>
  intro m h1 h2 h;refine⟨W.lt (bj 757094044178712 h2),W.lt (dZ 0x3b093b291991b09928 (cA h1) h2),?_⟩;by_cases q:key (p.getD m 0)<key (p.getD (m-1) 0)
  ·rw[show klt key (p.getD m 0) (p.getD (m-1) 0)=true from decide_eq_true q];exact h m (abE _) (ab2 _ _) (fun i a b=>absurd b (acv a)) (fun Z=>q)
  ·rw[show klt key (p.getD m 0) (p.getD (m-1) 0)=false from decide_eq_false q];refine ih (m+1) (ado _ _) (bj 0x21b0992b1909918 h2) fun r a b c d=>h r (aco a) (bj 0xb291902b1990918 b) (fun i a' b'=> ?_) (fun z=>d (bj 0x2b199b09b2919b09918 z));by_cases e:i=m
   ·exact e ▸ adV.mp q
   ·exact c i ((aca a' (Ne.symm e))) b'
theorem Et:∀(f:Nat) (p:Array Nat) (m q:Nat),WP n p->1<=m->m+f<=n->q+1<=m->Dn key p m->(∀i,m-(q+1)<=i->i<m->kk key p i=kk key p (m-1))-> (∀p' m' q',WP n p'->m<=m'->m'<=m+f->q'+1<=m'->Dn key p' m'->(∀i,m'-(q'+1)<=i->i<m'->kk key p' i=kk key p' (m'-1))->P (p',m',q'))->KW n (klt key) (kas_desc f p m q) P:=by
 intro f;induction f with
 | zero=>exact fun p m q W h1 h2 hq hd he h=>h p m q W (abE _) (abE _) hq hd he
 | succ f ih=>
  intro p m q W h1 h2 hq hd he h;refine⟨W.lt (bj 757094044178712 h2),W.lt (dZ 0x3b093b291991b09928 (cA (ba 7276108056 hq)) h2),?_⟩;by_cases c:key (p.getD m 0)<key (p.getD (m-1) 0)
  ·rw[show klt key (p.getD m 0) (p.getD (m-1) 0)=true from decide_eq_true c];show KW n (klt key) (if q > 0 then kas_desc f (kas_rev p (m-(q+1)) m) (m+1) 0 else kas_desc f p (m+1) 0) P;split
   ·have ke:=kq (by exact W.sz ▸ acE h2) he;refine ih _ (m+1) 0 (W.rev _ _) (ado _ _) (bj 0x21b0992b1909918 h2) (acy _) (fun i j a b=> ?_) (fun i a b=> ?_) fun p' m' q' a b c d=>h p' m' q' a (aco b) (bj 0xb291902b1990918 c) d
    ·simp only[ke,ke];exact hd.more h1 (ac0 c) i j a b
    ·refine(show i=m by lia) ▸ ?_;rfl
   ·refine ih p (m+1) 0 W (ado _ _) (bj 0x21b0992b1909918 h2) (acy _) (hd.more h1 (ac0 c)) (fun i a b=> ?_) fun p' m' q' a b c d=>h p' m' q' a (aco b) (bj 0xb291902b1990918 c) d;refine(show i=m by lia) ▸ ?_;rfl
  ·rw[show klt key (p.getD m 0) (p.getD (m-1) 0)=false from decide_eq_false c];refine⟨W.lt (dZ 0x3b093b291991b09928 (cA (ba 7276108056 hq)) h2),W.lt (bj 757094044178712 h2),?_⟩;by_cases d:key (p.getD (m-1) 0)<key (p.getD m 0)
   ·rw[show klt key (p.getD (m-1) 0) (p.getD m 0)=true from decide_eq_true d];exact h p m q W (abE _) (ab2 _ _) hq hd he
   ·rw[show klt key (p.getD (m-1) 0) (p.getD m 0)=false from decide_eq_false d];have e:kk key p m=kk key p (m-1):=ace (adV.mp d) (adV.mp c);refine ih p (m+1) (q+1) W (ado _ _) (bj 0x21b0992b1909918 h2) (adJ hq) (hd.more h1 (Int.le_of_eq e)) (fun i a b=> ?_) fun p' m' q' a b c d=>h p' m' q' a (aco b) (bj 0xb291902b1990918 c) d;show _=kk key p m;by_cases z:i=m
    ·exact z ▸ rfl
    ·simp only[e];exact he i (nj 0x40439bb19939b2992b1909938 (cA hq) eH a) ((aca (ab8 b) z))
theorem sr(W:WP n p)(h1:1<=m)(h2:m<=n)(hd:Dn key p m)(h:∀r p',WP n p'->1<=r->r<=n->Up key p' r->P (r,p')):KW n (klt key) (kas_tail3 m n p) P:=by refine KW.bind (A5 (W.rev 0 m) _ _ h1 (bj 2205768784152 (cA h2)) fun r a b c Z=>h r _ (W.rev 0 m) (ab3 h1 a) (dZ 0x30312992190928 b (cA h2)) (Up.more (m:=m) (fun i j a b=> ?_) h1 c));rw[uo (by simp only[W.sz];exact h2),uo (by simp only[W.sz];exact h2),if_pos (⟨aci _,bj 0x2b092b19910928 a b⟩),if_pos (⟨aci _,b⟩)];exact hd _ _ (nj 0x30149439292109938 (cA (bj 0x20b291a991b09928 b eH)) eH a) (dZ 0x3b093a9b2992109928 (cA (dZ 0x30b392a992b19910938 a b eH)) (cA (ba 1828342241560 b)))
theorem kO(W:WP n p)(h1:1<=m)(h2:m<n)(hd:Dn key p m)(hl:kk key p m<kk key p (m-1))(h:∀r p',WP n p'->1<=r->r<=n->Up key p' r->P (r,p')):KW n (klt key) (kas_descPart m n p) P:=by
 refine KW.bind (Et _ p (m+1) 0 W (ado _ _) (bj 0x20b1992b1909918 (cA h2)) (acy _) (hd.more h1 (ac0 hl)) (fun i a b=>by refine(show i=m by lia) ▸ ?_;rfl) fun p' m' q' W' a b c d e=> ?_);show KW n (klt key) (if q' > 0 then kas_tail3 m' n (kas_rev p' (m'-(q'+1)) m')else kas_tail3 m' n p') P;split
 ·have ke:=kq (by simp only[W'.sz];exact dZ 0x303b192992b1990928 b (cA h2)) e;refine sr (W'.rev _ _) (ba 7276108056 c) (dZ 0x303b192992b1990928 b (cA h2)) (fun i j x y=> ?_) h;simp only[ke,ke];exact d i j x y
 ·exact sr W' (ba 7276108056 c) (dZ 0x303b192992b1990928 b (cA h2)) d h
theorem A6(W:WP n p)(h1:1<=n)(h:∀r p',WP n p'->1<=r->r<=n->Up key p' r->P (r,p')):KW n (klt key) (kas_count n p) P:=by
 refine KW.bind (A5 W _ _ (abE 1) (ba 1149200537880 (cA h1)) fun r a b c d=> ?_);have u1:Up key p 1:=fun i j x y=>by exact(show i=0 by lia) ▸ (show j=0 by lia) ▸ acd _
 have ur:Up key p r:=u1.more (abE 1) c;by_cases e:r=n
 ·subst e;rw[if_pos (by simp)];exact h r p W a (abE _) ur
 ·rw[if_neg (by simpa using e)];by_cases g:r > 1
  ·refine(if_pos g) ▸ (⟨W.lt (bY 3130046744 h1),W.lt (ab3 (cA (aco g)) (aco (aca (bj 9054588073740584 b (cA h1)) e))),?_⟩);by_cases q:key (p.getD 0 0)<key (p.getD (r-1) 0)
   ·simp only[show klt key (p.getD 0 0) (p.getD (r-1) 0)=true from decide_eq_true q];exact h r p W a (aco (aca (bj 9054588073740584 b (cA h1)) e)) ur
   ·refine(show klt key (p.getD 0 0) (p.getD (r-1) 0)=false from decide_eq_false q) ▸ ?_;have eq:∀k,0<=k->k<r->kk key p k=kk key p (r-1):=fun k Z hk=>by
     exact ace (ur k (r-1) (bj 9203537539012904 hk eH) (ba 1857870141720 (cA (ba 7276108056 hk)))) (acC (adV.mp q:kk key p (r-1)<=kk key p 0) (ur 0 k (aci _) hk))
    have ke:=kq (by refine W.sz ▸ ?_;exact aco (aca (bj 9054588073740584 b (cA h1)) e)) eq;refine kO (W.rev _ _) (aco g) ((aca (bj 9054588073740584 b (cA h1)) e)) (fun i j x y=> ?_) (by simp only[ke,ke];exact(d (by lia))) h;simp only[ke,ke,eq i (aci _) (bj 0x2b092b19910928 x y),eq j (aci _) y];exact acd _
  ·refine(if_neg g) ▸ ?_;have:r=1:=aac ((ic g)) a;subst this;exact kO W (abE _) ((aca (ba 7276108056 (cA h1)) e)) (fun i j x y=>by exact(show i=0 by lia) ▸ (show j=0 by lia) ▸ acd _) (d (ba 0x1b9bb9b19090bb9928 (aca (ba 7276108056 (cA h1)) e) eH)) h
theorem A7(W:WP n p)(hk:k<n):∀(f l r:Nat),l<=r->r<=k->r-l<=f->(∀i,i<l->kk key p i<=kk key p k)->(∀i,r<=i->i<k->kk key p k<kk key p i)->Up key p k-> (∀l',l'<=k->(∀i,i<l'->kk key p i<=kk key p k)->(∀i,l'<=i->i<k->kk key p k<kk key p i)->P l')->KW n (klt key) (kas_place p k f l r) P:=by
 intro f;induction f with
 | zero=>intro l r a b c d e u h;have:l=r:=aac (bj 8893012248 (cA a)) (bj 35878312937768 eH c);subst this;exact h l b d e
 | succ f ih=>
  intro l r a b c d e u h;unfold kas_place;by_cases g:l≥r
  ·rw[if_pos g];have:l=r:=aac a g;subst this;exact h l b d e
  ·rw[if_neg g];refine⟨W.lt hk,W.lt (by lia),?_⟩;by_cases q:key (p.getD k 0)<key (p.getD ((l+r) / 2) 0)
   ·rw[show klt key (p.getD k 0) (p.getD ((l+r) / 2) 0)=true from decide_eq_true q];refine ih l ((l+r) / 2) (dZ 0x31b339921992109929 (cA (aco (JS g))) Vh) (nj 0x4042a21399219009939 qh (cA (aco (JS g))) b) (K2 0x50b59491493931922992109a49 (cA (bj 0x201b099b2299109929 Vh (JS g))) qh eH c) d (fun i x y=> ?_) u h;exact li3 0x2b092111b09120 q (u ((l+r) / 2) i x y)
   ·rw[show klt key (p.getD k 0) (p.getD ((l+r) / 2) 0)=false from decide_eq_false q];refine ih ((l+r) / 2+1) r (bj 0x2b092b199219009929 qh (JS g)) b (K2 0x50b5939b11992499439292b1909a48 (cA (bj 0x2b092b199219009929 qh (JS g))) eH Vh c) (fun i x=> ?_) e u h;exact acC (u i ((l+r) / 2) (ab8 x) (dZ 0x3b0932a2b199219009939 qh (JS g) b)) (adV.mp q)
theorem I3:∀(f:Nat) (p:Array Nat) (k:Nat),WP n p->1<=k->k+f=n->Up key p k->(∀p',WP n p'->Up key p' n->P p')->KW n (klt key) (kas_bin f p k) P:=by
 intro f;induction f with
 | zero=>exact fun p k W a b u h=>h p W (by exact(show k=n by lia) ▸ u)
 | succ f ih=>
  intro p k W a b u h;refine KW.bind (A7 W (by lia) k 0 k (aci _) (abE _) (abE _) (fun i x=>absurd x (acv (aci _))) (fun i x y=>absurd y (acv x)) u fun l hl h1 h2=>ih _ (k+1) (W.bub _ _) (ado _ _) (aac (bj 0x21b0992b1909918 (bh b)) (bj 0x2b1990b29190918 (bl b))) (fun i j x y=> ?_) h);have hs:k<p.size:=by exact W.sz ▸ bj 757094044178712 (bh b)
  rw[A4 hs (acE (cA hl)),A4 hs (acE (cA hl)),show k-(k-l)=l by lia];by_cases i1:i=l
  ·rw[if_pos i1];by_cases j1:j=l
   ·rw[if_pos j1];exact acd _
   ·rw[if_neg j1,if_pos (⟨(aca (ab3 (bl i1) x) (Ne.symm j1)),ab8 y⟩)];exact ac0 (h2 _ (bj 9203537539012904 (aca (ab3 (bl i1) x) (Ne.symm j1)) eH) (by lia))
  ·rw[if_neg i1];by_cases i2:l<i/\i<=k
   ·rw[if_pos i2,if_neg (by lia),if_pos (⟨ab3 i2.1 x,ab8 y⟩)];exact u _ _ (dZ 0x30b39292191b09938 (cA (ba 7276108056 i2.1)) x eH) (bj 0x2b09b29b1991b09928 (cA (bj 47423178185000 i2.1 x)) y)
   ·rw[if_neg i2];by_cases j1:j=l
    ·rw[if_pos j1];exact h1 _ ((aca (ab3 x (bh j1)) i1))
    ·rw[if_neg j1];by_cases j2:l<j/\j<=k
     ·rw[if_pos j2];exact u _ _ (by lia) (bj 0x2b092191b09928 (cA (ba 7276108056 j2.1)) j2.2)
     ·rw[if_neg j2];exact u _ _ x (by lia)
theorem Eu(h1:1<=n)(h:∀p',WP n p'->Up key p' n->P p'):KW n (klt key) (kas_sort n) P:=by
 refine KW.bind (A6 ⟨by simp,by rfl⟩ h1 fun r p' W a b u=> ?_);simp only[show max r 1=r by lia];split
 ·exact I3 _ p' r W a (aac (bj 2205768784152 (cA b)) (bj 1275640482072 eH)) u h
 ·exact h p' W (by exact(show r=n by lia) ▸ u)
end
noncomputable def bf(t:List Int):Int:=(t.getD 0 0*3+t.getD 1 0)*64+t.getD 2 0
def cz(t:List Int):Prop:=∃a p m:Int,t= [a,p,m]/\0<=p/\p<3/\0<=m/\m<64
theorem p5(h:cz t)(r:VP aa (.tup t) v):∃(a p m:Int) (x:Addr) (t1 t2 t3:Tok),t= [a,p,m]/\0<=p/\p<3/\0<=m/\m<64/\v= .ref x/\(x,gw [.int a t1,.int p t2,.int m t3])∈aa:=by
 refine nh h fun a p m Sb h1 h2 h3 h4=> ?_;subst Sb;refine bG r fun x its Sd hm hi=> ?_;subst Sd;cases hi with
 | cons _ t1 r1=>cases r1 with
  | cons _ t2 r2=>cases r2 with
   | cons _ t3 r3=>cases r3;exact⟨a,p,m,x,t1,t2,t3,rfl,h1,h2,h3,h4,rfl,hm⟩
theorem Ew(hn:∀p∈aa,h.get? p.1=some p.2):∀ {xs:List (List Int)} {its:List Value},aM (VP aa) (xs.map Kd.tup.inj) its->(∀t∈xs,cz t)->∃fs,KatTups h its fs/\fs.length=xs.length/\∀v∈fs,∃i t,v=Value.int i t:=by
 intro xs;induction xs with
 | nil=>intro _ r _;cases r;exact⟨[],.nil,rfl,fun Z z=>(bg z)⟩
 | cons t xs ih=>
  intro _ r hx;cases r with
  | cons r1 r2=>
   refine cps fun Z zk=> ?_;obtain⟨a,p,m,x,t1,t2,t3,rfl,_,_,_,_,rfl,hm⟩:=p5 (hx _ (.head _)) r1;refine bD (ih r2 fun t ht=>hx t (.tail _ ht)) fun fs h1 h2 h3=>zk ?_;refine⟨.int a t1::fs,.cons (hn _ hm) rfl rfl rfl h1,by simp[h2],fun v hv=> ?_⟩;rcases abi.mp hv with rfl | hv
   ·exact⟨_,_,rfl⟩
   ·exact h3 v hv
theorem U2{K q q' m m':Int}(hm:0<=m)(fQ:0<=m'/\m'<K)(h:q'<q):q'*K+m'<q*K+m:=by have k:=Int.mul_le_mul_of_nonneg_right (show q'+1<=q from h) (acC fQ.1 (ac0 fQ.2));rw[Int.add_mul,Int.one_mul]at k;exact Int.lt_of_lt_of_le (Int.add_lt_add_left fQ.2 _) (acC k (Int.le_add_of_nonneg_right hm))
theorem I4{K q q' m m':Int}(hm:0<=m/\m<K)(fQ:0<=m'/\m'<K)(h:q≠q'):decide (q*K+m<q'*K+m')=decide (q<q')/\q*K+m≠q'*K+m':=by
 rcases Int.lt_or_gt_of_ne h with k | k
 ·have z:=U2 fQ.1 hm k;exact⟨by rw[decide_eq_true k,decide_eq_true z],Int.ne_of_lt z⟩
 ·have z:=U2 hm.1 fQ k;exact⟨by rw[decide_eq_false (Int.lt_asymm k),decide_eq_false (Int.lt_asymm z)],Int.ne_of_gt z⟩
theorem Se(hp:0<=p/\p<3)(qo:0<=p'/\p'<3)(hm:0<=m/\m<64)(fQ:0<=m'/\m'<64):decide (bf [a,p,m]<bf [a',p',m'])=ite (a=a') (ite (p=p') (ite (m=m') false (decide (m<m'))) (decide (p<p'))) (decide (a<a')):=by
 show decide ((a*3+p)*64+m<(a'*3+p')*64+m')=_;by_cases h1:a=a'
 ·rw[if_pos h1,h1];by_cases h2:p=p'
  ·rw[if_pos h2,h2];by_cases h3:m=m'
   ·rw[if_pos h3,h3];exact decide_eq_false (Int.lt_irrefl _)
   ·rw[if_neg h3];exact decide_eq_decide.mpr (Int.add_lt_add_iff_left _)
  ·rw[if_neg h2];exact(I4 hm fQ fun z=>h2 (aej z)).1.trans (decide_eq_decide.mpr (Int.add_lt_add_iff_left _))
 ·rw[if_neg h1];exact(I4 hm fQ (I4 hp qo h1).2).1.trans (I4 hp qo h1).1
theorem xu{s:Shared}{t1 t2 t3 u1 u2 u3:Tok}(hp:0<=p/\p<3)(qo:0<=p'/\p'<3)(hm:0<=m/\m<64)(fQ:0<=m'/\m'<64) (h:Q (decide (bf [a,p,m]<bf [a',p',m'])) s):KatLex prog w A true false Q [(.int a t1,.int a' u1),(.int p t2,.int p' u2),(.int m t3,.int m' u3)] 0 s:=by
 rw[Se hp qo hm fQ]at h;refine kat_cons (wpAny_eqBool_int ?_);by_cases h1:a=a'
 ·rw[if_pos h1]at h;rw[beq_iff_eq.mpr h1];refine kat_yes (kat_cons (wpAny_eqBool_int ?_));by_cases h2:p=p'
  ·rw[if_pos h2]at h;rw[beq_iff_eq.mpr h2];refine kat_yes (kat_cons (wpAny_eqBool_int ?_));by_cases h3:m=m'
   ·rw[if_pos h3]at h;rw[beq_iff_eq.mpr h3];exact kat_yes (kat_nil h)
   ·rw[if_neg h3]at h;rw[beq_false_of_ne h3];exact kat_no (kat_one _ _ (lt_int h))
  ·rw[if_neg h2]at h;rw[beq_false_of_ne h2];exact kat_no (kat_one _ _ (lt_int h))
 ·rw[if_neg h1]at h;rw[beq_false_of_ne h1];exact kat_no (oneLt_int h)
theorem mN{α:Type}(d:α)(xs:List α):(acj xs.length).map (fun i=>xs.getD i d)=xs:=by
 apply adi;intro i;by_cases h:i<xs.length
 ·simp[h]
 ·simp[aeb h]
section
variable{e:Fm}{c:St}
theorem A8(hx:Cx e)(hs:c.aj[i]? =some (.vals .tup xs))(h2:2<=xs.length)(RN:xs.length<64)(hm:∀t∈xs,cz t) (h:∀ys:List (List Int),ys.Perm xs->ys.Pairwise (fun a b=>bf a<=bf b)->Q (.ref c.aj.length) {c with aj:=c.aj++ [.vals .tup ys]}):cN e VR [.ref i] (fun vs=>call (.builtin "sorted") vs) c Q:=by
 refine .x7 (.r fun x ad m aa a n ha R E q=>n.lL hs ha fun its k' vp hi hz ho=> ?_);have hlen:=hi.length;rw[aaR]at hlen;refine kat_sorted n.F n.N (aO ho) (ab3 h2 (bh hlen)) (ba 0x402fb09402fb19910928 (bl hlen) RN) fun D e1 h' F' N' hD=> ?_;have hn:∀p∈aa,h'.get? p.1=some p.2:=fun p hp=>(N' p (.tail _ hp)).1;refine bD (Ew hn hi hm) fun fs k1 k2 k3=>kat_kind k1 (ba 30412874254632 (bl k2) h2) (T:=.type "int") (fun v hv=> ?_) rfl ?_
 ·refine eP (k3 v hv) fun z t Sf=> ?_;subst Sf;exact Looks.of_pure rfl
 refine hlen ▸ ?_;refine KW.run (fun i j C Sg nc hC=> ?_) (fun p hp=> ?_) (Eu (bY 11585816 h2) (P:=fun p=>WP xs.length p/\Up (fun i=>bf (xs.getD i [])) p xs.length) fun p W u=>⟨W,u⟩)
 ·refine cps fun Z zk=> ?_;refine ah (hi.get (i:=i) (by simp[Sg];rfl)) fun v hv rv=> ?_;refine ah (hi.get (i:=j) (by simp[nc];rfl)) fun v' hv' rv'=> ?_;obtain⟨a1,p1,m1,x1,t1,t2,t3,e1',q1,q2,q3,q4,rfl,Hg⟩:=p5 (hm _ (ady Sg)) rv;obtain⟨a2,p2,m2,x2,u1,u2,u3,e2',q5,q6,q7,q8,rfl,dw⟩:=p5 (hm _ (ady nc)) rv';refine zk ?_;have g1:its.getD i Value.none= .ref x1:=by simp[acU,hv]
  have g3:xs.getD i []= [a1,p1,m1]:=by simp[acU,Sg,e1']
  have g4:xs.getD j []= [a2,p2,m2]:=by simp[acU,nc,e2']
  show wpAny _ _ (keyLt' _ (its.getD i Value.none) (its.getD j Value.none)) C _ _;rw[g1,(show its.getD j Value.none= .ref x2 from by simp[acU,hv'])];have hC':C (decide (bf [a1,p1,m1]<bf [a2,p2,m2])) {x with heap:=h'}:=by exact g3 ▸ g4 ▸ hC
  exact kat_lt (hn _ Hg) rfl (hn _ dw) rfl (xu ⟨q1,q2⟩ ⟨q5,q6⟩ ⟨q3,q4⟩ ⟨q7,q8⟩ hC')
 ·refine aI hp fun W u=>KasFin.intro F' N' (.head (fun q hq=>adg (hD q hq))) fun yJ c' F2 N2=> ?_;have vQ:(p.toList.map fun i=>xs.getD i []).Perm xs:=by
   have:=(W.pm.map fun i=>xs.getD i []);rwa [mN]at this
  have o6:aM (VP aa) ((p.toList.map fun i=>xs.getD i []).map Kd.tup.inj) (p.toList.map fun i=>its.getD i Value.none):=by
   have bT:∀i∈p.toList,i<xs.length:=fun i Sg=>acB.mp (W.pm.mem_iff.mp Sg);generalize p.toList=l at bT;induction l with
   | nil=>exact .nil
   | cons i l ih=>have A9:=bT i (.head _);refine ah (hi.get (i:=i) (by simp[A9];rfl)) fun v hv rv=>.cons ?_ (ih fun j hj=>bT j (.tail _ hj));show VP aa (.tup (xs.getD i [])) (its.getD i Value.none);simp only[show its.getD i Value.none=v by simp[acU,hv],show xs.getD i []=xs[i] by simp[acU,A9]];exact rv
  have ph:p.toList.length=xs.length:=by simp only[Array.length_toList];exact W.sz
  refine aI (n.new (o:=.vals .tup (p.toList.map fun i=>xs.getD i [])) hD F2 N2 ⟨p.toList.map fun i=>its.getD i Value.none,c',rfl,o6.mono fun Z Z=>VP.mono (jH (ad:=ad)),by simp only[aaR,ph];exact hz⟩) fun n2 x2=>q _ _ _ _ _ _ _ _ (h (p.toList.map fun i=>xs.getD i []) vQ ?_) n2 x2 ⟨D,by show(ad.m++ [D])[_]? =_;rw[<-n.len];simp,rfl⟩;rw[ad0,List.pairwise_iff_getElem];intro i j BJ z5 qi;have u':=u i j (aco qi) (ab3 z5 (bh ph));have e3:∀i (hi:i<p.toList.length),p.getD i 0=p.toList[i]:=fun i hi=>by
   have hp:i<p.size:=by rw[W.sz];exact ab3 hi (bh ph)
   simp[Array.getD,hp]
  unfold kk at u';rw[e3 i BJ,e3 j z5]at u';exact u'
end
noncomputable def xv:PV->Dat
 | .none=>.none
 | .bool b=>.bool b
 | .int i=>.int i
 | .str x=>.str (SS x)
 | .tup ns=>.tuple (ns.map .int)
theorem xy(h:IntsAre its ns):DatAll aa its (ns.map .int):=by
 induction h with
 | nil=>exact .nil
 | cons n t r ih=>exact .cons (.int n t) ih
theorem I5:∀ {p:PV} {v:Value},VP aa p v->DatIn aa v (xv p)
 | .none,_,h=>by exact h ▸ .none
 | .bool b,_,h=>by exact h ▸ .bool b
 | .int i,_,h=>by refine aA h fun t Sh=> ?_;exact Sh ▸ .int i t
 | .str x,_,h=>by refine aA h fun t Si=> ?_;exact Si ▸ .str _ t
 | .tup ns,_,h=>by refine bG h fun a its Sj hm hi=> ?_;exact Sj ▸ .tuple hm (xy hi)
theorem p9(h:aM (VP aa) ps its):DatAll aa its (ps.map xv):=by
 induction h with
 | nil=>exact .nil
 | cons h _ ih=>exact .cons (I5 h) ih
theorem mO:∀ {its:List Value} {ns:List Int},IntsAre its ns->aM (VP aa) (ns.map (Kd.inj .int)) its
 | _,_,.nil=>.nil
 | _,_,.cons n t r=>.cons ⟨t,rfl⟩ (mO r)
def I6:PV->Prop
 | .none=>True
 | .bool _=>False
 | .int _=>True
 | .str x=>∀c∈x,c<0x110000
 | .tup _=>True
theorem Ba(h:I6 p):kqdOk 8 (xv p)=true:=by
 cases p with
 | none=>rfl
 | bool b=>exact h.elim
 | int i=>rfl
 | str x=>show(SS x).cps.all (· <0x110000)=true;simp only[SS,List.all_toArray,aaZ,decide_eq_true_eq];exact h
 | tup ns=>show(ns.map Dat.int).all (kqdOk 7)=true;simp only[aeh,aaZ];intro i _;rfl
section
variable{e:Fm}{c:St}
theorem Bb(hx:Cx e)(hk:4<=e.k){xs:List kd.ty}(hi:c.aj[i]? =some (.vals kd xs))(hj:c.aj[j]? =some (.vals kd xs))(tB:∀x∈xs,I6 (kd.inj x))(h:Q (.pv (.bool false)) c):bM e VR (.ref i) (.ref j) (compareOp .NotEq) c Q:=by
 rintro x ad m aa _ _ n r r' R E p;refine cps fun Z zk=>cI (n.at hi r) fun a ob Sk ha hm Sl ho=> ?_;subst Sk;obtain⟨its,k1,rfl,BJ,hz1⟩:=Sl;refine cI (n.at hj r') fun b ob' Sm hb fQ Sn Lr=> ?_;subst Sm;obtain⟨gd,k2,rfl,vi,J6⟩:=Sn;refine zk ?_;have hd:∀d∈(xs.map kd.inj).map xv,kqdOk 8 d=true:=fun d hd=>by refine ah (ab6.mp hd) fun q hq So=> ?_;subst So;refine ah (ab6.mp hq) fun y hy Sp=>Sp ▸ Ba (tB y hy)
 refine kqd_ne n.N hm rfl rfl (p9 BJ) (fun Z z=>z) fQ rfl rfl (p9 vi) (fun Z z=>z) hd hd (by have:=hx.Cn;lia) (p _ _ _ _ _ _ _ _ h n (Ext.refl ..) ?_);show Value.bool _=Value.bool _;simp
theorem Ez(hx:Cx e)(hk:4<=e.k)(hj:c.aj[j]? =some (.vals .int xs))(hz:z∈xs)(h:Q (.pv (.bool false)) c):bM e VR (.pv (.int z)) (.ref j) (compareOp .NotIn) c Q:=by
 rintro x ad m aa _ _ n ⟨t,rfl⟩ r' R E p;refine cI (n.at hj r') fun b ob' Sq hb fQ Sr Lr=> ?_;subst Sq;obtain⟨gd,k2,rfl,vi,J6⟩:=Sr;have hd:∀d∈(xs.map (Kd.inj .int)).map xv,kqdOk 8 d=true:=fun d hd=>by refine ah (ab6.mp hd) fun q hq Ss=> ?_;subst Ss;refine ah (ab6.mp hq) fun y hy Su=>Su ▸ rfl
 refine kqd_notIn n.N fQ rfl rfl (p9 vi) (fun Z z=>z) (.int z t) (fun Z z=>z) hd rfl (by have:=hx.Cn;lia) (p _ _ _ _ _ _ _ _ h n (Ext.refl ..) ?_);show Value.bool _=Value.bool _;simp only[(ab6.mpr ⟨.int z,ab6.mpr ⟨z,hz,rfl⟩,rfl⟩:Dat.int z∈(xs.map (Kd.inj .int)).map xv),decide_true,Bool.not_true]
theorem EA(hz:ns.length<=100000)(h:Q (.ref c.aj.length) {c with aj:=c.aj++ [.vals .int ns]}):cN e VR [.pv (.tup ns)] (fun vs=>call (.type "list") vs) c Q:=by rintro x ad m aa _ n (_ | ⟨⟨a,its,rfl,hm,hi⟩,_ | _⟩) R E q;have hl:=hi.length;refine kup_listOfT n.F n.N hm (zs:=its) (by simp) (fun D c' h' F' N' l1=> ?_) (by have:=aD;simp;lia);refine aI (n.new (o:=.vals .int ns) l1 F' N' ⟨its,c',rfl,mO hi,hz⟩) fun n2 x2=>q _ _ _ _ _ _ _ _ h n2 x2 ⟨D,by show(ad.m++ [D])[_]? =_;refine n.len ▸ ?_;simp,rfl⟩
theorem xA(hs:c.aj[i]? =some (.vals .int xs))(hz:xs.length+ys.length<=100000)(h:Q (.pv .none) {c with aj:=c.aj.set i (.vals .int (xs++ys))}):cN e VR [.ref i,.pv (.tup ys)] (fun vs=>call (.builtin "list.extend") vs) c Q:=by
 rintro x ad m aa _ n (_ | ⟨r,_ | ⟨⟨b,rF,rfl,ya,JW⟩,_ | _⟩⟩) R E q;refine cps fun _ zk=>cI (n.at hs r) fun a ob Sw ha hm Sx ho=> ?_;obtain rfl:=Sw.symm;obtain⟨its,k',rfl,hi,BI⟩:=Sx;refine zk ?_;have hlen:=hi.length;simp only[aaR]at hlen;have hlb:=JW.length;by_cases h0:rF= []
 ·obtain rfl:=h0.symm;have:ys= []:=acT hlb.symm;refine cps fun _ zk=> ?_;subst this;refine zk (call_meets PySem.F.slot_list_extend ⟨_,(n.N _ hm).1,rfl⟩ PySem.F.entry_list_extend (PySem.F.args_list_extend_2 _ _) (PySem.AutoSeq1.list_extend_list_tuple_0 a its.toArray k' b #[] 0 (extend_door (by have:=aD;simp;lia)) (by have:=aD;simp;lia) (by have:=aD;simp;lia)) ⟨(n.N _ hm).1,(n.N _ ya).1,?_⟩);have e0:bB aa a (listOf its.toArray k')=aa:=by
   conv=>rhs;rw[<-aeA aa]
   apply acH;intro p hp;split
   ·rename_i z;refine cps fun _ zk=> ?_;obtain⟨b,o⟩:=p;obtain rfl:=z.symm;refine zk ?_;refine(dz n.nd hp hm) ▸ ?_;rfl
   ·rfl
  have F':Fr e.h₀ e.L (x.heap.update a (Obj.mapSeq fun y=>y++ #[])) m:=n.F.change (Heap.SameBut.update ..) (n.N _ hm).2.1 (n.N _ hm).2.2;have N':News e.h₀ e.L (x.heap.update a (Obj.mapSeq fun y=>y++ #[])) aa:=by
   have N0:News e.h₀ e.L (x.heap.update a (Obj.mapSeq fun y=>y++ #[])) (bB aa a (listOf its.toArray k')):=by refine ng ((cJ (o':=listOf its.toArray k') n.nd hm).split) fun pre post e1 e2 a1 b1=>e2 ▸ ?_;have N:=n.N;simp only[e1]at N;refine news_set N a1 b1 (Heap.SameBut.update ..) ?_;have:=Heap.get?_update_self (Obj.mapSeq fun y=>y++ #[]) ho (by simp only[mapSeq_app];rfl);simp only[mapSeq_app]at this;simp only[this];simp
   simp only[e0]at N0;exact N0
  have e2:c.aj.set i (.vals .int (xs++ []))=c.aj:=by
   simp only[ab5];apply adi;intro j;by_cases hj:j=i
   ·obtain rfl:=hj.symm;rw[hs,acK,if_pos rfl,if_pos ((aab.mp hs).1)]
   ·simp only[acr (Ne.symm hj)]
  simp only[e2]at h;exact q (.pv .none) .none _ _ x.toks ad m aa h (n.heap F' N') (Ext.refl ..) rfl
 ·refine kup_extend n.F n.N ya (l:=its++rF) (by simp) (by simpa using h0) (cJ n.nd hm) (extend_door (by have:=aD;simp;lia)) (by have:=aD;simp;lia) (by have:=aD;simp;lia) fun h' F' N'=> ?_;have x':Ext ad aa ad (bB aa a (listOf (its++rF).toArray (k'+1))):=cf n.nd (Ad.bk ha) hm (by simp);exact q (.pv .none) .none _ h' x.toks ad m _ h (n.upd hs ha hm (by simp) F' N' ⟨its++rF,k'+1,rfl,by simp only[acq];exact(hi.mono fun _ _=>VP.mono x'.gr).append ((mO JW).mono fun _ _=>VP.mono x'.gr),by simp;lia⟩) x' rfl
theorem I7(h:Wp e VR (eval a e.env) c fun u c1=>cP e cD u truthy c1 fun t c2=>match t with | true=>Wp e VR (eval b e.env) c2 Q | false=>Q u c2):Wp e VR (eval (.BoolOp .And [a,b] pos) e.env) c Q:=
 fun x ad m aa n R E p=>BoolOp_and (h x ad m aa n _ E fun u u' c1 h1 dF bx m1 av q1 n1 x1 r1=>q1 _ bx m1 av u' n1 r1 _ E fun t t' c2 h2 gI bp m2 ay q2 n2 x2 r2=>by
  subst r2;cases t with
  | true=>exact BoolOp_one (q2 _ bp m2 ay n2 R E (p.ext (x1.trans x2)))
  | false=>exact p _ _ _ _ _ _ _ _ q2 n2 (x1.trans x2) (VR.mono x2 r1))
end
abbrev fO(w:Wd)(ws:List (List Nat))(pv:Option V):List AO:=w.aj++ [.cell (some (.ref 45)),.vals .str ws,.cell pv]
abbrev Kv(sz:Int):List (Str×V):= [(s "words",.ref 44),(s "p",.ref 46),(s "size",.pv (.int sz)),(s "world",.ref 0)]
abbrev uq(sz:Int):List (Str×V):=Kv sz++ [(s "mails",.ref 43)]
abbrev Kw:Stmt:=at_ kY 10
abbrev FW:Stmt:=at_ kY 11
abbrev qv:Stmt:=at_ kY 12
abbrev Kx:Stmt:=at_ kY 13
abbrev xB:Stmt:=at_ kY 14
abbrev Ky:Stmt:=at_ kY 15
abbrev Kz:Stmt:=at_ kY 16
abbrev I8:Stmt:=at_ kY 17
abbrev yq:Stmt:=at_ kY 18
abbrev B1:Stmt:=at_ kY 19
theorem ab4:kY= [l0,l1,l2,l3,l4,l5,l6,l7,l8,l9,Kw,FW,qv,Kx,xB,Ky,Kz,I8,yq,B1]:=by kernel_rfl
abbrev FX:Expr:=Gq (sZ FW)
theorem I9:FX= .Subscript (.Name (s "words") (aw (dh FX))) (.Slice none (some (jI (oT FX))) none (nQ FX)) (aw FX):=by kernel_rfl
abbrev i12:Stmt:=at_ (ax qv) 0
abbrev j12:Stmt:=at_ (ax i12) 0
abbrev sV:Expr:=Gq (yC 1 (sZ j12))
theorem Sy:qv= .For (.Name (s "p") (eI qv)) (.Call (.Name (s "range") (fJ (hG (aG qv)))) [az 0 (aG qv)] [] (s8 (aG qv))) (ax qv) [] (di qv):=by kernel_rfl
theorem Ja:ax qv= [.For (.Name (s "q") (eI i12)) (.Call (.Name (s "range") (fJ (hG (aG i12)))) [az 0 (aG i12)] [] (s8 (aG i12))) (ax i12) [] (di i12)]:=by kernel_rfl
theorem Jb:ax i12= [j12]:=by kernel_rfl
theorem Jc:sV= .ListComp (bH sV) [⟨.Name (s "mail") (aw (dT sV).target),(dT sV).iter,[(dT sV).ifs.headD z0],0⟩] (cb sV) (aw sV):=by kernel_rfl
abbrev lcS:Scope:=kC (cb sV) aK
abbrev hW(sz q:Int):List (Str×V):=uq sz++ [(s "q",.pv (.int q))]
abbrev U3(e:Fm)(i:Nat)(c0:AF->St->Prop)(b:V)(c2:St):Prop:=
 cw .NotEq (.ref i) b c2 (fun v c3=>CH v c3 (fun d c1=>fL d (c0 (.ret (.pv (.bool false))) c1) (c0 .next c1)) (cP e cD v truthy c3 (fun d c1=>fL d (c0 (.ret (.pv (.bool false))) c1) (c0 .next c1)))) (bM e VR (.ref i) b (compareOp .NotEq) c2 fun v c3=>cP e cD v truthy c3 (fun d c1=>fL d (c0 (.ret (.pv (.bool false))) c1) (c0 .next c1)))
section
variable(P:Params)(e:Fm)(Q:AF->St->Prop)(K:V->St->Prop)
theorem Sz(sz:Int)(w:Wd)(ws:List (List Nat))(pv:Option V):cZ (xw e P aK 40) [Kw] ⟨Kv sz,fO w ws pv⟩ Q=Q .next ⟨uq sz,fO w ws pv⟩:=by kernel_rfl
theorem Jd(sz:Int)(w:Wd)(ws:List (List Nat))(pv:Option V):ew e P aK 40 (dh FX) ⟨uq sz,fO w ws pv⟩ K=K (.ref 45) ⟨uq sz,fO w ws pv⟩:=by kernel_rfl
theorem Je(sz:Int)(w:Wd)(ws:List (List Nat))(pv:Option V):ew e P aK 40 (jI (oT FX)) ⟨uq sz,fO w ws pv⟩ K=K (.pv (.int w.ae.length)) ⟨uq sz,fO w ws pv⟩:=by kernel_rfl
theorem Bc(c:St):ew e P aK 40 (az 0 (aG qv)) c K=K (.pv (.int 3)) c/\ew e P aK 40 (az 0 (aG i12)) c K=K (.pv (.int 3)) c:=⟨by kernel_rfl,by kernel_rfl⟩
theorem qa(sz q q':Int):put (uq sz) (s "q") (.pv (.int q))=hW sz q/\put (hW sz q) (s "q") (.pv (.int q'))=hW sz q'/\put (hW sz q) (s "mail") (.ref 48)=hW sz q++ [(s "mail",.ref 48)]:=by and_intros<;>kernel_rfl
theorem Jf(sz q p:Int)(w:Wd)(ws:List (List Nat))(acc:List (List Int))(t:List Int)(B:Bool->St->Prop):tw e (ew e P lcS 40) 40 ((dT sV).ifs.headD z0) ⟨hW sz q++ [(s "mail",.ref 48)],fO w ws (some (.pv (.int p)))++ [.vals .tup acc,.ns [(s "mail",.pv (.tup t))]]⟩ B= ((0<=(1:Int)/\(1:Int)<t.length/\t.length<=100000)/\B (t.getD 1 0==p) ⟨hW sz q++ [(s "mail",.ref 48)],fO w ws (some (.pv (.int p)))++ [.vals .tup acc,.ns [(s "mail",.pv (.tup t))]]⟩):=by kernel_rfl
theorem Jg(sz q p:Int)(w:Wd)(ws:List (List Nat))(acc:List (List Int))(t:List Int):ew e P lcS 40 (bH sV) ⟨hW sz q++ [(s "mail",.ref 48)],fO w ws (some (.pv (.int p)))++ [.vals .tup acc,.ns [(s "mail",.pv (.tup t))]]⟩ K= K (.pv (.tup t)) ⟨hW sz q++ [(s "mail",.ref 48)],fO w ws (some (.pv (.int p)))++ [.vals .tup acc,.ns [(s "mail",.pv (.tup t))]]⟩:=by kernel_rfl
theorem Jh(sz q:Int)(w:Wd)(ws:List (List Nat))(pv:Option V):ew e P aK 40 (dT sV).iter ⟨hW sz q,fO w ws pv⟩ K=K (.ref 43) ⟨hW sz q,fO w ws pv⟩:=by kernel_rfl
theorem xC:b7 (cb sV) aK (s "mail")=true/\look aK.names (s "q")=some .local/\look aK.names (s "due")=some .local/\look aK.names (s "row")=some .local/\look aK.names (s "free")=some .local/\look aK.names (s "mail")=some .local/\isStar (az 0 (aG qv))=false/\isStar (az 0 (aG i12))=false/\look aK.names (s "sorter")=some .local:=by and_intros<;>kernel_rfl
end
abbrev kP(w:Wd)(ws:List (List Nat))(pv:Option V)(bc:List (List Int)):List AO:=fO w ws pv++ [.vals .tup bc]
abbrev Ji(sz q:Int):List (Str×V):=hW sz q++ [(s "due",.ref 47)]
abbrev nO(sz q:Int)(r:Nat):List (Str×V):=Ji sz q++ [(s "row",.ref (38+r))]
abbrev KA(sz q:Int)(r:Nat):List (Str×V):=nO sz q r++ [(s "sorter",.ref 2)]
abbrev Jj(sz q:Int)(r:Nat):List (Str×V):=KA sz q r++ [(s "free",.ref 48)]
abbrev oN(sz q:Int)(r:Nat)(t:List Int):List (Str×V):=Jj sz q r++ [(s "mail",.pv (.tup t))]
abbrev oO(w:Wd)(ws:List (List Nat))(pv:Option V)(bc:List (List Int))(free:List Int):List AO:=kP w ws pv bc++ [.vals .int free]
abbrev xD:List Stmt:=ax yq
abbrev KC:Expr:=ak (at_ xD 2)
theorem SA:xB= .For (.Name (s "row") (eI xB)) (aG xB) (ax xB) [] (di xB):=by kernel_rfl
theorem SD:yq= .For (.Name (s "mail") (eI yq)) (aG yq) [at_ xD 0,at_ xD 1,at_ xD 2] [] (di yq):=by kernel_rfl
theorem Jk:at_ xD 2= .Expr (.Call (.Attribute (aR KC) (s "extend") (aw (hG KC))) [az 0 KC] [] (aw KC)) (bZ (at_ xD 2)):=by kernel_rfl
abbrev KD:Expr:=ak B1
theorem SE:B1= .Return (some (.BoolOp .And [yC 0 KD,.UnaryOp .Not (unV (yC 1 KD)) (K5 (yC 1 KD))] (K6 KD))) (bZ B1):=by kernel_rfl
abbrev FY:Expr:=Gq (yC 1 (sZ (at_ (ax xB) 0)))
theorem Jl:FY= .Subscript (.Name (s "due") (aw (dh FY))) (.Slice none (some (jI (oT FY))) none (nQ FY)) (aw FY):=by kernel_rfl
section
variable(P:Params)(e:Fm)(Q:AF->St->Prop)(K:V->St->Prop)
theorem SG(sz:Int)(w:Wd)(ws:List (List Nat))(pv:Option V):cZ (xw e P aK 40) [FW] ⟨uq sz,fO w ws pv⟩ Q=Wp e VR (eval FX e.env) ⟨uq sz,fO w ws pv⟩ fun b c2=>U3 e 42 Q b c2:=by kernel_rfl
theorem Jm(sz:Int)(w:Wd)(ws:List (List Nat)):∀(p q:Nat),p<3->q<3->cZ (xw e P aK 40) [j12] ⟨hW sz q,fO w ws (some (.pv (.int p)))⟩ Q= fL ((p:Int) != (q:Int)) (Wp e VR (eval sV e.env) ⟨hW sz q,fO w ws (some (.pv (.int p)))⟩ fun b c2=>U3 e (20+3*p+q) Q b c2) (Q .next ⟨hW sz q,fO w ws (some (.pv (.int p)))⟩)
 | 0,0,_,_=>by kernel_rfl
 | 0,1,_,_=>by kernel_rfl
 | 0,2,_,_=>by kernel_rfl
 | 1,0,_,_=>by kernel_rfl
 | 1,1,_,_=>by kernel_rfl
 | 1,2,_,_=>by kernel_rfl
 | 2,0,_,_=>by kernel_rfl
 | 2,1,_,_=>by kernel_rfl
 | 2,2,_,_=>by kernel_rfl
 | n+3,_,h,_=>gm h
 | _,n+3,_,h=>gm h
theorem SH(sz q:Int)(w:Wd)(ws:List (List Nat))(pv:Option V):cZ (xw e P aK 40) [Kx] ⟨hW sz q,fO w ws pv⟩ Q=cN e VR [.ref 43] (fun dc=>call (.builtin "sorted") dc) ⟨hW sz q,fO w ws pv⟩ fun v c1=>Q .next {c1 with loc:=put c1.loc (s "due") v}:=by kernel_rfl
theorem Jn(sz q:Int):put (hW sz q) (s "due") (.ref 47)=Ji sz q:=by kernel_rfl
theorem Jo(sz q:Int)(w:Wd)(ws:List (List Nat))(pv:Option V)(bc:List (List Int)):ew e P aK 40 (aG xB) ⟨Ji sz q,kP w ws pv bc⟩ K=K (.ref 37) ⟨Ji sz q,kP w ws pv bc⟩:=by kernel_rfl
theorem Bd(sz q:Int)(r r':Nat):put (Ji sz q) (s "row") (.ref (38+r))=nO sz q r/\put (nO sz q r) (s "row") (.ref (38+r'))=nO sz q r':=⟨by kernel_rfl,by kernel_rfl⟩
theorem SI(sz q:Int)(w:Wd)(ws:List (List Nat))(pv:Option V)(bc:List (List Int)):∀r,r<3->cZ (xw e P aK 40) (ax xB) ⟨nO sz q r,kP w ws pv bc⟩ Q= fL (decide (((w.out r).length:Int)<sz)) (Q (.ret (.pv (.bool false))) ⟨nO sz q r,kP w ws pv bc⟩) (Wp e VR (eval FY e.env) ⟨nO sz q r,kP w ws pv bc⟩ fun b c2=>U3 e (38+r) Q b c2)
 | 0,_=>by kernel_rfl
 | 1,_=>by kernel_rfl
 | 2,_=>by kernel_rfl
 | n+3,h=>gm h
theorem Jp(sz q:Int)(r:Nat)(w:Wd)(ws:List (List Nat))(pv:Option V)(bc:List (List Int)):ew e P aK 40 (dh FY) ⟨nO sz q r,kP w ws pv bc⟩ K=K (.ref 47) ⟨nO sz q r,kP w ws pv bc⟩:=by kernel_rfl
theorem Jq(sz q:Int)(w:Wd)(ws:List (List Nat))(pv:Option V)(bc:List (List Int)):∀r,r<3->ew e P aK 40 (jI (oT FY)) ⟨nO sz q r,kP w ws pv bc⟩ K=K (.pv (.int (w.out r).length)) ⟨nO sz q r,kP w ws pv bc⟩
 | 0,_=>by kernel_rfl
 | 1,_=>by kernel_rfl
 | 2,_=>by kernel_rfl
 | n+3,h=>gm h
theorem SJ(sz q:Int)(r:Nat)(w:Wd)(R:V)(po fi:Int)(ep:Nat)(es:List (Int×V))(g:List AO)(ws:List (List Nat))(pv:Option V)(bc:List (List Int)):cZ (xw e P aK 40) [Ky,Kz] ⟨nO sz q r,kP (bA w (bR R po fi ep es g)) ws pv bc⟩ Q= af e [.ref 2] (.ref 152) (kP (bA w (bR R po fi ep es g)) ws pv bc) fun Z σ=>Q .next ⟨KA sz q r,σ⟩:=by kernel_rfl
theorem SK(sz q:Int)(r:Nat)(w:Wd)(R:V)(po fi:Int)(ep:Nat)(es:List (Int×V))(g:List AO)(ws:List (List Nat))(pv:Option V)(bc:List (List Int)):cZ (xw e P aK 40) [I8] ⟨KA sz q r,kP (bA w (bR R po fi ep es g)) ws pv bc⟩ Q= af e [.ref 2] (.ref 159) (kP (bA w (bR R po fi ep es g)) ws pv bc) fun v σ=>cN e VR [v] (fun dc=>call (.type "list") dc) ⟨KA sz q r,σ⟩ fun v c1=>Q .next {c1 with loc:=put c1.loc (s "free") v}:=by kernel_rfl
theorem uu(sz q:Int)(r:Nat)(t t':List Int):put (KA sz q r) (s "free") (.ref 48)=Jj sz q r/\put (Jj sz q r) (s "mail") (.pv (.tup t))=oN sz q r t/\put (oN sz q r t) (s "mail") (.pv (.tup t'))=oN sz q r t':=by and_intros<;>kernel_rfl
theorem Jr(sz q:Int)(r:Nat)(σ:List AO):ew e P aK 40 (aG yq) ⟨Jj sz q r,σ⟩ K=K (.ref 47) ⟨Jj sz q r,σ⟩:=by kernel_rfl
theorem Js(sz q:Int)(r:Nat)(t:List Int)(w:Wd)(ws:List (List Nat))(pv:Option V)(bc:List (List Int))(free:List Int):cZ (xw e P aK 40) [at_ xD 0] ⟨oN sz q r t,oO w ws pv bc free⟩ Q= ((0<=(2:Int)/\(2:Int)<t.length/\t.length<=100000)/\bM e VR (.pv (.int (t.getD 2 0))) (.ref 48) (compareOp .NotIn) ⟨oN sz q r t,oO w ws pv bc free⟩ fun v c3=>cP e cD v truthy c3 (fun d c1=>fL d (Q (.ret (.pv (.bool false))) c1) (Q .next c1))):=by kernel_rfl
theorem Jt(sz q:Int)(r:Nat)(t:List Int)(w:Wd)(R:V)(po fi:Int)(ep:Nat)(es:List (Int×V))(g:List AO)(ws:List (List Nat))(pv:Option V)(bc:List (List Int))(free:List Int):cZ (xw e P aK 40) [at_ xD 1] ⟨oN sz q r t,oO (bA w (bR R po fi ep es g)) ws pv bc free⟩ Q= ((0<=(2:Int)/\(2:Int)<t.length/\t.length<=100000)/\af e [.ref 2,.pv (.int (t.getD 2 0))] (.ref 180) (oO (bA w (bR R po fi ep es g)) ws pv bc free) fun Z σ=>Q .next ⟨oN sz q r t,σ⟩):=by kernel_rfl
theorem Ju(sz q:Int)(r:Nat)(t:List Int)(σ:List AO):ew e P aK 40 (aR KC) ⟨oN sz q r t,σ⟩ K=K (.ref 48) ⟨oN sz q r t,σ⟩:=by kernel_rfl
theorem Jv(sz q:Int)(r:Nat)(t:List Int)(w:Wd)(R:V)(po fi:Int)(ep:Nat)(es:List (Int×V))(g:List AO)(ws:List (List Nat))(pv:Option V)(bc:List (List Int))(free:List Int):ew e P aK 40 (az 0 KC) ⟨oN sz q r t,oO (bA w (bR R po fi ep es g)) ws pv bc free⟩ K= af e [.ref 2] (.ref 159) (oO (bA w (bR R po fi ep es g)) ws pv bc free) fun v σ=>K v ⟨oN sz q r t,σ⟩:=by kernel_rfl
theorem Jw(sz q:Int)(r:Nat)(t:List Int)(w:Wd)(ws:List (List Nat))(pv:Option V)(bc:List (List Int))(free:List Int):ew e P aK 40 (yC 0 KD) ⟨oN sz q r t,oO w ws pv bc free⟩ K=K (.pv (.bool ((free.length:Int)==(w.ae.length:Int)))) ⟨oN sz q r t,oO w ws pv bc free⟩:=by kernel_rfl
theorem Jx(sz q:Int)(r:Nat)(t:List Int)(w:Wd)(R:V)(po fi:Int)(ep:Nat)(es:List (Int×V))(g:List AO)(ws:List (List Nat))(pv:Option V)(bc:List (List Int))(free:List Int):ew e P aK 40 (unV (yC 1 KD)) ⟨oN sz q r t,oO (bA w (bR R po fi ep es g)) ws pv bc free⟩ K= af e [.ref 2] (.ref 166) (oO (bA w (bR R po fi ep es g)) ws pv bc free) fun v σ=>K v ⟨oN sz q r t,σ⟩:=by kernel_rfl
end
noncomputable def mP(n:Nat):List (List Int)->List Nd->List Int->Prop
 | [],_,free=>free.length=n
 | t::r,aq,free=>∃v:Nat,t.getD 2 0=v/\v<aq.length/\(v:Int)∈free/\(aq.getD v (0,[])).1= -1/\(∀z∈(aq.getD v (0,[])).2,0<=z/\z<aq.length)/\(aq.getD v (0,[])).2.length<1000/\
  (∀z∈(d0 (aq.getD v (0,[])).2 (aq.set v (-2,(aq.getD v (0,[])).2),[])).2,0<=z/\z<(d0 (aq.getD v (0,[])).2 (aq.set v (-2,(aq.getD v (0,[])).2),[])).1.length)/\
  (free++(d0 (aq.getD v (0,[])).2 (aq.set v (-2,(aq.getD v (0,[])).2),[])).2).length<=1000/\
  mP n r (dI (d0 (aq.getD v (0,[])).2 (aq.set v (-2,(aq.getD v (0,[])).2),[])).2 (d0 (aq.getD v (0,[])).2 (aq.set v (-2,(aq.getD v (0,[])).2),[])).1) (free++(d0 (aq.getD v (0,[])).2 (aq.set v (-2,(aq.getD v (0,[])).2),[])).2)
structure oP(ws:List (List Nat))(sz:Nat)(x:PW):Prop where
 told:x.told=ws.take x.ae.length
 chars:∀y∈ws.take x.ae.length,∀c∈y,c<0x110000
 ae:2<=x.ae.length/\x.ae.length<64
 fM:∀t∈x.ae,cz t
 aY:∀p q,p<3->q<3->p≠q->x.aY p q=x.ae.filter fun t=>t.getD 1 0==(p:Int)
 out:∀bc:List (List Int),bc.Perm x.ae->bc.Pairwise (fun a b=>bf a<=bf b)->∀r,r<3->sz<=(x.out r).length/\x.out r=bc.take (x.out r).length
 aq:x.aq.length<900
 nup:∀u,u<x.aq.length->∀z∈(x.aq.getD u (0,[])).2,(u:Int)<z/\z<x.aq.length
 lets:∀bc:List (List Int),bc.Perm x.ae->bc.Pairwise (fun a b=>bf a<=bf b)->mP x.ae.length bc (dI (kK x.aq x.aq.length) x.aq) (kK x.aq x.aq.length)
theorem fn_get(w:Wd)(ws:List (List Nat))(pv:Option V)(g:List AO):(fO w ws pv++g)[42]? =some (.vals .str w.told)/\(fO w ws pv++g)[43]? =some (.vals .tup w.ae)/\(fO w ws pv++g)[45]? =some (.vals .str ws)/\(fO w ws pv++g)[46]? =some (.cell pv)/\(fO w ws pv++g)[2]? =some (.box w.gh)/\(fO w ws pv++g)[37]? =some (.refs [38,39,40]):=⟨rfl,rfl,rfl,rfl,rfl,rfl⟩
theorem EB(w:Wd)(ws:List (List Nat))(pv:Option V)(g:List AO):∀(q p:Nat),q<3->p<3->(fO w ws pv++g)[20+3*p+q]? =some (.vals .tup (w.aY p q))
 | 0,0,_,_=>rfl
 | 0,1,_,_=>rfl
 | 0,2,_,_=>rfl
 | 1,0,_,_=>rfl
 | 1,1,_,_=>rfl
 | 1,2,_,_=>rfl
 | 2,0,_,_=>rfl
 | 2,1,_,_=>rfl
 | 2,2,_,_=>rfl
 | n+3,_,h,_=>gm h
 | _,n+3,_,h=>gm h
theorem jR(w:Wd)(ws:List (List Nat))(i:Int)(sz q:Int):(fO w ws none).all (AO.under 47)=true/\(fO w ws (some (.pv (.int i)))).all (AO.under 47)=true/\(uq sz).all (fun x=>x.2.under 47)=true/\(hW sz q).all (fun x=>x.2.under 47)=true:=by and_intros<;>kernel_rfl
section
variable{e:Fm}
theorem eA.drop (h4:σ.all (AO.under σ.length)=true)(h5:l.all (fun x=>x.2.under σ.length)=true)(h:eA e t ⟨l,σ⟩ Q):eA e t ⟨l,σ++g⟩ Q:=
 fun x ad m aa n R E p=>h x _ m aa (n.take h4 h5) R E p
theorem qc(hx:Cx e)(hk:4<=e.k){xs:List kd.ty}(hi:c.aj[i]? =some (.vals kd xs))(hj:c.aj[j]? =some (.vals kd xs))(tB:∀x∈xs,I6 (kd.inj x))(h:Q .next c):U3 e i Q (.ref j) c:=by show bM e VR (.ref i) (.ref j) (compareOp .NotEq) c fun v c3=>cP e cD v truthy c3 _;exact Bb hx hk hi hj tB (cG h)
theorem xE{l:List (List Int)}(f:List Int->Bool)(h:l[k]? =some t):(l.take (k+1)).filter f=(l.take k).filter f++(if f t=true then [t]else []):=by rw[adG,h];simp only[Option.toList_some,ac3];congr 1;by_cases q:f t=true <;> simp[q]
theorem Be(hx:Cx e)(hs:e.scope=aK)(hm:∀t∈w.ae,cz t)(hz:w.ae.length<=1000) (h:Q (.ref 47) ⟨hW sz q,fO w ws (some (.pv (.int p)))++ [.vals .tup (w.ae.filter fun t=>t.getD 1 0==p),.ns []]⟩):Wp e VR (eval sV e.env) ⟨hW sz q,fO w ws (some (.pv (.int p)))⟩ Q:=by
 rw[Jc];refine pM hx (x:=s "mail") (us:=yg .tup w.ae) (K:=fun c=>c.aj[43]? =some (.vals .tup w.ae)) (hs ▸ xC.1) (fun Z=>rfl) (by kernel_rfl) (by kernel_rfl) (.vals .tup []) (.inl ⟨.tup,rfl⟩)
  (fun a k σ=>a=47/\∃l,σ=fO w ws (some (.pv (.int p)))++ [.vals .tup ((w.ae.take k).filter fun t=>t.getD 1 0==p),.ns l]) (fun a k σ hI=>by refine aI hI fun SM SN=> ?_;subst SM;refine aA SN fun l SO=> ?_;subst SO;exact⟨l,rfl⟩)
  (dr hx (i:=43) (kd:=.tup) (xs:=w.ae) (aB hx hs (Jh _ e _ sz q w ws _) ⟨rfl,rfl,rfl,⟨rfl,[],rfl⟩,rfl⟩)) (fun Z Z Z z=>z) (fun e' aL J4 cH qn a k u σ hu hI hK=> ?_) (fun a σ hI=> ?_)
 ·obtain⟨rfl,l,rfl⟩:=hI;refine ah (jQ hu) fun t ht SQ=> ?_;subst SQ;have vq:=hm t (abW ht);refine KR vq fun a p' m et Z=> ?_;have z6:t.length=3:=by rw[et];rfl
  have De:=(aab.mp ht).1;have lj:e'.scope=lcS:=by rw[qn,hs]
  rw[show put (hW sz q) (s "mail") (.ref (47+1))=hW sz q++ [(s "mail",.ref 48)] from(qa sz q 0).2.2];show Wp e' cD (isTrue ((dT sV).ifs.headD z0) e'.env (eval ((dT sV).ifs.headD z0) e'.env)) ⟨hW sz q++ [(s "mail",.ref 48)],fO w ws (some (.pv (.int p)))++ [.vals .tup ((w.ae.take k).filter fun t=>t.getD 1 0==p),.ns [(s "mail",.pv (.tup t))]]⟩ _;refine jE aL lj ?_;refine of_eq (Jf _ e' sz q p w ws _ t _) ⟨⟨lx [] [] 47616,bY 37506570512 (bl z6),bY 429498324289816 (bh z6)⟩,?_⟩;have zL:=xE (fun t=>t.getD 1 0==p) ht;cases hb:(t.getD 1 0==p)with
  | true=>
   rw[if_pos hb]at zL;refine aB aL lj (Jg _ e' _ sz q p w ws _ t) ?_;refine ed (kd:=.tup) (xs:=(w.ae.take k).filter fun t=>t.getD 1 0==p) rfl ?_ ⟨rfl,⟨rfl,[(s "mail",.pv (.tup t))],?_⟩,rfl⟩
   ·have h9:=ada (fun t:List Int=>t.getD 1 0==p) (w.ae.take k);rw[acO]at h9;exact ael h9 (by lia)
   ·rw[zL];rfl
  | false=>rw[if_neg (by rw[hb];simp),ab5]at zL;refine⟨rfl,⟨rfl,[(s "mail",.pv (.tup t))],?_⟩,rfl⟩;rw[zL]
 ·refine aI hI fun SU SV=> ?_;subst SU;refine aA SV fun l SW=> ?_;subst SW;rw[aaR,adk];exact h
theorem EC(hx:Cx e)(hs:e.scope=aK)(hk:4<=e.k)(hr:Rep w x)(H:oP ws sz x) (h:eA e (execs rest e.env) ⟨hW sz 2,fO w ws (some (.pv (.int 2)))⟩ Q):eA e (execs (Kw::FW::qv::rest) e.env) ⟨Kv sz,fO w ws (some (.pv (.int i0)))⟩ Q:=by
 have hmz:w.ae.length<64:=by rw[hr.sM];exact H.ae.2
 have nI:w.ae.length<=1000:=bY 0x3e83f0402fb09918 hmz;have vp:∀t∈w.ae,cz t:=by rw[hr.sM];exact H.fM
 refine eG (l1:= [Kw]) hx hs ?_;refine of_eq (Sz _ e _ sz w ws _) ?_;show eA e (execs (FW::qv::rest) e.env) _ _;refine eG (l1:= [FW]) hx hs ?_;refine of_eq (SG _ e _ sz w ws _) ?_;rw[I9];refine zP (aB hx hs (Jd _ e _ sz w ws _) (lz (lB (aB hx hs (Je _ e _ sz w ws _) ⟨_,rfl,45,.str,ws,0,w.ae.length,rfl,rfl,fun its Z=> ?_,?_⟩))))
 ·have:=kc (y:=(w.ae.length:Int)) (aa1 _) its;rwa [acw]at this
 have e1:(ws.drop 0).take w.ae.length=w.told:=by rw[hr.Dt,H.told,hr.sM];rfl
 rw[show((ws.drop 0).take w.ae.length:List (Kd.ty .str))=w.told from e1];refine qc hx hk (kd:=.str) (xs:=w.told) (fn_get w ws _ _).1 (by simp) (fun y hy=> ?_) ?_
 ·show ∀c∈y,c<0x110000;rw[hr.Dt,H.told]at hy;exact H.chars y hy
 refine eA.drop (jR w ws i0 sz 0).2.1 (jR w ws i0 sz 0).2.2.1 ?_;show eA e (execs (qv::rest) e.env) ⟨uq sz,fO w ws (some (.pv (.int i0)))⟩ Q;rw[Sy];refine dD ?_;refine tq (fun u c=>{c with aj:=c.aj.set 46 (.cell (some u))}) (fun Z=>rfl) (us:=iZ 3) (K:=fun Z=>True)
  (fun j c=>∃l i,((j=0/\l=uq sz)\/l=hW sz 2)/\(0<j->l=hW sz 2/\i=(j:Int)-1)/\c=⟨l,fO w ws (some (.pv (.int i)))⟩) (fun j u c hu hI Z=> ?_)
  (cy hx (n:=3) (lx [] [] 104857992456) (dm hx (by kernel_rfl) (cu hx (F:=False) False.elim ?_))) (fun j u c hu hI Z=> ?_) (fun c hI Z=> ?_)
 ·refine bG hI fun l i hl Z SX=> ?_;subst SX;refine oF (i:=46) (v₀:=some (.pv (.int i))) hx (by rw[hs];kernel_rfl) ?_ rfl rfl;rcases hl with⟨_,rfl⟩ | rfl
  ·kernel_rfl
  ·kernel_rfl
 ·rw[hs];refine of_eq (xm _ _ _ _) ⟨_,rfl,rfl,aS (aE xC.2.2.2.2.2.2.1 _ _) (aB hx hs (Bc _ e _ _).1 (aN (fV ⟨uq sz,i0,.inl ⟨rfl,rfl⟩,(fun z=>absurd z (acv (abE _))),rfl⟩)))⟩
 ·refine bG hI fun l i hl Z SY=> ?_;subst SY;have vt:j<3:=by
   have:=(aab.mp hu).1;simpa using this
  have AU:u= .pv (.int j):=by simp only[aa0,abh]at hu;refine ah hu fun j' nc S0=> ?_;subst S0;rw[acz vt]at nc;have zs:=aah.inj nc;subst zs;rfl
  subst AU;dsimp only;show Wp e bN (execs (ax qv) e.env) ⟨l,fO w ws (some (.pv (.int j)))⟩ _;rw[Ja];refine aT ?_;refine gU hx (hs ▸ xC.2.1) (fun Z=>rfl) (us:=iZ 3) (K:=fun Z=>True)
   (fun k c=>∃l,((k=0/\(l=uq sz\/l=hW sz 2))\/(0<k/\l=hW sz ((k:Int)-1)))/\c=⟨l,fO w ws (some (.pv (.int j)))⟩)
   (cy hx (n:=3) (lx [] [] 104857992456) (dm hx (by kernel_rfl) (cu hx (F:=False) False.elim ?_))) (fun k u c hu hI Z=> ?_) (fun c hI Z=> ?_)
  ·rw[hs];refine of_eq (xm _ _ _ _) ⟨_,rfl,rfl,aS (aE xC.2.2.2.2.2.2.2.1 _ _) (aB hx hs (Bc _ e _ _).2 (aN (fV ⟨l,.inl ⟨rfl,hl.imp (fun z=>z.2) id⟩,rfl⟩)))⟩
  ·refine ah hI fun l' jB S1=> ?_;have zs:=S1.symm;subst zs;have Kr:k<3:=by
    have:=(aab.mp hu).1;simpa using this
   have AU:u= .pv (.int k):=by simp only[aa0,abh]at hu;refine ah hu fun j' nc S2=> ?_;refine cps fun Z zk=> ?_;subst S2;refine zk ?_;clear zk;rw[acz Kr]at nc;have zs:=aah.inj nc;subst zs;rfl
   subst AU;have ep:put l' (s "q") (.pv (.int k))=hW sz k:=by
    rcases jB with⟨_,rfl | rfl⟩ | ⟨_,rfl⟩
    ·exact(qa sz k 0).1
    ·exact(qa sz 2 k).2.1
    ·exact(qa sz _ k).2.1
   dsimp only;show Wp e bN _ ⟨put l' (s "q") (.pv (.int k)),_⟩ _;rw[ep,Jb];refine Wp.Fu (bJ hx hs ?_);refine of_eq (Jm _ e _ sz w ws j k vt Kr) ?_;have fin:∀g,∃σ g',(fO w ws (some (.pv (.int (j:Int))))++g)=σ++g'/\(fO w ws (some (.pv (.int (j:Int))))).length<=σ.length/\True/\σ.all (AO.under σ.length)=true/\(hW sz k).all (fun x=>x.2.under σ.length)=true/\
     ((∃l,((k+1=0/\(l=uq sz\/l=hW sz 2))\/(0<k+1/\l=hW sz (((k+1:Nat):Int)-1)))/\(⟨hW sz k,σ⟩:St)=⟨l,fO w ws (some (.pv (.int (j:Int))))⟩)/\True):=fun g=>
    ⟨_,g,rfl,abE _,trivial,(jR w ws j sz k).2.1,(jR w ws j sz k).2.2.2,⟨hW sz k,.inr ⟨acy _,by rw[show((k+1:Nat):Int)-1=(k:Int) by lia]⟩,rfl⟩,trivial⟩
   by_cases hjk:j=k
   ·have hb:((j:Int) != (k:Int))=false:=by simp[hjk]
    rw[hb];have:=fin [];rw[ab5]at this;exact this
   ·have hb:((j:Int) != (k:Int))=true:=by simp;lia
    rw[hb];refine Be hx hs vp nI ?_;have hc:=H.aY j k vt Kr hjk;rw[<-hr.wM,<-hr.sM]at hc;refine qc hx hk (kd:=.tup) (xs:=w.aY j k) (EB w ws _ _ k j Kr vt) ?_ (fun Z Z=>trivial) (fin _);rw[hc];rfl
  ·refine ah hI fun l' jB S3=> ?_;have zs:=S3.symm;subst zs;have e3:(iZ 3).length=3:=rfl;rw[e3]at jB;have:l'=hW sz 2:=by
    rcases jB with⟨z,_⟩ | ⟨_,z⟩
    ·lia
    ·exact z
   have zs:=this.symm;subst zs;refine cQ ⟨⟨_,_,.inr rfl,fun Z=>⟨rfl,?_⟩,rfl⟩,trivial⟩;exact ace (bY 803319187456) (bY 37497703936)
 ·refine bG hI fun l i Z hl S4=> ?_;subst S4;have e3:(iZ 3).length=3:=rfl;rw[e3]at hl;refine aI (hl (acy _)) fun S5 S6=> ?_;subst S5;have zs:=S6.symm;subst zs;exact h
end
theorem Bf(w:Wd)(ws:List (List Nat))(pv:Option V)(bc:List (List Int))(g:List AO):(kP w ws pv bc++g)[47]? =some (.vals .tup bc)/\(kP w ws pv bc++g)[2]? =some (.box w.gh)/\(kP w ws pv bc)[2]? =some (.box w.gh):=⟨rfl,rfl,rfl⟩
theorem Jy(w:Wd)(ws:List (List Nat))(pv:Option V)(bc:List (List Int))(g:List AO):∀r,r<3->(kP w ws pv bc++g)[38+r]? =some (.vals .tup (w.out r))
 | 0,_=>rfl
 | 1,_=>rfl
 | 2,_=>rfl
 | n+3,h=>gm h
theorem kr(w:Wd)(ws:List (List Nat))(pv:Option V)(bc:List (List Int))(free:List Int):(oO w ws pv bc free)[47]? =some (.vals .tup bc)/\(oO w ws pv bc free)[2]? =some (.box w.gh)/\(oO w ws pv bc free)[48]? =some (.vals .int free):=⟨rfl,rfl,rfl⟩
theorem jS(w:Wd)(ws:List (List Nat))(i:Int)(bc:List (List Int))(sz q:Int):(kP w ws (some (.pv (.int i))) bc).all (AO.under 48)=true/\(nO sz q 0).all (fun x=>x.2.under 48)=true/\(nO sz q 1).all (fun x=>x.2.under 48)=true/\(nO sz q 2).all (fun x=>x.2.under 48)=true:=by and_intros<;>kernel_rfl
theorem mR(w:Wd)(τ τ':List AO)(ws:List (List Nat))(pv:Option V)(bc:List (List Int))(free FZ:List Int):(kP (bA w τ) ws pv bc).set 2 (.box τ')=kP (bA w τ') ws pv bc/\(oO (bA w τ) ws pv bc free).set 2 (.box τ')=oO (bA w τ') ws pv bc free/\(oO (bA w τ) ws pv bc free).set 48 (.vals .int FZ)=oO (bA w τ) ws pv bc FZ:=⟨rfl,rfl,rfl⟩
theorem iH(po fi:Int)(ep:Nat)(aq:List Nd)(rs:List Int):(rN po fi ep aq rs [.ns []]).all (fun o=> !o.eX)=true:=by show(_&&(_&&(_&&(aQ 0 aq++_).all _)))=true;rw[adf,rK];rfl
section
variable{e:Fm}{c:St}
theorem Jz(h:Q (.pv (.bool (!b))) c):cP e VR (.pv (.bool b)) (unaryOp .Not) c Q:=by rintro x ad m aa _ n rfl R E p;exact not_of (wpAny_truthy_bool (p _ _ _ _ _ _ _ _ h n (Ext.refl ..) rfl))
theorem ED(hx:Cx e)(hs:e.scope=aK)(hk:4<=e.k)(hr:Rep w x)(H:oP ws sz x) (h:∀bc:List (List Int),bc.Perm x.ae->bc.Pairwise (fun a b=>bf a<=bf b)->eA e (execs rest e.env) ⟨nO sz 2 2,kP w ws (some (.pv (.int 2))) bc⟩ Q):eA e (execs (Kx::xB::rest) e.env) ⟨hW sz 2,fO w ws (some (.pv (.int 2)))⟩ Q:=by
 have vp:∀t∈w.ae,cz t:=by exact hr.sM ▸ H.fM
 refine eG (l1:= [Kx]) hx hs ?_;refine of_eq (SH _ e _ sz 2 w ws _) (A8 hx rfl (by exact hr.sM ▸ H.ae.1) (by exact hr.sM ▸ H.ae.2) vp fun bc hp KG=> ?_);have hp:=hr.sM ▸ hp;show eA e (execs (xB::rest) e.env) ⟨put (hW sz 2) (s "due") (.ref 47),kP w ws (some (.pv (.int 2))) bc⟩ Q;rw[Jn,SA];have Kh:bc.length<64:=by exact hp.length_eq ▸ H.ae.2
 refine dD ?_;refine gU hx (hs ▸ xC.2.2.2.1) (fun Z=>rfl)
  (fun j c=>∃l,((j=0/\l=Ji sz 2)\/(∃r,j=r+1/\l=nO sz 2 r))/\c=⟨l,kP w ws (some (.pv (.int 2))) bc⟩)
  (rG hx (aB hx hs (Jo _ e _ sz 2 w ws _ bc) ⟨rfl,rfl,Ji sz 2,.inl ⟨rfl,rfl⟩,rfl⟩)) (fun j u c hu hI hK=> ?_) (fun c hI Z=> ?_)
 ·obtain⟨l,hl,rfl⟩:=hI;have vt:j<3:=(aab.mp hu).1;have AU:u= .ref (38+j):=by
   have h3:j=0\/j=1\/j=2:=Cc (by assumption);rcases h3 with rfl | rfl | rfl
   ·exact(aah.inj hu).symm
   ·exact(aah.inj hu).symm
   ·exact(aah.inj hu).symm
  obtain rfl:=AU.symm;have ep:put l (s "row") (.ref (38+j))=nO sz 2 j:=by
   rcases hl with⟨_,rfl⟩ | ⟨r,_,rfl⟩
   ·exact(Bd sz 2 j 0).1
   ·exact(Bd sz 2 r j).2
  refine ep ▸ (Wp.Fu (bJ hx hs ?_));refine of_eq (SI _ e _ sz 2 w ws _ bc j vt) (aI (H.out bc hp KG j vt) fun o1 o2=> ?_);simp only[<-hr.out]at o1 o2;rw[(decide_eq_false (adx (ba 6450907408 o1)):decide (((w.out j).length:Int)<sz)=false)];refine qk (Jl ▸ ?_);refine zP (aB hx hs (Jp _ e _ sz 2 j w ws _ bc) (lz (lB (aB hx hs (Jq _ e _ sz 2 w ws _ bc j vt) ⟨_,rfl,47,.tup,bc,0,(w.out j).length,rfl,rfl,fun its Z=> ?_,?_⟩))))
  ·have:=kc (y:=((w.out j).length:Int)) (aa1 _) its;rwa [acw]at this
  rw[show((bc.drop 0).take (w.out j).length:List (Kd.ty .tup))=w.out j from o2.symm];refine qc hx hk (kd:=.tup) (Jy w ws _ bc _ j vt) (by simp) (fun Z Z=>trivial) (⟨kP w ws (some (.pv (.int 2))) bc,_,rfl,abE _,trivial,(jS w ws 2 bc sz 2).1,?_,⟨nO sz 2 j,.inr ⟨j,rfl,rfl⟩,rfl⟩,rfl⟩);have h3:j=0\/j=1\/j=2:=Cc (by assumption);rcases h3 with rfl | rfl | rfl
  ·exact(jS w ws 2 bc sz 2).2.1
  ·exact(jS w ws 2 bc sz 2).2.2.1
  ·exact(jS w ws 2 bc sz 2).2.2.2
 ·obtain⟨l,hl,rfl⟩:=hI;have:l=nO sz 2 2:=by
   rcases hl with⟨z,_⟩ | ⟨r,z,rfl⟩
   ·exact Gh z
   ·have z:3=r+1:=z;exact(show r=2 by lia) ▸ rfl
  exact this ▸ h bc hp KG
end
section
variable{e:Fm}
theorem EE(hx:Cx e)(hs:e.scope=aK)(hk:e.k=k+4)(i4:e.outer= [])(fY:e.base=e.h₀)(hr:Rep w x)(H:oP ws sz x)(hp:bc.Perm x.ae)(KG:bc.Pairwise (fun a b=>bf a<=bf b)) (h:∀c,Q (.ret (.pv (.bool true))) c):eA e (execs [Ky,Kz,I8,yq,B1] e.env) ⟨nO sz 2 2,kP w ws (some (.pv (.int 2))) bc⟩ Q:=by
 have hdm:bc.length=x.ae.length:=hp.length_eq;have hz:=H.ae;have Hk:∀t∈bc,cz t:=fun t ht=>H.fM t (hp.mem_iff.mp ht);have ab7:=hr.sM;refine aA hr.zX fun ep hse=> ?_;have hw:w=bA w (bR (.pv .none) 0 0 ep (ents x.aq.length) (aQ 0 x.aq)):=by cases w;have hse:_=_:=hse;subst hse;rfl
 rw[hw];have S7:=H.lets bc hp KG;refine eG (l1:= [Ky,Kz]) hx hs ?_;refine of_eq (SJ _ e _ sz 2 2 w _ 0 0 ep _ _ ws _ bc) ?_;refine af.box (us:= [.ref 0]) (i:=2) (Bf _ ws _ bc []).2.2 rfl (DS (k:=k+2) hx i4 fY (aac (ba 0xcc1990e190918 (bh hk)) (ba 505816450898200 (bl hk))) H.aq H.nup) fun v τ' hv=> ?_;refine aI hv fun S8 S9=> ?_;subst S8;subst S9;refine⟨rfl,iH _ _ _ _ _,?_⟩;rw[(mR w _ _ ws _ bc [] []).1];show eA e (execs (I8:: [yq,B1]) e.env) _ _;refine eG (l1:= [I8]) hx hs ?_;refine of_eq (SK _ e _ sz 2 2 w _ 0 0 ep _ _ ws _ bc) ?_;have hzl:=vC x.aq x.aq.length;have hnz:=H.aq;refine af.box (us:= [.ref 0]) (i:=2) (Bf _ ws _ bc []).2.2 rfl (rO (k:=k+3) hx (aac (ba 0xbd1990e190918 (bh hk)) (ba 489323776481560 (bl hk))) (fun r hr=> ?_) (ba 0x3e83f03843fb19910928 hzl hnz)) fun v τ' hv=> ?_
 ·refine ah (ab6.mp hr) fun j hj Ta=> ?_;subst Ta;have:=acB.mp (acR.mp hj).1;exact⟨aa1 _,acL.mpr this⟩
 refine aI hv fun Tb Tc=> ?_;subst Tb;subst Tc;refine⟨rfl,iH _ _ _ _ _,?_⟩;rw[(mR w _ _ ws _ bc [] []).1];refine EA (ba 0x186a05f03843fb19910928 hzl hnz) ?_;show eA e (execs (yq:: [B1]) e.env) ⟨put (KA sz 2 2) (s "free") (.ref 48),oO (bA w (rN (0+((kK x.aq x.aq.length).length:Nat)) 0 ep (dI (kK x.aq x.aq.length) x.aq) [] [.ns []])) ws (some (.pv (.int 2))) bc (kK x.aq x.aq.length)⟩ Q;rw[(uu sz 2 2 [] []).1,SD,adQ];refine dD ?_;refine gU hx (hs ▸ xC.2.2.2.2.2.1) (fun Z=>rfl) (us:=yg .tup bc) (K:=fun c=>c.aj[47]? =some (.vals .tup bc))
  (fun j c=>∃l aq free,((j=0/\l=Jj sz 2 2)\/(0<j/\∃t,l=oN sz 2 2 t))/\c=⟨l,oO (bA w (rN free.length j ep aq [] [.ns []])) ws (some (.pv (.int 2))) bc free⟩/\mP x.ae.length (bc.drop j) aq free)
  (dr hx (i:=47) (kd:=.tup) (xs:=bc) (aB hx hs (Jr _ e _ sz 2 2 _) ⟨rfl,rfl,Jj sz 2 2,_,_,.inl ⟨rfl,rfl⟩,rfl,S7⟩)) (fun j u c hu hI hK=> ?_) (fun c hI Z=> ?_)
 ·refine Ga hI fun l aq free hl Td wL=> ?_;subst Td;refine ah (jQ hu) fun t ht Te=> ?_;subst Te;have yh:=(aab.mp ht).1;have hdj:bc.drop j=t::bc.drop (j+1):=by
   rw[acs yh,(aab.mp ht).2]
  rw[hdj]at wL;refine Vc wL fun v g1 g2 g3 g4 g5 g6 g7 g8 g9=> ?_;refine KR (Hk t (abW ht)) fun a p' m et Z=> ?_;have z6:t.length=3:=by rw[et];rfl
  have ep1:put l (s "mail") (.pv (.tup t))=oN sz 2 2 t:=by
   rcases hl with⟨_,rfl⟩ | ⟨_,t',rfl⟩
   ·exact(uu sz 2 2 t []).2.1
   ·exact(uu sz 2 2 t' t).2.2
  dsimp only;show Wp e bN _ ⟨put l (s "mail") (.pv (.tup t)),_⟩ _;rw[ep1];refine b8 hx hs (l1:= [at_ xD 0]) (l2:= [at_ xD 1,at_ xD 2]) ?_;refine of_eq (Js _ e _ sz 2 2 t _ ws _ bc free) ⟨⟨lx [] [] 51712,bY 37523347728 (bl z6),bY 429498324289816 (bh z6)⟩,Ez hx (ba 8084560152 (bl hk)) (kr _ ws _ bc free).2.2 (by rw[g1];exact g3) (cG ?_)⟩;refine qk ?_;refine b8 hx hs (l1:= [at_ xD 1]) (l2:= [at_ xD 2]) ?_;refine of_eq (Jt _ e _ sz 2 2 t w _ _ _ ep _ _ ws _ bc free) ⟨⟨lx [] [] 51712,bY 37523347728 (bl z6),bY 429498324289816 (bh z6)⟩,?_⟩;rw[g1];refine af.box (us:= [.ref 0,.pv (.int v)]) (i:=2) (kr _ ws _ bc free).2.1 rfl (DC (k:=k+3) hx (aac (ba 0xbd1990e190918 (bh hk)) (ba 489323776481560 (bl hk))) g2 g4 g5 (by show 0+_<_;exact bY 0x186a05fb0a993e83fb09918 g6)) fun u τ' hv=> ?_;refine aI hv fun Tf Tg=> ?_;subst Tf;subst Tg;refine⟨rfl,iH _ _ _ _ _,?_⟩;rw[(mR w _ _ ws _ bc free []).2.1];refine aA (⟨_,rfl⟩:∃N',d0 (aq.getD v (0,[])).2 (aq.set v (-2,(aq.getD v (0,[])).2),[])=N') fun N' hN=> ?_;rw[hN]at g7 g8 g9 ⊢;refine aT ?_;rw[Jk];refine gO hx.hk (aH rfl _ _ _) (dp hx (by kernel_rfl) (by kernel_rfl) (by show 1<30;decide) (by kernel_rfl) (aB hx hs (Ju _ e _ sz 2 2 t _) fun pl=>gP (kr _ ws _ bc free).2.2 (.inl ⟨_,_,rfl⟩) PySem.F.slot_list_extend PySem.F.type_list_extend ⟨rfl,aS (aE (by kernel_rfl) _ _) (aB hx hs (Jv _ e _ sz 2 2 t w _ _ _ ep _ _ ws _ bc free) ?_)⟩));refine af.box (us:= [.ref 0]) (i:=2) (kr _ ws _ bc free).2.1 rfl (rO (k:=k+3) hx (aac (ba 0xbd1990e190918 (bh hk)) (ba 489323776481560 (bl hk))) g7 (by rw[aag]at g8;exact ba 0x3e83f13e83f109918 g8)) fun u τ' hv=> ?_;refine aI hv fun Th Ti=> ?_;subst Th;subst Ti;refine⟨rfl,iH _ _ _ _ _,?_⟩;rw[(mR w _ _ ws _ bc free []).2.1];refine aN (xA (kr _ ws _ bc free).2.2 (by rw[aag]at g8;exact ba 0x186a05f1093e83f109918 g8) ?_);dsimp only;rw[(mR w _ [] ws _ bc free (free++N'.2)).2.2];refine cQ ⟨⟨oN sz 2 2 t,_,_,.inr ⟨acy _,t,rfl⟩,?_,g9⟩,rfl⟩;rw[aag,aex,aex];rfl
 ·refine Ga hI fun l aq free hl Tj wL=> ?_;subst Tj;rw[aaR]at hl wL;rw[aec]at wL;have wL:free.length=x.ae.length:=wL;refine aA (show ∃t,l=oN sz 2 2 t from by
   rcases hl with⟨z,_⟩ | ⟨_,z⟩
   ·lia
   ·exact z) fun t Tn=> ?_
  subst Tn;rw[aaR];have LM:((bc.length:Nat):Int)=(free.length:Int):=by rw[hdm,wL]
  show eA e (execs [B1] e.env) ⟨oN sz 2 2 t,oO (bA w (rN free.length bc.length ep aq [] [.ns []])) ws (some (.pv (.int 2))) bc free⟩ Q;rw[LM,SE];refine dD (ix (I7 (aB hx hs (Jw _ e _ sz 2 2 t _ ws _ bc free) (cG ?_))));have hb:((free.length:Int)==((bA w (rN free.length free.length ep aq [] [.ns []])).ae.length:Int))=true:=by show((free.length:Int)==(w.ae.length:Int))=true;rw[ab7,wL];simp
  rw[hb];refine uJ (aB hx hs (Jx _ e _ sz 2 2 t w _ _ _ ep _ _ ws _ bc free) ?_);refine af.box (us:= [.ref 0]) (i:=2) (kr _ ws _ bc free).2.1 rfl (wO (k:=k+3) hx (aac (ba 0xbd1990e190918 (bh hk)) (ba 489323776481560 (bl hk)))) fun u τ' hv=> ?_;refine aI hv fun To Tp=> ?_;subst To;subst Tp;exact⟨rfl,iH _ _ _ _ _,Jz (h _)⟩
theorem JA(hx:Cx e)(hs:e.scope=aK)(hk:e.k=k+4)(i4:e.outer= [])(fY:e.base=e.h₀)(hr:Rep w x)(H:oP ws sz x) (h:∀c,Q (.ret (.pv (.bool true))) c):eA e (execs [Kw,FW,qv,Kx,xB,Ky,Kz,I8,yq,B1] e.env) ⟨Kv sz,fO w ws (some (.pv (.int i0)))⟩ Q:=
 EC hx hs (by lia) hr H (ED hx hs (by lia) hr H fun Z hp KG=>EE hx hs hk i4 fY hr H hp KG h)
end
section
def Plain(sc:List Int):Prop:=∃(J:PW->Prop) (x0:PW),um sc J/\J x0/\x0.ae.length=0/\Rep (w0 (bO sc).flatten) x0/\oP (wordsOf sc) (PW.mid sc x0).ae.length (PW.last sc x0)
noncomputable abbrev vR(f:Nat->Nat):List Nat:=km f++ [1,4,2]
theorem Bg(f:Nat->Nat)(h:j<44):(vR f)[j]? =some (f j):=by rw[aaY (by rw[dO];exact h)];exact mH f h
theorem ks(f:Nat->Nat):(vR f)[44]? =some 1/\(vR f)[45]? =some 4/\(vR f)[46]? =some 2:=by refine⟨?_,?_,?_⟩ <;> (rw[abF (by rw[dO];omega),dO];rfl)
theorem vS(f:Nat->Nat):(vR f).length=47:=by rw[aag,dO];rfl
variable{e:Fm}
theorem Bh(H:Here sc (some (.pv (.int 2))) (bV (some (.pv (.int 2))) sc++σw) J x) (h:∀w,Rep w x->eA e (execs rest e.env) ⟨Kv sz,fO w (wordsOf sc) (some (.pv (.int 2)))⟩ Q):eA e (execs rest e.env) ⟨A0 D t n sz,bV (some (.pv (.int 2))) sc++σw⟩ Q:=by
 obtain⟨⟨σ2,f,w,e1,W,hf,hr⟩,_⟩:=H;refine aA (⟨_,rfl⟩:∃σ,σ=bV (some (.pv (.int 2))) sc++σw) fun σ hσ=> ?_;rw[<-hσ]at W ⊢;have p1:σ[1]? =some (.cell (some (.ref 4))):=by rw[hσ];rfl
 have p4:σ[4]? =some (.vals .str (wordsOf sc)):=by rw[hσ];rfl
 have p2:σ[2]? =some (.cell (some (.pv (.int 2)))):=by rw[hσ];rfl
 have r0:∀k,k<44->eJ (vR f) σ.length k=f k:=fun k hk=>gf (Bg f hk);have r44:eJ (vR f) σ.length 44=1:=gf (ks f).1;have r45:eJ (vR f) σ.length 45=4:=gf (ks f).2.1;have r46:eJ (vR f) σ.length 46=2:=gf (ks f).2.2;refine eA.sub (vR f) ?_ ?_ (fun j o i h1 h2=> ?_) (fun x v hx=> ?_) (h w hr)
 ·rw[ads];refine⟨W.nd,by decide,fun a ha b hb=> ?_⟩;refine aA (acb.mp ha) fun j hj=>aI (jo hj) fun l1 e1=> ?_;have:=W.lo j l1;simp only[abi,acS,or_false]at hb;refine fun z=> ?_;have e2:f j=b:=e1.symm.trans z;rcases hb with q | q | q <;> exact absurd (ab3 this (aes (e2.trans q))) (by decide)
 ·rw[vS];rfl
 ·by_cases hj:j<44
  ·rw[aaY (by rw[fE];exact hj)]at h1;rw[Bg f hj]at h2;obtain rfl:=aah.inj h2;refine⟨_,W.at_ j o h1,.inl ((AO.cX (aaZ.mp (vL w) o (abW h1)) fun k hk=>r0 k (aep (adb hk))))⟩
  ·have ab9:j<47:=by
    have:=(aab.mp h2).1;rwa [vS]at this
   have h3:=Vi 44 hj ab9;rcases h3 with rfl | rfl | rfl
   ·rw[(ks f).1]at h2;obtain rfl:=aah.inj h2;obtain rfl:=aah.inj h1;refine⟨_,p1,.inl ?_⟩;show AO.cell (some (.ref 4))= .cell (some (.ref (eJ (vR f) σ.length 45)));rw[r45]
   ·rw[(ks f).2.1]at h2;obtain rfl:=aah.inj h2;obtain rfl:=aah.inj h1;exact⟨_,p4,.inl rfl⟩
   ·rw[(ks f).2.2]at h2;obtain rfl:=aah.inj h2;obtain rfl:=aah.inj h1;exact⟨_,p2,.inl rfl⟩
 ·refine oJ ?_ hx;have e:(Kv sz).map (fun p=>look (A0 D t n sz) p.1)= [some (V.ref 1),some (V.ref 2),some (V.pv (.int sz)),some (V.ref 6)]:=by kernel_rfl
  refine e.trans ?_;show _= [some (V.ref (eJ (vR f) σ.length 44)),some (V.ref (eJ (vR f) σ.length 46)),some (V.pv (.int sz)),some (V.ref (eJ (vR f) σ.length 0))];rw[r44,r46,r0 0 (adb rfl),hf 0 (adb rfl)]
theorem EF(hx:Cx e)(hs:e.scope=aK)(hk:e.k=k+7)(i4:e.outer= [])(fY:e.base=e.h₀)(PL:Plain sc)(L10:List Stmt)(hL:L10= [Kw,FW,qv,Kx,xB,Ky,Kz,I8,yq,B1]):eA e (execs (l5::l6::l7::l8::l9::L10) e.env) ⟨sT D (bO sc).flatten,bV none sc++(w0 (bO sc).flatten).aj.map (AO.bQ uj)⟩ fun f Z=>f= .ret (.pv (.bool true)):=by refine cI PL fun J x0 L hj hm hr H=> ?_;refine xt hx hs hk L hj hm hr fun n σw hh=>Bh hh fun w hw=> ?_;rw[hL];exact JA hx hs (by omega) i4 fY hw H fun Z=>rfl
theorem EG(hx:Cx e)(hs:e.scope=aK)(hk:e.k=k+7)(hp:e.nv (s "p")≠none)(hD:e.h₀.IsList D its.toArray)(hi:IntsAre its sc)(hz:sc.length<=63)(L5:List Stmt) (h:eA e (execs L5 e.env) ⟨sT D (bO sc).flatten,bV none sc++(w0 (bO sc).flatten).aj.map (AO.bQ uj)⟩ Q):eA e (execs (l0::l1::l2::l3::l4::L5) e.env) ⟨ym D,vM none none none⟩ Q:=by have k1:e.k=k+2+5:=hk;have k2:e.k=k+6+1:=hk;clear hk;have h2:= @AX e hx hs (k+2) k1 hp D sc (bO sc).flatten L5 Q h;clear h;generalize l4::L5=L4 at h2 ⊢;exact @Ek e hx hs (k+6) k2 D its sc hD hi hz L4 Q h2
theorem JB(hx:Cx e)(hs:e.scope=aK)(hk:e.k=k+7)(i4:e.outer= [])(fY:e.base=e.h₀)(hp:e.nv (s "p")≠none)(hD:e.h₀.IsList D its.toArray)(hi:IntsAre its sc)(hz:sc.length<=63)(PL:Plain sc)(B:List Stmt)(hB:B=kY):eA e (execs B e.env) ⟨ym D,vM none none none⟩ fun f Z=>f= .ret (.pv (.bool true)):=by rw[ab4]at hB;rw[hB];exact EG hx hs hk hp hD hi hz _ (EF hx hs hk i4 fY PL _ rfl)
end
theorem fw:rm 34=false/\rm 92=false/\rm 32=true/\rm 10=true/\rm 9=true:=by decide +kernel
theorem oQ:∀c∈vF,subIn [c] [32,9,10,34,92]=true\/(subIn [c] [32,9,10,34,92]=false/\rm c=false/\c≠92/\c≠34):=by decide +kernel
theorem xF:∀c∈vF,c<0x110000:=by decide +kernel
theorem su(d:Nat):(∀c∈wordOf d,c∈vF)/\wordOf d≠ []:=by
 have key:∀k,vF.getD (k % 8) 0∈vF:=fun k=>by have h:k % 8<vF.length:=aeC _ (by decide);rw[abG,aad h];exact ady h
 unfold wordOf;split
 ·refine⟨fun c hc=> ?_,by simp⟩;rw[abH.mp hc];exact key d
 ·refine⟨fun c hc=> ?_,by simp⟩;rcases abn.mp hc with h | h
  ·rw[abH.mp h];exact key d
  ·rw[abH.mp h];exact key (d / 24)
theorem JC(w:List Nat):∀(acc r:List Nat),iE (gH (eM w)++([34]++r)) acc=some (acc++w,r):=by
 induction w with
 | nil=>intro acc r;show iE (34::r) acc=_;rw[jJ,if_pos rfl,ab5]
 | cons c w ih=>
  intro acc r;replace ih:=ih (acc++ [c]) r;simp only[acx]at ih;by_cases h1:c=92
  ·have zs:=h1.symm;subst zs;have e:gH (eM (92::w))=92::92::gH (eM w):=by
    unfold gH eM;rfl
   refine e ▸ ?_;show iE (92::92::(gH (eM w)++([34]++r))) acc=_;rw[jJ,if_neg (by decide),if_pos rfl];exact ih
  ·by_cases h2:c=34
   ·obtain rfl:=h2.symm;have e:gH (eM (34::w))=92::34::gH (eM w):=by
     unfold gH eM;rfl
    refine e ▸ ?_;show iE (92::34::(gH (eM w)++([34]++r))) acc=_;rw[jJ,if_neg (by decide),if_pos rfl];exact ih
   ·have e:gH (eM (c::w))=c::gH (eM w):=by
     unfold gH eM;simp[h1,h2]
    refine e ▸ ?_;show iE (c::(gH (eM w)++([34]++r))) acc=_;rw[jJ,if_neg h2,if_neg h1];exact ih
theorem JD(hg:rm g=true):∀(w acc r:List Nat),(∀c∈w,c∈vF)->i8 (jn w++(g::r)) acc=some (acc++w,r):=by
 intro w;induction w with
 | nil=>intro acc r _;show i8 (g::r) acc=_;rw[lh,if_pos hg,ab5]
 | cons c w ih=>
  intro acc r h;have ih:=ih (acc++ [c]) r fun c hc=>h c (.tail _ hc);rw[acx]at ih;have e:jn (c::w)++(g::r)=eg c++(jn w++(g::r)):=by unfold jn;simp
  rw[e];rcases oQ c (h c (.head _))with h1 | ⟨h1,h2,h3,h4⟩
  ·have e2:eg c= [92,c]:=by unfold eg;rw[if_pos h1]
   rw[e2];show i8 (92::c::(jn w++(g::r))) acc=_;rw[lh,if_neg (by rw[fw.2.1];simp),if_pos rfl];exact ih
  ·have e2:eg c= [c]:=by unfold eg;rw[if_neg (by rw[h1];simp)]
   rw[e2];show i8 (c::(jn w++(g::r))) acc=_;rw[lh,if_neg (by rw[h2];simp),if_neg h3];exact ih
theorem xG(d:Nat):∃g,jc d= [g]/\rm g=true:=by
 unfold jc;have h:d / 384 % 3=0\/d / 384 % 3=1\/d / 384 % 3=2:=Cc (aeC _ (by decide));rcases h with h | h | h
 ·exact⟨32,by rw[h];rfl,fw.2.2.1⟩
 ·exact⟨10,by rw[h];rfl,fw.2.2.2.1⟩
 ·exact⟨9,by rw[h];rfl,fw.2.2.2.2⟩
theorem JE(d:Nat)(r:List Nat):∃g,(∀c∈g,rm c=true)/\ee (bF d++r)=some (wordOf d,g++r):=by
 refine ah (xG d) fun g hg hw=>aI (su d) fun hs qp=> ?_;unfold bF;refine hg ▸ ?_;split
 ·refine⟨[g],fun c hc=>by exact(abH.mp hc) ▸ hw,?_⟩;rw[(show [34]++gH (eM (wordOf d))++ [34]++ [g]++r=34::(gH (eM (wordOf d))++([34]++([g]++r))) from by simp),jK,if_neg (by refine fw.1 ▸ ?_;simp),if_pos rfl];exact JC _ [] _
 ·refine⟨[],(fun Z z=>bg z),?_⟩;generalize wordOf d=w at hs qp;cases w with
  | nil=>exact absurd rfl qp
  | cons c w=>
   have e:jn (c::w)++ [g]++r=eg c++(jn w++(g::r)):=by unfold jn;simp
   refine e ▸ ?_;have ih:=JD hw w [c] r fun c hc=>hs c (.tail _ hc);rcases oQ c (hs c (.head _))with h1 | ⟨h1,h2,h3,h4⟩
   ·have e2:eg c= [92,c]:=by unfold eg;exact(if_pos h1) ▸ rfl
    refine e2 ▸ ?_;show ee (92::c::(jn w++(g::r)))=_;rw[jK,if_neg (by refine fw.2.1 ▸ ?_;simp),if_neg (by decide),if_pos rfl];exact ih
   ·have e2:eg c= [c]:=by unfold eg;rw[if_neg (by refine h1 ▸ ?_;simp)]
    refine e2 ▸ ?_;show ee (c::(jn w++(g::r)))=_;rw[jK,if_neg (by refine h2 ▸ ?_;simp),if_neg h4,if_neg h3];exact ih
theorem EH:∀(g r:List Nat),(∀c∈g,rm c=true)->ee (g++r)=ee r:=by
 intro g;induction g with
 | nil=>exact fun r Z=>rfl
 | cons c g ih=>intro r h;show ee (c::(g++r))=_;rw[jK,if_pos (h c (.head _))];exact ih r fun c hc=>h c (.tail _ hc)
def qd(sc:List Int)(n:Nat)(rest:List Nat):Prop:=∃g,(∀c∈g,rm c=true)/\rest=g++((bO sc).drop n).flatten
theorem xH(h:qd sc n rest)(hn:n<(drawsOf sc).length):∃w r,ee rest=some (w,r)/\qd sc (n+1) r/\(wordsOf sc).take n++ [w]=(wordsOf sc).take (n+1):=by
 refine ah h fun g hg Tq=> ?_;subst Tq;have y4:n<(Ej sc).length:=ab3 hn (bl (aaR ..));refine aA (⟨_,aad y4⟩:∃d,(Ej sc)[n]? =some d) fun d hd=> ?_;have ht:(bO sc)[n]? =some (bF d):=by rw[aa0,hd];rfl
 have hw:(wordsOf sc)[n]? =some (wordOf d):=by rw[aa0,hd];rfl
 refine aA (aab.mp ht) fun h1 h2=> ?_;simp only[acs h1,h2,adE,EH _ _ hg];refine ah (JE d ((bO sc).drop (n+1)).flatten) fun g' hg' hr=>⟨_,_,hr,⟨g',hg',rfl⟩,by rw[adG,hw];rfl⟩
theorem sx:∀y∈(wordsOf sc).take n,∀c∈y,c<0x110000:=fun y hy c hc=>by refine ah (ab6.mp (adu hy)) fun d Z Tr=> ?_;subst Tr;exact xF c ((su d).1 c hc)
theorem qe(ha:cz a)(hb:cz b):lexLt a b=decide (bf a<bf b):=by refine nh ha fun a1 p1 m1 z h1 h2 h3 h4=>nh hb fun a2 p2 m2 z' td yJ KH Ts=> ?_;rw[z,z'];exact(Se ⟨h1,h2⟩ ⟨td,yJ⟩ ⟨h3,h4⟩ ⟨KH,Ts⟩).symm
theorem EI(ha:cz a)(hb:cz b)(h:bf a=bf b):a=b:=by refine nh ha fun a1 p1 m1 z h1 h2 h3 h4=>nh hb fun a2 p2 m2 z' td yJ KH Ts=> ?_;rw[z,z']at h ⊢;have e1:a1=a2:=Decidable.byContradiction fun q=>(I4 ⟨h3,h4⟩ ⟨KH,Ts⟩ (I4 ⟨h1,h2⟩ ⟨td,yJ⟩ q).2).2 h;rw[e1]at h ⊢;have e2:p1=p2:=Decidable.byContradiction fun q=>(I4 ⟨h3,h4⟩ ⟨KH,Ts⟩ fun z=>q (aej z)).2 h;rw[e2]at h ⊢;rw[aej (show(a2*3+p2)*64+m1=(a2*3+p2)*64+m2 from h)]
theorem mS(ha:cz a)(hb:cz b)(h:eO a<eO b):bf a<bf b:=by refine nh ha fun a1 p1 m1 z h1 h2 h3 h4=>nh hb fun a2 p2 m2 z' td yJ KH Ts=> ?_;rw[z,z']at h ⊢;exact U2 KH ⟨h3,h4⟩ (U2 td ⟨h1,h2⟩ h)
theorem JF(ha:cz a)(hb:cz b)(h:bf a<=bf b):eO a<=eO b:=by
 rcases Int.lt_or_le (eO b) (eO a)with q | q
 ·have:=mS hb ha q;exact cB (Cb 0xab0111b09128 this h)
 ·exact q
noncomputable abbrev kI(xs:List (List Int))(i:Nat):Int:=bf (xs.getD i [])
def jT(xs:List (List Int)):Prop:=∀i,i<xs.length->cz (xs.getD i [])
theorem jT.of (h:∀t∈xs,cz t):jT xs:=fun i hi=>by rw[abG,aad hi];exact h _ (ady hi)
theorem bW{xs:List (List Int)}(hp:p<xs.length):(xs.set p t).getD i []=if i=p then t else xs.getD i []:=by
 simp only[abG,abG,acK];by_cases h:i=p
 ·subst h;simp[hp]
 ·rw[if_neg (Ne.symm h),if_neg h]
theorem jT.set (h:jT xs)(hp:p<xs.length)(ht:cz t):jT (xs.set p t):=fun i hi=>by
 rw[bW hp];split
 ·exact ht
 ·exact h i (by simpa using hi)
def dR(xs:List (List Int)):Prop:=∀i,0<i->i<xs.length->kI xs ((i-1) / 2)<=kI xs i
theorem dR.top (h:dR xs):∀i,i<xs.length->kI xs 0<=kI xs i:=by
 intro i;induction i using Nat.strongRecOn with
 | ind i ih=>
  intro hi;by_cases h0:i=0
  ·exact h0 ▸ acd _
  ·exact acC (ih ((i-1) / 2) (bj 0x2b092ba992191009939 qh (adI _ _) (adm h0)) (dZ 0x3b093b2992191009938 qh (adI _ _) hi)) (h i ((adm h0)) hi)
structure Bj(xs:List (List Int))(p:Nat)(t:List Int):Prop where
 a:∀i,0<i->i<xs.length->i≠p->(i-1) / 2≠p->kI xs ((i-1) / 2)<=kI xs i
 b:∀i,0<i->i<xs.length->(i-1) / 2=p->bf t<=kI xs i
 c:0<p->∀i,0<i->i<xs.length->(i-1) / 2=p->kI xs ((p-1) / 2)<=kI xs i
theorem ku(hp:p<xs.length)(h:Bj xs p t)(hq:0<p->kI xs ((p-1) / 2)<=bf t):dR (xs.set p t):=fun i h0 hi=>by
 have hi:i<xs.length:=by simpa using hi
 show bf ((xs.set p t).getD _ [])<=bf ((xs.set p t).getD i []);rw[bW hp,bW hp];by_cases h1:i=p
 ·obtain rfl:=h1.symm;rw[if_pos rfl,if_neg (by lia)];exact hq h0
 ·rw[if_neg h1];by_cases h2:(i-1) / 2=p
  ·rw[if_pos h2];exact h.b i h0 hi h2
  ·rw[if_neg h2];exact h.a i h0 hi h1 h2
theorem sy(ht:cz t)(n:Nat):∀(xs:List (List Int)) (p:Nat),p<=n->p<xs.length->jT xs->Bj xs p t->dR (uY t n xs p):=by
 induction n with
 | zero=>exact fun xs p hn hp hm h=>ku hp h (by lia)
 | succ n ih=>
  intro xs p hn hp hm h;rw[oa];by_cases h0:p=0
  ·rw[if_pos h0];exact ku hp h (by lia)
  ·rw[if_neg h0];have EJ:(p-1) / 2<xs.length:=dZ 0x3b093b2992191009938 qh (adI _ _) hp;rw[qe ht (hm _ EJ)];by_cases bT:bf t<kI xs ((p-1) / 2)
   ·rw[if_pos (decide_eq_true bT)];refine ih _ ((p-1) / 2) (dZ 0x30b39292191009939 qh (adI _ _) hn) (by simpa using EJ) (hm.set hp (hm _ EJ)) ⟨fun i i0 hi i1 i2=> ?_,fun i i0 hi i1=> ?_,fun p0 i i0 hi i1=> ?_⟩
    ·have hi:i<xs.length:=by simpa using hi
     show bf ((xs.set p _).getD _ [])<=bf ((xs.set p _).getD i []);rw[bW hp,bW hp];have uv:i≠p:=fun z=>i2 (by rw[z]);rw[if_neg uv];by_cases h2:(i-1) / 2=p
     ·rw[if_pos h2];exact h.c ((adm h0)) i i0 hi h2
     ·rw[if_neg h2];exact h.a i i0 hi uv h2
    ·have hi:i<xs.length:=by simpa using hi
     show bf t<=bf ((xs.set p _).getD i []);rw[bW hp];by_cases uv:i=p
     ·rw[if_pos uv];exact ac0 bT
     ·rw[if_neg uv];have:=h.a i i0 hi uv (by lia);rw[i1]at this;exact acC (ac0 bT) this
    ·have hi:i<xs.length:=by simpa using hi
     show bf ((xs.set p _).getD _ [])<=bf ((xs.set p _).getD i []);rw[bW hp,bW hp,if_neg (by lia)];have g:=h.a ((p-1) / 2) p0 EJ (fun zq=>cB (bj 0xab022992191b09938 (cA (ba 29736903444776 (bh zq) p0)) (bl zq) qh)) (by lia);by_cases uv:i=p
     ·rw[if_pos uv];exact g
     ·rw[if_neg uv];have:=h.a i i0 hi uv (fun zq=>cB (dZ 0xab033993292191b09948 (cA (bj 0x2b0ba992191009938 qh (adI _ _) p0)) (bl zq) (bh i1) qh));rw[i1]at this;exact acC g this
   ·rw[if_neg (fun z=>bT (of_decide_eq_true z))];exact ku hp h fun Z=>adV.mp bT
theorem oR(h:dR xs)(hm:∀u∈xs,cz u)(ht:cz t):dR (i7 xs t):=by
 have hg:∀i,i<xs.length->(xs++ [t]).getD i []=xs.getD i []:=fun i hi=>by simp only[abG,abG,aaY hi]
 refine sy ht _ _ _ (abE _) (by simp) (jT.of fun u hu=> ?_) ⟨fun i i0 hi i1 i2=> ?_,fun i i0 hi i1=> ?_,fun p0 i i0 hi i1=> ?_⟩
 ·rcases abn.mp hu with q | q
  ·exact hm u q
  ·simp only[abH.mp q];exact ht
 ·have hi:i<xs.length+1:=by simpa using hi
  show bf ((xs++ [t]).getD _ [])<=bf ((xs++ [t]).getD i []);rw[hg _ (by lia),hg _ ((aca (ab8 hi) i1))];exact(h i i0 ((aca (ab8 hi) i1)))
 ·have hi:i<xs.length+1:=by simpa using hi
  exact cB (dZ 0xab03399329b29b1991b09948 (cA (bY 2965018904 i0)) hi (bl i1) qh)
 ·have hi:i<xs.length+1:=by simpa using hi
  exact cB (dZ 0xab03399329b29b1991b09948 (cA (bY 2965018904 i0)) hi (bl i1) qh)
structure uw(xs:List (List Int))(p:Nat):Prop where
 a:∀i,0<i->i<xs.length->i≠p->(i-1) / 2≠p->kI xs ((i-1) / 2)<=kI xs i
 c:0<p->∀i,0<i->i<xs.length->(i-1) / 2=p->kI xs ((p-1) / 2)<=kI xs i
theorem Bk:∀(n:Nat) (xs:List (List Int)) (p:Nat),xs.length<=n+p->p<xs.length->jT xs->uw xs p->(sup xs.length n xs p).1.length=xs.length/\(sup xs.length n xs p).2<xs.length/\xs.length<=2*(sup xs.length n xs p).2+1/\jT (sup xs.length n xs p).1/\uw (sup xs.length n xs p).1 (sup xs.length n xs p).2:=by
 intro n;induction n with
 | zero=>intro xs p hn hp hm h;lia
 | succ n ih=>
  intro xs p hn hp hm h;rw[oe];by_cases h1:2*p+1<xs.length
  ·rw[if_pos h1];refine aA (⟨_,rfl⟩:∃ch,ch=nC xs.length xs p) fun ch JG=> ?_;rw[<-JG];have hc:(ch=2*p+1\/ch=2*p+2)/\ch<xs.length/\∀i,0<i->i<xs.length->(i-1) / 2=p->kI xs ch<=kI xs i:=by
    by_cases h2:2*p+2<xs.length/\¬lexLt (xs.getD (2*p+1) []) (xs.getD (2*p+2) [])=true
    ·replace JG:=JG.trans (if_pos h2);subst JG;refine⟨.inr rfl,h2.1,fun i i0 hi i1=> ?_⟩;have:=h2.2;rw[qe (hm _ h1) (hm _ h2.1)]at this;have this:¬kI xs (2*p+1)<kI xs (2*p+2):=fun z=>this (decide_eq_true z);have:i=2*p+1\/i=2*p+2:=lfQ (by assumption) (by assumption);rcases this with rfl | rfl
     ·exact(liD this)
     ·exact acd _
    ·replace JG:=JG.trans (if_neg h2);subst JG;refine⟨.inl rfl,h1,fun i i0 hi i1=> ?_⟩;have:i=2*p+1\/i=2*p+2:=lfQ (by assumption) (by assumption);rcases this with rfl | rfl
     ·exact acd _
     ·have h3:lexLt (xs.getD (2*p+1) []) (xs.getD (2*p+2) [])=true:=by
       cases q:lexLt (xs.getD (2*p+1) []) (xs.getD (2*p+2) [])with
       | true=>rfl
       | false=>exact absurd ⟨hi,by rw[q];simp⟩ h2
      rw[qe (hm _ h1) (hm _ hi)]at h3;have h3:kI xs (2*p+1)<kI xs (2*p+2):=of_decide_eq_true h3;exact ac0 h3
   obtain⟨hc1,Tt,hc3⟩:=hc;have hlen:(xs.set p (xs.getD ch [])).length=xs.length:=by simp
   have key:=ih (xs.set p (xs.getD ch [])) ch (by rw[hlen];lia) (by rw[hlen];exact Tt) (hm.set hp (hm _ Tt)) ⟨fun i i0 hi i1 i2=> ?_,fun p0 i i0 hi i1=> ?_⟩
   ·rw[hlen]at key;exact key
   ·have hi:i<xs.length:=by simpa using hi
    show bf ((xs.set p _).getD _ [])<=bf ((xs.set p _).getD i []);rw[bW hp,bW hp];by_cases uv:i=p
    ·rw[if_pos uv,if_neg (by lia)];subst uv;exact h.c i0 ch (by lia) Tt (by lia)
    ·rw[if_neg uv];by_cases h2:(i-1) / 2=p
     ·rw[if_pos h2];exact hc3 i i0 hi h2
     ·rw[if_neg h2];exact h.a i i0 hi uv h2
   ·have hi:i<xs.length:=by simpa using hi
    show bf ((xs.set p _).getD _ [])<=bf ((xs.set p _).getD i []);rw[bW hp,bW hp,if_pos (by lia),if_neg (by lia)];have:=h.a i i0 hi (by lia) (by lia);rw[i1]at this;exact this
  ·rw[if_neg h1];exact⟨rfl,hp,(ic h1),hm,h⟩
theorem xI(hl:0<xs.length)(hm:jT xs)(h:uw xs 0):dR (qZ xs):=by
 unfold qZ;refine vV (Bk xs.length xs 0 (ab2 _ _) hl hm h) fun s1 s2 s3 s4 s5=> ?_;generalize sup xs.length xs.length xs 0=r at s1 s2 s3 s4 s5;obtain⟨ys,p⟩:=r;dsimp only at s1 s2 s3 s4 s5 ⊢;have hp:p<ys.length:=ab3 s2 (bl s1);refine sy (hm 0 hl) p _ p (abE _) (by simpa using hp) (s4.set hp (hm 0 hl)) ⟨fun i i0 hi i1 i2=> ?_,fun i i0 hi i1=> ?_,fun p0 i i0 hi i1=> ?_⟩
 ·show bf ((ys.set p _).getD _ [])<=bf ((ys.set p _).getD i []);simp only[bW hp,bW hp,if_neg i2,if_neg i1];exact s5.a i i0 (by simpa using hi) i1 i2
 ·have hi:i<ys.length:=by simpa using hi
  lia
 ·have hi:i<ys.length:=by simpa using hi
  lia
theorem Bl(hl:0<xs.length)(hm:∀u∈xs,cz u)(h:dR xs):dR (eS xs).2/\(eS xs).1=xs.getD 0 []:=by
 unfold eS;by_cases h1:(xs.take (xs.length-1)).isEmpty=true
 ·refine(if_pos h1) ▸ ?_;have hlen:xs.length=1:=by
   have:=congrArg ade (show xs.take (xs.length-1)= [] from by simpa using h1);simp only[acO]at this;simp at this;exact aac (ba 0xb0a19b190928 eH (bh this)) (ba 7276108056 (cA (bY 2965018904 hl)))
  refine⟨fun i i0 hi=> ?_,by simp only[hlen]⟩;simp only[acO]at hi;lia
 ·refine(if_neg h1) ▸ ?_;have hlen:1<xs.length:=by
   rcases aeM 1 xs.length with q | q
   ·exact q
   ·exfalso;apply h1;refine(show xs.length-1=0 by lia) ▸ ?_;rfl
  have ht:(xs.take (xs.length-1)).length=xs.length-1:=by refine acO ▸ ?_;lia
  have hg:∀i,i<xs.length-1->(xs.take (xs.length-1)).getD i []=xs.getD i []:=fun i hi=>by simp only[abG,abG,List.getElem?_take_of_lt hi]
  have h0:0<(xs.take (xs.length-1)).length:=bj 0x2ba90bb99219b190938 eH (bl ht) hlen;refine⟨xI (by simpa using by lia) (jT.set (jT.of fun u hu=>hm u (adu hu)) h0 ((jT.of hm) _ ((cA (aco hlen))))) ⟨fun i i0 hi i1 i2=> ?_,fun p0=>absurd p0 (acv (abE _))⟩,hg 0 (ab3 h0 (bh ht))⟩;have hi:i<xs.length-1:=by simp only[acN,ht]at hi;exact hi
  show bf (((xs.take (xs.length-1)).set 0 _).getD _ [])<=bf (((xs.take (xs.length-1)).set 0 _).getD i []);rw[bW h0,bW h0,if_neg i2,if_neg i1,hg _ (by lia),hg _ hi];exact h i i0 (ab3 hi (aco (cA (aco hlen))))
theorem xJ(m:Int):∀(n:Nat) (h o:List (List Int)),h.length<=n->dR h->(∀u∈h,cz u)->∃P h',kg m n h o=(h',o++P)/\(P++h').Perm h/\dR h'/\P.Pairwise (fun a b=>bf a<=bf b)/\(∀t∈P,∀u∈h',bf t<=bf u)/\(∀t∈P,eO t<=m)/\∀u∈h',m<eO u:=by
 intro n;induction n with
 | zero=>intro h o hn hh hm;have:h= []:=acT (aac hn (aci _));subst this;exact⟨[],[],by rw[ab5];rfl,.refl _,hh,.nil,(fun Z z=>bg z),(fun Z z=>bg z),(fun Z z=>bg z)⟩
 | succ n ih=>
  intro h o hn hh hm;rw[pN];by_cases hc:0<h.length/\eO (h.getD 0 [])<=m
  ·rw[if_pos hc];refine aI hc fun hl hle=>aI (Bl hl hm hh) fun p1 p2=> ?_;have pp:=kf hl;have pl:=mx hl;have dw:∀u∈(eS h).2,cz u:=fun u hu=>hm u (pp.subset (.tail _ hu));refine KQ (ih (eS h).2 (o++ [(eS h).1]) (dZ 0x30b39292b19910938 (bh pl) (cA (bY 2965018904 hl)) hn) p1 dw) fun P h' e q1 q2 q3 q4 q5 q6=> ?_;have Tu:∀u∈h,bf (eS h).1<=bf u:=fun u hu=>by
    refine aA (acb.mp hu) fun i hi=> ?_;have:=hh.top i (aab.mp hi).1;rw[p2];have e2:h.getD i []=u:=by rw[abG,hi];rfl
    rw[<-e2];exact this
   have kU:∀u,u∈P\/u∈h'->u∈h:=fun u hu=>pp.subset (.tail _ (q1.subset (abn.mpr hu)));refine⟨(eS h).1::P,h',by rw[e,acx];rfl,?_,q2,?_,?_,?_,q6⟩
   ·exact(List.Perm.cons _ q1).trans pp
   ·exact adT.mpr ⟨fun u hu=>Tu u (kU u (.inl hu)),q3⟩
   ·intro t ht u hu;rcases abi.mp ht with rfl | ht
    ·exact Tu u (kU u (.inr hu))
    ·exact q4 t ht u hu
   ·intro t ht;rcases abi.mp ht with rfl | ht
    ·rw[p2];exact hle
    ·exact q5 t ht
  ·rw[if_neg hc];refine⟨[],h,by simp,.refl _,hh,.nil,(fun Z z=>bg z),(fun Z z=>bg z),fun u hu=>aA (acb.mp hu) fun i hi=> ?_⟩;have A9:=(aab.mp hi).1;have h0:0<h.length:=ba 1900819814680 A9;have KI:m<eO (h.getD 0 []):=by
    rcases Int.lt_or_le m (eO (h.getD 0 []))with q | q
    ·exact q
    ·exact absurd ⟨h0,q⟩ hc
   have ht:=hh.top i A9;have e2:h.getD i []=u:=by rw[abG,hi];rfl
   have ht:bf (h.getD 0 [])<=bf u:=by rw[<-e2];exact ht
   have:=JF (jT.of hm 0 h0) (hm u hu) ht;exact acC KI this
theorem EK(h:a∈xs):fC xs<=a:=jD.1 _ h
theorem EL(h:0<xs.length):fC xs∈xs:=jD.2 (adj.mp h)
theorem xK(hp:p<3)(fF:p≠q):dY (x.aY p q)∈jk x q 3:=
 ab6.mpr ⟨p,acR.mpr ⟨acB.mpr hp,by simpa using fF⟩,rfl⟩
theorem Bm(h:a∈jk x q 3):∃p,p<3/\p≠q/\a=dY (x.aY p q):=by refine ah (ab6.mp h) fun p hp Tv=> ?_;subst Tv;obtain⟨h1,h2⟩:=acR.mp hp;exact⟨p,acB.mp h1,by simpa using h2,rfl⟩
theorem xM(x:PW)(q:Nat):0<(jk x q 3).length:=by rw[aaR,adj];intro h;rw[ad7]at h;have h0:=h 0 (.head _);have h1:=h 1 (by decide);simp at h0 h1;lia
noncomputable abbrev bX(ms:List (List Int))(p:Nat):List (List Int):=ms.filter fun t=>t.getD 1 0==(p:Int)
structure iI(aq:List Nd)(ms:List (List Int))(Ps:List (List Int)):Prop where
 len:aq.length=ms.length
 mT:Ps.length=ms.length
 cnt:∀i,i<ms.length->(aq.getD i (0,[])).1=((Ps.getD i []).length:Int)
 U4:∀j:Nat,j<ms.length->∀i:Nat,((aq.getD j (0,[])).2).count (i:Int)=(Ps.getD i []).count (j:Int)
 nat:∀j,j<ms.length->∀z∈(aq.getD j (0,[])).2,0<=z
 bnd:∀j,j<ms.length->((aq.getD j (0,[])).2).length<=40*ms.length
 JH:∀i,i<ms.length->∀k∈Ps.getD i [],∃j:Nat,k=(j:Int)/\j<i/\eO (ms.getD j [])<eO (ms.getD i [])
structure JJ(sc:List Int)(x:PW):Prop where
 n:x.ae.length<=(drawsOf sc).length
 told:x.told=(wordsOf sc).take x.ae.length
 rest:qd sc x.ae.length x.rest
 fM:∀(i:Nat) (t:List Int),x.ae[i]? =some t->∃(c:Int) (p:Nat),t= [c,(p:Int),(i:Int)]/\1<=c/\p<3
 nP:∀p q,¬(p<3/\q<3/\p≠q)->x.lines p q= []/\x.aY p q= []
 Bn:∀q,3<=q->x.aC q= []/\x.out q= []/\x.ahead q= []
 cl:∀p q,p<3->q<3->p≠q->x.aY p q++x.lines p q=bX x.ae p
 inc:∀p,p<3->(bX x.ae p).Pairwise fun a b=>eO a<eO b
 tN:∀p,p<3->∀t∈bX x.ae p,eO t<=x.aP p
 xN:∀p q,∀t∈x.aY p q,eO t<=x.aP q
 EM:∀p,0<=x.aP p
 perm:∀q,q<3->(x.out q++x.aC q).Perm (bX x.ae q++(x.aY 0 q++x.aY 1 q++x.aY 2 q))
 Bo:∀q,q<3->∀t∈x.out q,∀p,p<3->p≠q->eO t<=dY (x.aY p q)
 Tw:∀q,q<3->(x.out q).Pairwise fun a b=>bf a<=bf b
 oh:∀q,q<3->∀t∈x.out q,∀u∈x.aC q,bf t<=bf u
 heap:∀q,q<3->dR (x.aC q)
 qt:∀q,∀k∈x.ahead q,∃j:Nat,k=(j:Int)/\j<x.ae.length/\eO (x.ae.getD j [])<=x.aP q
 JI:∀q,(x.ahead q).length<=1+(x.aY 0 q).length+(x.aY 1 q).length+(x.aY 2 q).length
 zX:∃Ps,iI x.aq x.ae Ps
theorem sA(sc:List Int):(drawsOf sc).length<=19:=by rw[aag,aaR];rw[aag,acO];show 4+_+3<=19;lia
section
variable{sc:List Int}{x:PW}(H:JJ sc x)
include H
theorem JJ.F1:x.ae.length<=19:=ab3 H.n (sA sc)
theorem JJ.iJ:∀t∈x.ae,cz t:=fun t ht=>by obtain⟨i,hi⟩:=acb.mp ht;obtain⟨c,p,rfl,h1,h2⟩:=H.fM i t hi;have:=(aab.mp hi).1;have:=H.F1;exact⟨c,p,i,rfl,by lia,by lia,by lia,by lia⟩
theorem JJ.hd1:∀t∈x.ae,1<=eO t:=fun t ht=>by obtain⟨i,hi⟩:=acb.mp ht;obtain⟨c,p,rfl,h1,h2⟩:=H.fM i t hi;exact h1
theorem JJ.sC:∀p q,∀t∈x.aY p q,t∈x.ae:=fun p q t ht=>by
 by_cases h:p<3/\q<3/\p≠q
 ·have:=H.cl p q h.1 h.2.1 h.2.2;have hm:t∈bX x.ae p:=by rw[<-this];exact adv _ ht
  exact(acR.mp hm).1
 ·rw[(H.nP p q h).2]at ht;exact bg ht
theorem JJ.Bp:∀p q,∀t∈x.lines p q,t∈x.ae:=fun p q t ht=>by
 by_cases h:p<3/\q<3/\p≠q
 ·have:=H.cl p q h.1 h.2.1 h.2.2;have hm:t∈bX x.ae p:=by rw[<-this];exact List.mem_append_right _ ht
  exact(acR.mp hm).1
 ·rw[(H.nP p q h).1]at ht;exact bg ht
theorem JJ.du:∀p q,(x.aY p q).length<=19/\(x.lines p q).length<=19:=fun p q=>by
 by_cases h:p<3/\q<3/\p≠q
 ·have h1:=congrArg ade (H.cl p q h.1 h.2.1 h.2.2);have h2:=ada (fun t:List Int=>t.getD 1 0==(p:Int)) x.ae;rw[aag]at h1;have h3:(bX x.ae p).length<=x.ae.length:=h2;have:=H.F1;lia
 ·obtain⟨h1,h2⟩:=H.nP p q h;rw[h1,h2];simp
theorem JJ.known:∀q,q<3->∀t,t∈x.out q\/t∈x.aC q->t∈x.ae/\eO t<=x.aP q:=fun q hq t ht=>by
 have:=(H.perm q hq).subset (abn.mpr ht);rcases abn.mp this with h | h
 ·exact⟨(acR.mp h).1,H.tN q hq t h⟩
 ·have:∃p,t∈x.aY p q:=by
   rcases abn.mp h with h | h
   ·rcases abn.mp h with h | h
    ·exact⟨0,h⟩
    ·exact⟨1,h⟩
   ·exact⟨2,h⟩
  obtain⟨p,hp⟩:=this;exact⟨H.sC p q t hp,H.xN p q t hp⟩
theorem JJ.Bq:∀q,(x.out q).length<=100/\(x.aC q).length<=100:=fun q=>by
 by_cases hq:q<3
 ·have h1:=(H.perm q hq).length_eq;simp only[aag]at h1;have h2:=ada (fun t:List Int=>t.getD 1 0==(q:Int)) x.ae;have h3:(bX x.ae q).length<=x.ae.length:=h2;have:=H.F1;have:=(H.du 0 q).1;have:=(H.du 1 q).1;have:=(H.du 2 q).1;lia
 ·obtain⟨a,b,c⟩:=H.Bn q (by lia);rw[a,b];simp
theorem JJ.ok:x.Ok:=by
 obtain⟨Ps,hs⟩:=H.zX;have hn:=H.F1;have tt:∀t∈x.ae,T3 t:=fun t ht=>by obtain⟨a,p,m,e,_⟩:=H.iJ t ht;exact⟨a,p,m,e⟩
 refine⟨⟨hs.len,by lia,fun nd eC=> ?_⟩,fun p=>⟨?_,fun k hk=> ?_⟩,fun p q=>⟨?_,fun t ht=>tt t (H.sC p q t ht)⟩,fun q=>⟨?_,fun t ht=> ?_⟩,fun p q=>⟨?_,fun t ht=>tt t (H.Bp p q t ht)⟩,fun q=> ?_,?_⟩
 ·obtain⟨j,hj⟩:=acb.mp eC;have yh:=(aab.mp hj).1;have:=hs.bnd j (by rw[<-hs.len];exact yh);rw[abG,hj]at this;have this:nd.2.length<=40*x.ae.length:=this;lia
 ·have:=H.JI p;have:=(H.du 0 p).1;have:=(H.du 1 p).1;have:=(H.du 2 p).1;lia
 ·obtain⟨j,rfl,hj,_⟩:=H.qt p k hk;lia
 ·have:=(H.du p q).1;lia
 ·have:=(H.Bq q).2;lia
 ·by_cases hq:q<3
  ·exact tt t (H.known q hq t (.inr ht)).1
  ·rw[(H.Bn q (by lia)).1]at ht;exact bg ht
 ·have:=(H.du p q).2;lia
 ·have:=(H.Bq q).1;lia
 ·have:=congrArg ade H.told;rw[acO]at this;lia
end
theorem jq{α:Type}(f:Nat->α)(p:Nat)(v:α):up1 f p v p=v:=by unfold up1;rw[if_pos rfl]
theorem bC{α:Type}(f:Nat->α)(v:α)(h:j≠p):up1 f p v j=f j:=by unfold up1;rw[if_neg h]
theorem ux{α:Type}(f:Nat->Nat->α)(p q:Nat)(v:α):gJ f p q v p q=v:=by unfold gJ;rw[if_pos ⟨rfl,rfl⟩]
theorem dv{α:Type}(f:Nat->Nat->α)(v:α)(h:¬(i=p/\j=q)):gJ f p q v i j=f i j:=by unfold gJ;rw[if_neg h]
theorem c7{α:Type}(f:Nat->α)(v:α)(h:j=p):up1 f p v j=v:=by unfold up1;rw[if_pos h]
theorem qf{α:Type}(f:Nat->Nat->α)(v:α)(h:i=p/\j=q):gJ f p q v i j=v:=by unfold gJ;rw[if_pos h]
theorem Tx(F G:Nat->Nat)(hp:p<3)(h:∀j,j≠p->F j=G j):F 0+F 1+F 2+G p=G 0+G 1+G 2+F p:=by
 match p,hp with
 | 0,_=>have:=h 1 (by decide);have:=h 2 (by decide);lia
 | 1,_=>have:=h 0 (by decide);have:=h 2 (by decide);lia
 | 2,_=>have:=h 0 (by decide);have:=h 1 (by decide);lia
 | n+3,h=>exact gm h
theorem Br(h0:0<a)(h:∀u∈l,eO u<a):dY l<a:=by
 rcases List.eq_nil_or_concat l with rfl | ⟨r,u,rfl⟩
 ·simp only[wH];exact h0
 ·rw[List.concat_eq_append,jj];exact h u (by simp)
section
variable{sc:List Int}{x:PW}
theorem JJ.JK (H:JJ sc x)(hq:q<3):JJ sc (x.put q)/\∀u∈(x.put q).aC q,∃p,p<3/\p≠q/\dY (x.aY p q)<eO u:=by
 refine KQ (xJ (fC (jk x q 3)) (x.aC q).length (x.aC q) (x.out q) (abE _) (H.heap q hq) (fun u hu=>H.iJ u (H.known q hq u (.inr hu)).1)) fun P h' e q1 q2 q3 q4 q5 q6=> ?_;have hx:x.put q={x with aC:=up1 x.aC q h',out:=up1 x.out q (x.out q++P)}:=by show({x with aC:=_,out:=_}:PW)=_;exact e ▸ rfl
 refine hx ▸ ?_;have hPh:∀u,u∈P\/u∈h'->u∈x.aC q:=fun u hu=>q1.subset (abn.mpr hu);refine⟨⟨H.n,H.told,H.rest,H.fM,H.nP,fun r hr=> ?_,H.cl,H.inc,H.tN,H.xN,H.EM,fun r hr=> ?_,fun r hr t ht p hp hpr=> ?_,fun r hr=> ?_,fun r hr t ht u hu=> ?_,fun r hr=> ?_,H.qt,H.JI,H.zX⟩,fun u hu=> ?_⟩
 ·have Tz:r≠q:=fun zq=>cB (ba 0xab0d9db19910938 (bh zq) hq hr);show up1 _ _ _ _= []/\up1 _ _ _ _= []/\_;exact(bC _ _ Tz) ▸ (bC _ _ Tz) ▸ H.Bn r hr
 ·show List.Perm (up1 _ _ _ _++up1 _ _ _ _) _;by_cases h:r=q
  ·subst h;rw[jq,jq,acx];exact(List.Perm.append_left _ q1).trans (H.perm r hr)
  ·exact(bC _ _ h) ▸ (bC _ _ h) ▸ H.perm r hr
 ·have ht:t∈up1 _ _ _ _:=ht;by_cases h:r=q
  ·subst h;rw[jq]at ht;rcases abn.mp ht with ht | ht
   ·exact H.Bo r hr t ht p hp hpr
   ·exact acC (q5 t ht) (EK (xK hp hpr))
  ·rw[bC _ _ h]at ht;exact H.Bo r hr t ht p hp hpr
 ·show List.Pairwise _ (up1 _ _ _ _);by_cases h:r=q
  ·subst h;rw[jq,acZ];exact⟨H.Tw r hr,q3,fun a ha b hb=>H.oh r hr a ha b (hPh b (.inl hb))⟩
  ·rw[bC _ _ h];exact H.Tw r hr
 ·have ht:t∈up1 _ _ _ _:=ht;have hu:u∈up1 _ _ _ _:=hu;by_cases h:r=q
  ·subst h;rw[jq]at ht hu;rcases abn.mp ht with ht | ht
   ·exact H.oh r hr t ht u (hPh u (.inr hu))
   ·exact q4 t ht u hu
  ·rw[bC _ _ h]at ht hu;exact H.oh r hr t ht u hu
 ·show dR (up1 _ _ _ _);by_cases h:r=q
  ·subst h;rw[jq];exact q2
  ·rw[bC _ _ h];exact H.heap r hr
 ·have hu:u∈up1 _ _ _ _:=hu;rw[jq]at hu;have h1:=q6 u hu;refine bD (Bm (EL (xM x q))) fun p hp fF hm=> ?_;rw[hm]at h1;exact⟨p,hp,fF,h1⟩
theorem JJ.Bs (H:JJ sc x)(hq:q<3)(hp:p<3)(fF:p≠q)(hl:x.lines p q= [a,b,m]::ps):JJ sc (x.take q p a b m ps):=by
 have Hl:=H.cl p q hp hq fF;have Hl:=hl ▸ Hl;have hts: [a,b,m]∈bX x.ae p:=by refine Hl ▸ ?_;simp
 have vq: [a,b,m]∈x.ae:=(acR.mp hts).1;have TA:=H.inc p hp;simp only[<-Hl,acZ]at TA;have PF:dY (x.aY p q)<a:=Br (JT 3130044688 (H.hd1 _ vq:1<=a)) (fun u hu=>TA.2.2 u hu _ (.head _));have Dj:x.aP q<=imax (x.aP q) a+1/\a<=imax (x.aP q) a+1:=by unfold imax;split <;> lia
 refine⟨H.n,H.told,H.rest,H.fM,fun i j h=> ?_,fun r hr=> ?_,fun i j hi hj qi=> ?_,H.inc,fun i hi t ht=> ?_,fun i j t ht=> ?_,fun i=> ?_,fun r hr=> ?_,fun r hr t ht i hi hir=> ?_,H.Tw,fun r hr t ht u hu=> ?_,fun r hr=> ?_,fun r k hk=> ?_,fun r=> ?_,H.zX⟩
 ·have qp:¬(i=p/\j=q):=fun z=>h ⟨ba 0xdb09db19910928 (bh z.1) hp,ba 0xdb09db19910928 (bh z.2) hq,by lia⟩;show gJ _ _ _ _ _ _= []/\gJ _ _ _ _ _ _= [];exact(dv _ _ qp) ▸ (dv _ _ qp) ▸ H.nP i j h
 ·have Tz:r≠q:=fun zq=>cB (ba 0xab0d9db19910938 (bh zq) hq hr);show up1 _ _ _ _= []/\_/\up1 _ _ _ _= [];exact(bC _ _ Tz) ▸ (bC _ _ Tz) ▸ H.Bn r hr
 ·show gJ _ _ _ _ _ _++gJ _ _ _ _ _ _=_;by_cases h:i=p/\j=q
  ·rw[qf _ _ h,qf _ _ h,h.1,<-Hl];simp
  ·rw[dv _ _ h,dv _ _ h];exact H.cl i j hi hj qi
 ·show _<=up1 _ _ _ _;have:=H.tN i hi t ht;by_cases h:i=q
  ·rw[h]at this;rw[c7 _ _ h];exact acC this Dj.1
  ·rw[bC _ _ h];exact this
 ·have ht:t∈gJ _ _ _ _ _ _:=ht;show _<=up1 _ _ _ _;by_cases h:i=p/\j=q
  ·rw[qf _ _ h]at ht;refine(c7 _ _ h.2) ▸ ?_;rcases abn.mp ht with ht | ht
   ·have:=H.xN p q t ht;exact acC this Dj.1
   ·exact(abH.mp ht) ▸ Dj.2
  ·rw[dv _ _ h]at ht;have:=H.xN i j t ht;by_cases h2:j=q
   ·simp only[h2]at this;rw[c7 _ _ h2];exact acC this Dj.1
   ·rw[bC _ _ h2];exact this
 ·show 0<=up1 _ _ _ _;by_cases h:i=q
  ·rw[c7 _ _ h];exact Cb 0xb19a0b1b190120 Dj.2 (H.hd1 _ vq:1<=a)
  ·rw[bC _ _ h];exact H.EM i
 ·show List.Perm (x.out r++up1 _ _ _ _) (_++(gJ _ _ _ _ _ _++gJ _ _ _ _ _ _++gJ _ _ _ _ _ _));by_cases h:r=q
  ·rw[c7 _ _ h,h];rw[adz];intro u;have h1:=(adz.mp (H.perm q hq)) u;have h2:=(gX (x.aC q) [a,b,m]).count_eq u;have h3:=Tx (fun j=>(gJ x.aY p q (x.aY p q++ [[a,b,m]]) j q).count u) (fun j=>(x.aY j q).count u) hp fun j hj=>by exact(dv _ _ (fun z=>hj z.1)) ▸ rfl
   simp only[ux,adt,ac7,adW]at h1 h2 h3 ⊢;lia
  ·rw[bC _ _ h,dv _ _ (fun z=>h z.2),dv _ _ (fun z=>h z.2),dv _ _ (fun z=>h z.2)];exact H.perm r hr
 ·show _<=dY (gJ _ _ _ _ _ _);have h0:=H.Bo r hr t ht i hi hir;by_cases h:i=p/\r=q
  ·rw[qf _ _ h,jj];simp only[h.1,h.2]at h0;exact acC h0 (ac0 PF)
  ·rw[dv _ _ h];exact h0
 ·have hu:u∈up1 _ _ _ _:=hu;by_cases h:r=q
  ·replace hu:=(c7 _ _ h) ▸ hu;rw[h]at hr ht;rcases abi.mp ((gX _ _).subset hu)with rfl | hu
   ·exact ac0 (mS (H.iJ t (H.known q hq t (.inl ht)).1) (H.iJ _ vq) (by show eO t<a;exact li3 0x2b092b19110120 (H.Bo q hq t ht p hp fF) PF))
   ·exact H.oh q hq t ht u hu
  ·rw[bC _ _ h]at hu;exact H.oh r hr t ht u hu
 ·show dR (up1 _ _ _ _);by_cases h:r=q
  ·rw[c7 _ _ h];exact oR (H.heap q hq) (fun u hu=>H.iJ u (H.known q hq u (.inr hu)).1) (H.iJ _ vq)
  ·exact(bC _ _ h) ▸ H.heap r hr
 ·have hk:k∈up1 _ _ _ _:=hk;show ∃j:Nat,k=(j:Int)/\j<x.ae.length/\eO (x.ae.getD j [])<=up1 _ _ _ _;by_cases h:r=q
  ·rw[c7 _ _ h]at hk;rw[c7 _ _ h];rcases abn.mp hk with hk | hk
   ·refine bD (H.qt q k hk) fun j h1 h2 h3=>⟨j,h1,h2,acC h3 Dj.1⟩
   ·refine(abH.mp hk) ▸ ?_;refine aA (acb.mp vq) fun i hi=>dy (H.fM i _ hi) fun c s e Z=> ?_;have hm:m=(i:Int):=by
     exact(congrArg (fun l:List Int=>l.getD 2 0) e)
    refine⟨i,hm,(aab.mp hi).1,?_⟩;exact(abG) ▸ hi ▸ Dj.2
  ·rw[bC _ _ h]at hk;rw[bC _ _ h];exact H.qt r k hk
 ·show ade (up1 _ _ _ _)<=1+ade (gJ _ _ _ _ _ _)+ade (gJ _ _ _ _ _ _)+ade (gJ _ _ _ _ _ _);have h0:=H.JI r;by_cases h:r=q
  ·rw[c7 _ _ h];rw[h]at h0 ⊢;have h3:=Tx (fun j=>(gJ x.aY p q (x.aY p q++ [[a,b,m]]) j q).length) (fun j=>(x.aY j q).length) hp fun j hj=>by exact(dv _ _ (fun z=>hj z.1)) ▸ rfl
   simp only[ux,aag,acn,acQ]at h3 ⊢;lia
  ·rw[bC _ _ h,dv _ _ (fun z=>h z.2),dv _ _ (fun z=>h z.2),dv _ _ (fun z=>h z.2)];exact h0
theorem JJ.inv:Inv (JJ sc):=⟨fun x H=>H.ok,fun x q p a b m ps H hq hp fF hl=>H.Bs hq hp fF hl,fun x q H hq=>(H.JK hq).1⟩
end
theorem iK{α:Type}{l r:List α}{d:α}(h:i<l.length):(l++r).getD i d=l.getD i d:=by simp only[abG,abG,aaY h]
theorem jU{α:Type}{l:List α}{t:α}{d:α}(h:i=l.length):(l++ [t]).getD i d=t:=by simp only[abG,h];simp
theorem sD{α:Type}{l:List α}{d:α}(h:l.length<=i):l.getD i d=d:=by rw[abG,acW h];rfl
theorem qg{α:Type}{xs:List α}{t d:α}(hp:p<xs.length):(xs.set p t).getD i d=if i=p then t else xs.getD i d:=by
 simp only[abG,abG,acK];by_cases h:i=p
 ·subst h;simp[hp]
 ·rw[if_neg (Ne.symm h),if_neg h]
theorem xO(n:Int):∀(ns:List Int) (l:List Nd),(∀k∈ns,∃j:Nat,k=(j:Int)/\j<l.length)->(i3 n ns l).length=l.length/\∀j:Nat,j<l.length->((i3 n ns l).getD j (0,[])).1=(l.getD j (0,[])).1/\((i3 n ns l).getD j (0,[])).2=(l.getD j (0,[])).2++acM (ns.count (j:Int)) n:=by
 intro ns;induction ns with
 | nil=>exact fun l Z=>⟨rfl,fun j Z=>⟨rfl,(ab5 _).symm⟩⟩
 | cons k ns ih=>
  intro l h;refine ah (h k (.head _)) fun j0 TC hj0=> ?_;obtain rfl:=TC.symm;rw[show i3 n ((j0:Int)::ns) l=i3 n ns (l.set j0 ((l.getD j0 (0,[])).1,(l.getD j0 (0,[])).2++ [n])) from rfl];obtain⟨i1,i2⟩:=ih (l.set j0 ((l.getD j0 (0,[])).1,(l.getD j0 (0,[])).2++ [n])) (fun k hk=>by refine ah (h k (.tail _ hk)) fun j e hj=>⟨j,e,by simpa using hj⟩);refine⟨by rw[i1];simp,fun j hj=>aI (i2 j (by simpa using hj)) fun a b=> ?_⟩;rw[a,b,qg hj0];by_cases hjj:j=j0
  ·obtain rfl:=hjj.symm;rw[if_pos rfl];refine⟨rfl,?_⟩;rw[ac7];simp only[beq_self_eq_true,if_true,List.replicate_succ,acx,List.singleton_append]
  ·rw[if_neg hjj];refine⟨rfl,?_⟩;rw[ac7,if_neg (by simp;lia)];rfl
theorem iI.step (S:iI aq ms Ps)(hl:ns.length<=40)(pD:∀k∈ns,∃j:Nat,k=(j:Int)/\j<ms.length/\eO (ms.getD j [])<eO t):iI (i3 aq.length ns (aq++ [((ns.length:Int),[])])) (ms++ [t]) (Ps++ [ns]):=by
 have hlen:(aq++ [(((ns.length:Int),[]):Nd)]).length=ms.length+1:=by simp only[aag,S.len];rfl
 obtain⟨a1,a2⟩:=xO aq.length ns (aq++ [(((ns.length:Int),[]):Nd)]) (fun k hk=>by refine bD (pD k hk) fun j e hj Z=>⟨j,e,ab3 hj (aco (bl hlen))⟩);simp only[hlen]at a1 a2;have nI:(ms++ [t]).length=ms.length+1:=by simp
 have ph:(Ps++ [ns]).length=ms.length+1:=by simp only[aag,S.mT];rfl
 have hnN:ns.count ((ms.length:Nat):Int)=0:=aem.mpr fun hm=>by refine bD (pD _ hm) fun j e hj Z=>cB (ba 0xab081811b09928 hj (ij e))
 refine⟨by simp only[a1,nI],by simp only[ph,nI],fun i hi=> ?_,fun j hj i=> ?_,fun j hj z hz=> ?_,fun j hj=> ?_,fun i hi k hk=> ?_⟩
 ·have hi:=nI ▸ hi;refine(a2 i hi).1 ▸ ?_;by_cases h:i<ms.length
  ·rw[iK (by simp only[S.len];exact h),iK (by simp only[S.mT];exact h)];exact S.cnt i h
  ·rw[jU (by simp only[S.len];exact aac (ab8 hi) ((ic h))),jU (by simp only[S.mT];exact aac (ab8 hi) ((ic h)))]
 ·simp only[nI]at hj;simp only[(a2 j hj).2,adt,List.count_replicate];have hPi:(Ps++ [ns]).getD i []=if i<ms.length then Ps.getD i []else if i=ms.length then ns else []:=by
   by_cases h:i<ms.length
   ·rw[if_pos h,iK (by exact S.mT ▸ h)]
   ·refine(if_neg h) ▸ ?_;by_cases h2:i=ms.length
    ·rw[if_pos h2,jU (by simp only[S.mT];exact h2)]
    ·rw[if_neg h2,sD (by refine ph ▸ ?_;exact(aca ((ic h)) (Ne.symm h2)))]
  refine hPi ▸ ?_;have JL:(((aq.length:Int)==(i:Int))=true)↔i=ms.length:=by simp only[S.len];simp;lia
  by_cases h:j<ms.length
  ·refine(iK (by rw[S.len];exact h)) ▸ (S.U4 j h i) ▸ ?_;by_cases h1:i<ms.length
   ·exact(if_pos h1) ▸ (if_neg (fun z=>by have:=JL.mp z;exact cB (ba 0xab0b19910928 (bl this) h1))) ▸ rfl
   ·refine(if_neg h1) ▸ ?_;rw[(sD (by rw[S.mT];exact(ic h1)))];by_cases h2:i=ms.length
    ·refine(if_pos h2) ▸ (if_pos (JL.mpr h2)) ▸ ?_;simp
    ·refine(if_neg h2) ▸ (if_neg (fun z=>h2 (JL.mp z))) ▸ ?_;rfl
  ·have hjN:j=ms.length:=aac (ab8 hj) ((ic h));rw[jU (by exact S.len ▸ hjN)];obtain rfl:=hjN.symm;simp only[hnN];by_cases h1:i<ms.length
   ·refine(if_pos h1) ▸ ?_;have:(Ps.getD i []).count ((ms.length:Nat):Int)=0:=aem.mpr fun hm=>by
     refine bD (S.JH i h1 _ hm) fun k e hk Z=>cB (bj 0xab082812b1991b09938 hk h1 (ij e))
    simp only[this];simp
   ·refine(if_neg h1) ▸ ?_;by_cases h2:i=ms.length
    ·simp only[if_pos h2,hnN];simp
    ·refine(if_neg h2) ▸ ?_;simp
 ·simp only[nI]at hj;simp only[(a2 j hj).2]at hz;rcases abn.mp hz with hz | hz
  ·by_cases h:j<ms.length
   ·rw[iK (by simp only[S.len];exact h)]at hz;exact S.nat j h z hz
   ·rw[jU (by simp only[S.len];exact aac (ab8 hj) ((ic h)))]at hz;exact bg hz
  ·have:=List.eq_of_mem_replicate hz;exact lx [_] [_] 167805200 (jv this)
 ·simp only[nI]at hj ⊢;simp only[(a2 j hj).2,aag,List.length_replicate];have hc:ns.count (j:Int)<=40:=ab3 List.count_le_length hl;by_cases h:j<ms.length
  ·rw[iK (by simp only[S.len];exact h)];have:=S.bnd j h;exact bj 0xb1928ff209282f29128ff0928 this hc
  ·rw[jU (by simp only[S.len];exact aac (ab8 hj) ((ic h)))];show 0+_<=_;exact ba 0xb1928ff0a9282f0918 hc
 ·have hi:=nI ▸ hi;by_cases h:i<ms.length
  ·have hk:=(iK (by rw[S.mT];exact h)) ▸ hk;refine bD (S.JH i h k hk) fun j e hj hd=>⟨j,e,hj,by exact(iK (ab3 hj (aco h))) ▸ (iK h) ▸ hd⟩
  ·have hiN:i=ms.length:=aac (ab8 hi) ((ic h));rw[jU (by exact S.mT ▸ hiN)]at hk;refine bD (pD k hk) fun j e hj hd=>⟨j,e,ab3 hj (bl hiN),by exact(iK hj) ▸ (jU hiN) ▸ hd⟩
theorem oS(ms:List (List Int))(t:List Int)(p:Nat):bX (ms++ [t]) p=if(t.getD 1 0==(p:Int))=true then bX ms p++ [t]else bX ms p:=by
 unfold bX;rw[ac3];rw[(fun f=>by by_cases q:f t=true <;> simp[q]:∀f:List Int->Bool,[t].filter f=if f t=true then [t]else [])];split
 ·rfl
 ·rw[ab5]
section
variable{sc:List Int}{x:PW}
theorem JJ.F6 (H:JJ sc x)(hp:p<3)(hn:x.ae.length<(drawsOf sc).length):∃w r,ee x.rest=some (w,r)/\JJ sc (x.send p w r):=by
 refine bG (xH H.rest hn) fun w r h1 h2 h3=>⟨w,r,h1,?_⟩;refine aA (⟨_,rfl⟩:∃t,t=x.fM p) fun t ht=> ?_;have Fx:eO t=x.aP p+1:=by refine ht ▸ ?_;rfl
 have UP:t.getD 1 0=(p:Int):=by refine ht ▸ ?_;rfl
 have U5:bX (x.ae++ [t]) p=bX x.ae p++ [t]:=by rw[oS,if_pos (by simp only[UP];simp)]
 have zL:∀i,i≠p->bX (x.ae++ [t]) i=bX x.ae i:=fun i hi=>by rw[oS,if_neg (by refine UP ▸ ?_;simp;lia)]
 have htT:cz t:=by simp only[ht];exact⟨_,_,_,rfl,aa1 _,bY 0xdb089db09910 hp,aa1 _,bY 0x402fb089132f0910 H.F1⟩
 have yc:(x.ahead p).length<=40:=by
  have c0:=(H.du 0 p).1;have c1:=(H.du 1 p).1;have c2:=(H.du 2 p).1;have acf:∀j,j=p->(x.aY j p).length=0:=fun j e=>by rw[e,((H.nP p p (by lia)).2)];rfl
  have h3:0=p\/1=p\/2=p:=(Cc (by assumption)).imp Eq.symm (.imp Eq.symm Eq.symm);rcases h3 with h | h | h <;> (have:=acf _ h;(first | exact dZ 0x282f0132f39132f29a19321b9990948 (H.JI p) (bh this) c1 c2 | exact dZ 0x282f0132f39a29132f19321b9990948 (H.JI p) c0 (bh this) c2 | exact dZ 0x282f0a39132f29132f19321b9990948 (H.JI p) c0 c1 (bh this)))
 have hx:x.send p w r={rest:=r,aq:=i3 x.aq.length (x.ahead p) (x.aq++ [(((x.ahead p).length:Int),[])]),lines:=(fun a b=>if a=p/\b<3/\b≠p then x.lines a b++ [t]else x.lines a b),aY:=x.aY,aC:=up1 x.aC p (i7 (x.aC p) t),ahead:=up1 x.ahead p [(x.ae.length:Int)],out:=x.out,aP:=up1 x.aP p (x.aP p+1),told:=x.told++ [w],ae:=x.ae++ [t]}:=by exact ht ▸ rfl
 refine hx ▸ ?_;have hck:∀i,x.aP i<=up1 x.aP p (x.aP p+1) i:=fun i=>by
  by_cases h:i=p
  ·exact(c7 _ _ h) ▸ h ▸ JT 11571200
  ·exact(bC _ _ h) ▸ acd _
 refine⟨?_,?_,?_,fun i u hu=> ?_,fun i j h=> ?_,fun q hq=> ?_,fun i j hi hj qi=> ?_,fun i hi=> ?_,fun i hi u hu=> ?_,fun i j u hu=> ?_,fun i=> ?_,fun q hq=> ?_,H.Bo,H.Tw,fun q hq u hu v hv=> ?_,fun q hq=> ?_,fun q k hk=> ?_,fun q=> ?_,?_⟩
 ·show(x.ae++ [t]).length<=_;exact aag ▸ hn
 ·show x.told++ [w]=(wordsOf sc).take (x.ae++ [t]).length;exact H.told ▸ aag ▸ h3
 ·show qd sc (x.ae++ [t]).length r;exact aag ▸ h2
 ·have hu:(x.ae++ [t])[i]? =some u:=hu;by_cases h:i<x.ae.length
  ·simp only[aaY h]at hu;exact H.fM i u hu
  ·have hi:=(aab.mp hu).1;replace hi:=aag ▸ hi;have:i=x.ae.length:=aac (ab8 hi) ((ic h));subst this;have hu:=(abF (abE _)) ▸ hu;simp at hu;exact⟨x.aP p+1,p,by simp only[<-hu,ht],JT 47407210768 (H.EM p),hp⟩
 ·show(if i=p/\j<3/\j≠p then _ else _)= []/\_;rw[if_neg (fun z=>h ⟨ba 0xdb09db19910928 (bh z.1) hp,z.2.1,by lia⟩)];exact H.nP i j h
 ·show up1 _ _ _ _= []/\_/\up1 _ _ _ _= [];rw[bC _ _ (by lia),bC _ _ (by lia)];exact H.Bn q hq
 ·show x.aY i j++(if i=p/\j<3/\j≠p then _ else _)=bX (x.ae++ [t]) i;by_cases h:i=p
  ·rw[h]at qi ⊢;rw[if_pos ⟨rfl,hj,Ne.symm qi⟩,U5,<-H.cl p j hp hj qi,acx]
  ·rw[if_neg (fun z=>h z.1),zL i h];exact H.cl i j hi hj qi
 ·show List.Pairwise _ (bX (x.ae++ [t]) i);by_cases h:i=p
  ·simp only[h,U5,acZ];refine⟨H.inc p hp,adY _ _,fun a ha b hb=> ?_⟩;simp only[abH.mp hb,Fx];exact Cb 0xb19b0910110 (H.tN p hp a ha)
  ·simp only[zL i h];exact H.inc i hi
 ·have hu:u∈bX (x.ae++ [t]) i:=hu;show eO u<=up1 _ _ _ _;by_cases h:i=p
  ·simp only[h,U5]at hu;refine(c7 _ _ h) ▸ ?_;rcases abn.mp hu with hu | hu
   ·have:=H.tN p hp u hu;exact Cb 47664136464 this
   ·exact(abH.mp hu) ▸ Fx ▸ acd _
  ·simp only[zL i h]at hu;exact(bC _ _ h) ▸ H.tN i hi u hu
 ·exact acC (H.xN i j u hu) (hck j)
 ·exact acC (H.EM i) (hck i)
 ·show List.Perm (x.out q++up1 _ _ _ _) (bX (x.ae++ [t]) q++_);by_cases h:q=p
  ·rw[c7 _ _ h,h,U5,adz];intro u;have h1:=(adz.mp (H.perm p hp)) u;have h2:=(gX (x.aC p) t).count_eq u;simp only[adt,ac7,adW]at h1 h2 ⊢;lia
  ·rw[bC _ _ h,zL q h];exact H.perm q hq
 ·have hv:v∈up1 _ _ _ _:=hv;by_cases h:q=p
  ·rw[c7 _ _ h]at hv;rw[h]at hu;rcases abi.mp ((gX _ _).subset hv)with rfl | hv
   ·refine aI (H.known p hp u (.inl hu)) fun k1 k2=>ac0 (mS (H.iJ u k1) htT (by rw[Fx];exact Cb 0xb19b0910110 k2))
   ·exact H.oh p hp u hu v hv
  ·rw[bC _ _ h]at hv;exact H.oh q hq u hu v hv
 ·show dR (up1 _ _ _ _);by_cases h:q=p
  ·rw[c7 _ _ h];exact oR (H.heap p hp) (fun u hu=>H.iJ u (H.known p hp u (.inr hu)).1) htT
  ·rw[bC _ _ h];exact H.heap q hq
 ·have hk:k∈up1 _ _ _ _:=hk;show ∃j:Nat,k=(j:Int)/\j<(x.ae++ [t]).length/\eO ((x.ae++ [t]).getD j [])<=up1 _ _ _ _;by_cases h:q=p
  ·rw[c7 _ _ h]at hk;rw[abH.mp hk,c7 _ _ h];exact⟨x.ae.length,rfl,by simp,by rw[jU rfl,Fx];exact acd _⟩
  ·rw[bC _ _ h]at hk;refine bD (H.qt q k hk) fun j e hj hd=>⟨j,e,by simp;exact adh hj,by rw[(fun j hj=>iK hj) j hj,bC _ _ h];exact hd⟩
 ·show ade (up1 _ _ _ _)<=_;by_cases h:q=p
  ·rw[c7 _ _ h];show 1<=_;exact bj 141928536840
  ·rw[bC _ _ h];exact H.JI q
 ·refine aA H.zX fun Ps S=> ?_;refine⟨Ps++ [x.ahead p],S.step yc fun k hk=>bD (H.qt p k hk) fun j e hj hd=> ?_⟩;exact⟨j,e,hj,by rw[Fx];exact Cb 0xb19b0910110 hd⟩
theorem JJ.acg:um sc (JJ sc):=⟨JJ.inv,fun x p H hp hn=>H.F6 hp hn⟩
end
noncomputable def uy(t:List Nat):PW:={rest:=t,aq:= [],lines:=fun Z Z=> [],aY:=fun Z Z=> [],aC:=fun Z=> [],ahead:=fun Z=> [],out:=fun Z=> [],aP:=fun Z=>0,told:= [],ae:= []}
theorem xP(sc:List Int):Rep (w0 (bO sc).flatten) (uy (bO sc).flatten):=by
 have hz:(bO sc).flatten.length<=100000:=by
  have h1:=sk (l:=bO sc) fun y hy=>by refine ah (ab6.mp hy) fun d Z TF=>TF ▸ kM d
  have h2:(bO sc).length=(drawsOf sc).length:=by rw[aaR];exact aaR ..
  have:=sA sc;replace h1:=h2 ▸ h1;lia
 exact⟨rfl,hz,aci _,rfl,⟨0,rfl⟩,fun Z Z=>rfl,fun Z Z=>⟨aci _,aci _⟩,rfl,rfl,rfl,rfl,rfl,rfl,rfl⟩
theorem Bt(sc:List Int):JJ sc (uy (bO sc).flatten):=
 ⟨aci _,rfl,⟨[],(fun Z z=>bg z),rfl⟩,(fun i t z=>by cases i <;> exact aZ z),fun Z Z Z=>⟨rfl,rfl⟩,fun Z Z=>⟨rfl,rfl,rfl⟩,fun Z Z Z Z Z=>rfl,fun Z Z=>.nil,(fun Z Z Z z=>bg z),(fun Z Z Z z=>bg z),fun Z=>acd _,fun Z Z=>.refl _,(fun Z Z Z z=>bg z),fun Z Z=>.nil,(fun Z Z Z z=>bg z),(fun Z Z i h0 hi=>absurd hi (by show ¬i<0;exact acv (aci _))),(fun Z Z z=>bg z),fun Z=>aci _,
  ⟨[],rfl,rfl,(fun i hi=>absurd hi (by show ¬i<0;exact acv (aci _))),(fun i hi=>absurd hi (by show ¬i<0;exact acv (aci _))),(fun i hi=>absurd hi (by show ¬i<0;exact acv (aci _))),(fun i hi=>absurd hi (by show ¬i<0;exact acv (aci _))),(fun i hi=>absurd hi (by show ¬i<0;exact acv (aci _)))⟩⟩
section
variable{sc:List Int}
theorem sE(H:JJ sc x)(hp:p<3)(hn:x.ae.length<(drawsOf sc).length):JJ sc (x.eZ p)/\∃w r,x.eZ p=x.send p w r:=by
 refine dy (H.F6 hp hn) fun w r h1 h2=> ?_;have e:x.eZ p=x.send p w r:=by unfold PW.eZ;rw[h1]
 exact⟨by rw[e];exact h2,w,r,e⟩
theorem Bu(H:JJ sc x)(hq:q<3)(hp:p<3)(fF:p≠q):JJ sc (x.hV q p):=by
 unfold PW.hV;cases hl:x.lines p q with
 | nil=>exact H
 | cons t ps=>refine hY (((H.ok).tM p q).2 t (by exact hl ▸ .head _)) fun a b m TG=> ?_;subst TG;exact H.Bs hq hp fF hl
theorem EN(H:JJ sc x)(n:Int)(hn:x.ae.length<(drawsOf sc).length):JJ sc (x.step n):=by
 refine aI (Kt n) fun m1 m2=>aI (Kt (n.fmod 3+n.fdiv 3)) fun a1 a2=> ?_;refine(JJ.JK ?_ (Vj m1 m2)).1;split
 ·exact(sE H (Vj m1 m2) hn).1
 ·rename_i h0;exact Bu H (Vj m1 m2) (lx [_] [_] 0xdb09db091008128 (ij (abC a1)) a2) fun z=>FT n h0 z
theorem xQ:∀(l:List Int) (x:PW),JJ sc x->x.ae.length+l.length<=(drawsOf sc).length->JJ sc (PW.rounds l x)/\(PW.rounds l x).ae.length<=x.ae.length+l.length:=by
 intro l;induction l with
 | nil=>exact fun x H h=>⟨H,abE _⟩
 | cons n l ih=>intro x H h;rw[acn]at h;have h1:=mM x n;refine aI (ih (x.step n) (EN H n (bj 757094044178712 h)) (dZ 0x32093b29199b190928 h1 h)) fun k1 k2=>⟨k1,?_⟩;show(PW.rounds l (x.step n)).ae.length<=_;rw[acn];exact dZ 0xb29390b39192190928 k2 h1
structure mU(x y:PW)(q:Nat):Prop where
 ae:y.ae=x.ae
 lines:∀a b,b≠q->y.lines a b=x.lines a b
 aY:∀a b,b≠q->y.aY a b=x.aY a b
 aC:∀b,b≠q->y.aC b=x.aC b
 JM:∀a,x.lines a q= []->y.lines a q= []
theorem mU.refl (x:PW)(q:Nat):mU x x q:=⟨rfl,fun Z Z Z=>rfl,fun Z Z Z=>rfl,fun Z Z=>rfl,fun Z h=>h⟩
theorem mU.trans (h:mU x y q)(k:mU y z q):mU x z q:=
 ⟨k.ae.trans h.ae,fun a b hb=>(k.lines a b hb).trans (h.lines a b hb),fun a b hb=>(k.aY a b hb).trans (h.aY a b hb),fun b hb=>(k.aC b hb).trans (h.aC b hb),fun a ha=>k.JM a (h.JM a ha)⟩
theorem xR(x:PW)(q p:Nat)(a b m:Int)(ps:List (List Int))(h:x.lines p q≠ []):mU x (x.take q p a b m ps) q:=
 ⟨rfl,fun i j hj=>dv _ _ (fun z=>hj z.2),fun i j hj=>dv _ _ (fun z=>hj z.2),fun j hj=>bC _ _ hj,fun i hi=>by
  show gJ _ _ _ _ _ _= [];by_cases z:i=p
  ·subst z;exact absurd hi h
  ·exact(dv _ _ (fun w=>z w.1)) ▸ hi⟩
theorem Bv(x:PW)(q:Nat):mU x (x.put q) q:=⟨rfl,fun Z Z Z=>rfl,fun Z Z Z=>rfl,fun b hb=>bC _ _ hb,fun Z h=>h⟩
theorem xS(hq:q<3)(hp:p<3)(fF:p≠q):∀(l:List (List Int)) (x:PW),JJ sc x->x.lines p q=l->JJ sc (gj q p l x)/\mU x (gj q p l x) q/\(gj q p l x).lines p q= []:=by
 intro l;induction l with
 | nil=>exact fun x H hl=>⟨H,.refl _ _,hl⟩
 | cons t ps ih=>intro x H hl;refine hY (((H.ok).tM p q).2 t (by rw[hl];exact .head _)) fun a b m TH=> ?_;subst TH;refine bL (ih (x.take q p a b m ps) (H.Bs hq hp fF hl) (by show gJ _ _ _ _ _ _=_;rw[ux])) fun k1 k2 k3=>⟨k1,(xR x q p a b m ps (by rw[hl];simp)).trans k2,k3⟩
theorem xT(hq:q<3)(H:JJ sc x):∀k,k<=3->JJ sc (x.b9 q k)/\mU x (x.b9 q k) q/\∀p,p<k->p≠q->(x.b9 q k).lines p q= []:=by
 intro k;induction k with
 | zero=>exact fun Z=>⟨H,.refl _ _,fun p h=>absurd h (acv (aci _))⟩
 | succ k ih=>
  intro hk;refine bL (ih (aco hk)) fun k1 k2 k3=> ?_;show JJ sc ((x.b9 q k).drain q k)/\mU x ((x.b9 q k).drain q k) q/\∀p,p<k+1->p≠q->((x.b9 q k).drain q k).lines p q= [];unfold PW.drain;by_cases h:k=q
  ·rw[if_pos h];exact⟨k1,k2,fun p hp fF=>k3 p (ab3 (aca (bj 9044149289392424 hp (bh h)) fF) (bl h)) fF⟩
  ·rw[if_neg h];refine bL (xS hq hk h _ _ k1 rfl) fun j1 j2 j3=>⟨j1,k2.trans j2,fun p hp fF=> ?_⟩;by_cases z:p=k
   ·obtain rfl:=z.symm;exact j3
   ·exact j2.JM p (k3 p ((aca (ab8 hp) z)) fF)
structure KJ(x:PW)(k:Nat):Prop where
 lines:∀p q,p<3->q<k->p≠q->x.lines p q= []
 full:∀q,q<k->∀u∈x.aC q,∃p,p<3/\p≠q/\dY (x.aY p q)<eO u
theorem mV(H:JJ sc x):∀k,k<=3->JJ sc (x.aV k)/\KJ (x.aV k) k:=by
 intro k;induction k with
 | zero=>exact fun Z=>⟨H,⟨fun Z q Z h=>absurd h (acv (aci _)),fun q h=>absurd h (acv (aci _))⟩⟩
 | succ k ih=>
  intro hk;obtain⟨k1,k2⟩:=ih (aco hk);refine bL (xT hk k1 3 (abE _)) fun j1 j2 j3=> ?_;obtain⟨i1,i2⟩:=j1.JK hk;have g:=j2.trans (Bv ((x.aV k).b9 k 3) k);refine⟨i1,⟨fun p q hp hq fF=> ?_,fun q hq u hu=> ?_⟩⟩
  ·show((x.aV k).b9 k 3 |>.put k).lines p q= [];by_cases h:q=k
   ·obtain rfl:=h.symm;exact j3 p hp fF
   ·rw[g.lines p q h];exact k2.lines p q hp ((aca (ab8 hq) h)) fF
  ·have hu:u∈((x.aV k).b9 k 3 |>.put k).aC q:=hu;show ∃p,p<3/\p≠q/\dY (((x.aV k).b9 k 3 |>.put k).aY p q)<eO u;by_cases h:q=k
   ·obtain rfl:=h.symm;exact i2 u hu
   ·rw[g.aC q h]at hu;refine bD (k2.full q ((aca (ab8 hq) h)) u hu) fun p hp fF hl=>⟨p,hp,fF,by rw[g.aY p q h];exact hl⟩
end
theorem pre_take:∀(o h bc:List (List Int)),bc.Perm (o++h)->bc.Pairwise (fun a b=>bf a<=bf b)->o.Pairwise (fun a b=>bf a<=bf b)->(∀t∈o,∀u∈h,bf t<=bf u)->(∀t∈bc,cz t)->o=bc.take o.length:=by
 intro o;induction o with
 | nil=>exact fun h bc Z Z Z Z Z=>rfl
 | cons t o ih=>
  intro h bc hp hs ho hoh hm;cases bc with
  | nil=>have:=hp.length_eq;exact KY this
  | cons d bc=>
   have U6:t∈d::bc:=hp.symm.subset (.head _);have hdt:d∈t::(o++h):=hp.subset (.head _);rw[adT]at hs ho;have h1:bf d<=bf t:=by
    rcases abi.mp U6 with rfl | z
    ·exact acd _
    ·exact hs.1 t z
   have h2:bf t<=bf d:=by
    rcases abi.mp hdt with rfl | z
    ·exact acd _
    ·rcases abn.mp z with z | z
     ·exact ho.1 d z
     ·exact hoh t (.head _) d z
   have e:d=t:=EI (hm d (.head _)) (hm t U6) (ace h1 h2);subst e;have qo:bc.Perm (o++h):=(List.perm_cons d).mp hp;have:=ih h bc qo hs.2 ho.2 (fun t ht u hu=>hoh t (.tail _ ht) u hu) fun t ht=>hm t (.tail _ ht);show d::o=d::bc.take o.length;rw[<-this]
theorem xU(ms:List (List Int)):(∀t∈ms,∃p:Nat,t.getD 1 0=(p:Int)/\p<3)->∀u,ms.count u=(bX ms 0).count u+(bX ms 1).count u+(bX ms 2).count u:=by
 induction ms with
 | nil=>exact fun Z Z=>rfl
 | cons t ms ih=>
  intro h u;replace ih:=ih (fun t ht=>h t (.tail _ ht)) u;refine ah (h t (.head _)) fun p hp wK=> ?_;have key:∀i:Nat,bX (t::ms) i=if p=i then t::bX ms i else bX ms i:=fun i=>by
   unfold bX;by_cases z:p=i
   ·rw[if_pos z,List.filter_cons_of_pos (by refine hp ▸ z ▸ ?_;simp)]
   ·rw[if_neg z,List.filter_cons_of_neg (by refine hp ▸ ?_;simp;lia)]
  simp only[key,key,key,ac7];have h3:p=0\/p=1\/p=2:=Cc (by assumption);rcases h3 with rfl | rfl | rfl
  ·simp only[if_true,if_neg (show ¬(0:Nat)=1 by lia),if_neg (show ¬(0:Nat)=2 by lia),ac7];exact aac (nj 0x3241999409321990918 (bh ih)) (nj 0x4392140999321099918 (bl ih))
  ·simp only[if_true,if_neg (show ¬(1:Nat)=0 by lia),if_neg (show ¬(1:Nat)=2 by lia),ac7];exact aac (nj 0x3429199409321990918 (bh ih)) (nj 0x4392419099321099918 (bl ih))
  ·simp only[if_true,if_neg (show ¬(2:Nat)=0 by lia),if_neg (show ¬(2:Nat)=1 by lia),ac7];exact aac (nj 0x4392199409321990918 (bh ih)) (nj 0x4394291099321099918 (bl ih))
section
variable{sc:List Int}
theorem JJ.Bw (H:JJ sc x):∀t∈x.ae,∃p:Nat,t.getD 1 0=(p:Int)/\p<3:=fun t ht=>by obtain⟨i,hi⟩:=acb.mp ht;refine bG (H.fM i t hi) fun c p TJ Z h=>TJ ▸ ⟨p,rfl,h⟩
theorem JJ.xV (H:JJ sc x)(E:KJ x 3):∀u∈x.ae,∀q,q<3->eO u<=x.aP q:=fun u hu q hq=>by
 refine ah (H.Bw u hu) fun p hp wK=> ?_;have hus:u∈bX x.ae p:=acR.mpr ⟨hu,by rw[hp];simp⟩;by_cases h:p=q
 ·subst h;exact H.tN p hq u hus
 ·have hc:=H.cl p q wK hq h;rw[E.lines p q wK hq h,ab5]at hc;exact H.xN p q u (by rw[hc];exact hus)
theorem JJ.eN (H:JJ sc x)(E:KJ x 3)(hp:p<3)(hq:q<3)(h:p≠q):x.aY p q=bX x.ae p:=by have hc:=H.cl p q hp hq h;rwa [E.lines p q hp hq h,ab5]at hc
theorem JJ.Bx (H:JJ sc x)(E:KJ x 3)(hq:q<3):(x.out q++x.aC q).Perm x.ae:=by
 refine(H.perm q hq).trans ?_;simp only[adz];intro u;rw[(xU x.ae H.Bw u)];have h3:q=0\/q=1\/q=2:=Cc (by assumption);rcases h3 with rfl | rfl | rfl
 ·simp only[(H.nP 0 0 (by lia)).2,H.eN E (p:=1) (lx [] [] 14399752) (acy _) (fun zq=>cB (lx [] [] 180009240 (bh zq))),H.eN E (p:=2) (lx [] [] 14403848) (acy _) (fun zq=>cB (lx [] [] 180013336 (bh zq)))];simp only[adt,adW];exact aac (bj 9299197347563784) (bj 9475112622397704)
 ·simp only[(H.nP 1 1 (by lia)).2,H.eN E (q:=1) (acy _) (lx [] [] 14399752) (fun zq=>cB (lx [] [] 180009240 (bl zq))),H.eN E (p:=2) (q:=1) (lx [] [] 14403848) (lx [] [] 14399752) (fun zq=>cB (lx [] [] 180078872 (bh zq)))];simp only[adt,adW];exact aac (bj 9035316821821704) (bj 0x2a099192109908)
 ·simp only[(H.nP 2 2 (by lia)).2,H.eN E (q:=2) (acy _) (lx [] [] 14403848) (fun zq=>cB (lx [] [] 180013336 (bl zq))),H.eN E (p:=1) (q:=2) (lx [] [] 14399752) (lx [] [] 14403848) (fun zq=>cB (lx [] [] 180078872 (bl zq)))];simp only[adt,adW];exact aac (bj 591099732756744) (bj 0xa1099292109908)
theorem By(H:JJ sc x)(hn:x.ae.length+3<=(drawsOf sc).length):∀k,k<=3->JJ sc (x.sends k)/\(x.sends k).ae=x.ae++(acj k).map (fun p=> [x.aP p+1,(p:Int),((x.ae.length+p:Nat):Int)])/\∀p,k<=p->(x.sends k).aP p=x.aP p:=by
 intro k;induction k with
 | zero=>exact fun Z=>⟨H,(ab5 _).symm,fun Z Z=>rfl⟩
 | succ k ih=>
  intro hk;refine bL (ih (aco hk)) fun k1 k2 k3=> ?_;have hl:(x.sends k).ae.length=x.ae.length+k:=by rw[k2,aag,aaR,acV]
  refine aI (sE k1 hk (dZ 0x3b09db2993d1992190938 (bh hl) hn hk)) fun j1 TK=>eP TK fun w r e=> ?_;refine⟨j1,?_,fun p hp=> ?_⟩
  ·show((x.sends k).eZ k).ae=_;rw[e];show(x.sends k).ae++ [(x.sends k).fM k]=_;have hm:(x.sends k).fM k= [x.aP k+1,(k:Int),((x.ae.length+k:Nat):Int)]:=by
    show [(x.sends k).aP k+1,(k:Int),((x.sends k).ae.length:Int)]=_;rw[k3 k (abE _),hl]
   rw[hm,k2,adq,acq,acx];rfl
  ·show((x.sends k).eZ k).aP p=_;rw[e];show up1 _ _ _ _=_;rw[bC _ _ (by lia)];exact k3 p (aco hp)
theorem EO(Hx:JJ sc x)(Ex:KJ x 3)(Hy:JJ sc y)(Ey:KJ y 3)(hm:y.ae=x.ae++(acj 3).map (fun p=> [x.aP p+1,(p:Int),((x.ae.length+p:Nat):Int)])){bc:List (List Int)}(hp:bc.Perm y.ae)(hs:bc.Pairwise (fun a b=>bf a<=bf b))(hq:q<3):x.ae.length<=(y.out q).length/\y.out q=bc.take (y.out q).length:=by
 have TL:∀p,p<3->bX y.ae p=bX x.ae p++ [[x.aP p+1,(p:Int),((x.ae.length+p:Nat):Int)]]:=fun p hp=>by rw[hm];unfold bX;rw[ac3];congr 1;have h3:p=0\/p=1\/p=2:=Cc (by assumption);rcases h3 with rfl | rfl | rfl <;> rfl
 have TM:∀p,p<3->p≠q->dY (y.aY p q)=x.aP p+1:=fun p hp fF=>by simp only[Hy.eN Ey hp hq fF,TL p hp,jj];rfl
 have tr:∀u∈y.aC q,u∉x.ae:=fun u hu hux=>by refine bD (Ey.full q hq u hu) fun p wK fF hl=> ?_;rw[TM p wK fF]at hl;exact cB (Cb 0xab0111bb099128 hl (Hx.xV Ex u hux p wK))
 have vQ:=Hy.Bx Ey hq;refine⟨?_,pre_take (y.out q) (y.aC q) bc (hp.trans vQ.symm) hs (Hy.Tw q hq) (Hy.oh q hq) fun t ht=>Hy.iJ t (hp.subset ht)⟩;have hf:=(vQ.filter fun t=>decide (t∈x.ae)).length_eq;simp only[ac3,aag,hm,ac3,aag]at hf;rw[(ad7.mpr fun u hu=>by simpa using tr u hu:(y.aC q).filter (fun t=>decide (t∈x.ae))= []),(List.filter_eq_self.mpr fun u hu=>by simpa using hu:x.ae.filter (fun t=>decide (t∈x.ae))=x.ae)]at hf;simp only[acQ]at hf;exact dZ 0x30329a29109928 (bl hf) (ada (fun t=>decide (t∈x.ae)) (y.out q))
end
theorem sub_len{α:Type} [BEq α] [LawfulBEq α]:∀(a b:List α),a.Nodup->(∀z∈a,z∈b)->a.length<=b.length:=by
 intro a;induction a with
 | nil=>exact fun b Z Z=>aci _
 | cons z a ih=>intro b hn h;rw[acD]at hn;have hz:=h z (.head _);have:=ih (b.erase z) hn.2 fun y hy=>(List.mem_erase_of_ne (fun e=>hn.1 (by rw[<-e];exact hy))).mpr (h y (.tail _ hy));rw[List.length_erase_of_mem hz]at this;have:0<b.length:=List.length_pos_of_mem hz;rw[acn];lia
theorem Bz(N:Nat):((acj N).map fun(j:Nat)=>(j:Int)).Nodup:=by unfold List.Nodup;rw[ad0];exact List.nodup_range.imp fun h=>by lia
theorem BA{l:List Int}{N:Nat}(h:l.Nodup)(k:∀z∈l,0<=z/\z<N):l.length<=N:=by
 have:=sub_len l ((acj N).map fun(j:Nat)=>(j:Int)) h fun z hz=>by refine aI (k z hz) fun h1 h2=>ab6.mpr ⟨z.toNat,acB.mpr (lx [_,_] [_] 0x1b0918b091008128 (ij (abC h1)) h2),ace ((ij (abC h1))) ((jv (abC h1)))⟩
 rwa [aaR,acV]at this
theorem kQ(rs:List Int):∀(l:List Nd),(∀r∈rs,0<=r/\r<l.length)->∀j:Nat,j<l.length->((dI rs l).getD j (0,[])).2=(l.getD j (0,[])).2/\((dI rs l).getD j (0,[])).1=if(j:Int)∈rs then -1 else(l.getD j (0,[])).1:=by
 induction rs with
 | nil=>exact fun l Z j hj=>⟨rfl,(if_neg acS).symm⟩
 | cons r rs ih=>
  intro l h j hj;refine aI (h r (.head _)) fun h1 h2=> ?_;have hr:r.toNat<l.length:=lx [_,_] [_] 0x1b0918b091008128 (ij (abC h1)) h2;refine aI (ih (l.set r.toNat (-1,(l.getD r.toNat (0,[])).2)) (fun k hk=>by simpa using h k (.tail _ hk)) j (by simpa using hj)) fun a b=> ?_;show((dI rs (l.set _ _)).getD j _).2=_/\((dI rs (l.set _ _)).getD j _).1=_;rw[a,b,qg hr];by_cases hjr:j=r.toNat
  ·subst hjr;rw[if_pos rfl];refine⟨rfl,?_⟩;rw[if_pos (show((r.toNat:Nat):Int)∈r::rs by rw[show((r.toNat:Nat):Int)=r by lia];exact .head _)];split <;> rfl
  ·rw[if_neg hjr];refine⟨rfl,?_⟩;have:((j:Int)∈r::rs)↔(j:Int)∈rs:=by
    rw[abi];constructor
    ·rintro(z | z)
     ·lia
     ·exact z
    ·exact .inr
   by_cases q:(j:Int)∈rs
   ·rw[if_pos q,if_pos (this.mpr q)]
   ·rw[if_neg q,if_neg (fun z=>q (this.mp z))]
theorem xW:∀(xs:List Int) (l:List Nd) (rs:List Int),(∀r∈xs,0<=r/\r<l.length)->(∀j:Nat,j<l.length->(j:Int)∈xs->(xs.count (j:Int):Int)<=(l.getD j (0,[])).1)-> ∃R,(d0 xs (l,rs)).2=rs++R/\(d0 xs (l,rs)).1.length=l.length/\(∀j:Nat,j<l.length->((d0 xs (l,rs)).1.getD j (0,[])).2=(l.getD j (0,[])).2/\((d0 xs (l,rs)).1.getD j (0,[])).1=(l.getD j (0,[])).1-xs.count (j:Int))/\R.Nodup/\(∀z∈R,z∈xs)/\∀j:Nat,j<l.length->((j:Int)∈R↔(j:Int)∈xs/\(l.getD j (0,[])).1=(xs.count (j:Int):Int)):=by
 intro xs;induction xs with
 | nil=>exact fun l rs _ _=>⟨[],(ab5 _).symm,rfl,fun j hj=>⟨rfl,(Int.sub_zero _).symm⟩,.nil,(fun _ z=>bg z),fun j hj=>by simp⟩
 | cons x xs ih=>
  intro l rs h hc;refine aI (h x (.head _)) fun h1 h2=>aA (⟨x.toNat,ace ((jv (abC h1))) ((ij (abC h1)))⟩:∃i:Nat,x=(i:Int)) fun i TN=> ?_;obtain rfl:=TN.symm;have hi:i<l.length:=acL.mp h2;rw[show d0 ((i:Int)::xs) (l,rs)=d0 xs (l.set i ((l.getD i (0,[])).1-1,(l.getD i (0,[])).2),if(l.getD i (0,[])).1-1=0 then rs++ [(i:Int)]else rs) from rfl];have hg:∀j,(l.set i ((l.getD i (0,[])).1-1,(l.getD i (0,[])).2)).getD j (0,[])=if j=i then((l.getD i (0,[])).1-1,(l.getD i (0,[])).2)else l.getD j (0,[]):=fun j=>qg hi;have U7:=hc i hi (.head _);rw[aei]at U7;refine KO (ih (l.set i ((l.getD i (0,[])).1-1,(l.getD i (0,[])).2)) (if(l.getD i (0,[])).1-1=0 then rs++ [(i:Int)]else rs) (fun k hk=>by simpa using h k (.tail _ hk)) (fun j hj hm=>by
   have hj:j<l.length:=by simpa using hj
   rw[hg];by_cases q:j=i
   ·subst q;rw[if_pos rfl];show _<=(l.getD j (0,[])).1-1;exact lx [_] [_] 0xb0e080b098110 U7
   ·rw[if_neg q];have:=hc j hj (.tail _ hm);rw[aee (by lia)]at this;exact this)) fun R r1 r2 r3 r4 r5 r6=> ?_
  simp only[acN]at r2 r3 r6;have hr6:(i:Int)∈R↔(i:Int)∈xs/\(l.getD i (0,[])).1-1=(xs.count (i:Int):Int):=by have:=r6 i hi;rw[hg,if_pos rfl]at this;exact this
  have hzero:(l.getD i (0,[])).1-1=0->(i:Int)∉xs:=fun z hm=>by have:0<xs.count (i:Int):=ac4.mpr hm;exact cB (lx [_] [_] 0xabab0e10b09810ba9938 this U7 (ij z))
  refine⟨(if(l.getD i (0,[])).1-1=0 then [(i:Int)]else [])++R,?_,r2,fun j hj=> ?_,?_,fun z hz=> ?_,fun j hj=> ?_⟩
  ·rw[r1];split
   ·simp
   ·simp
  ·refine aI (r3 j hj) fun a b=> ?_;rw[a,b,hg];by_cases q:j=i
   ·subst q;rw[if_pos rfl,aei];exact⟨rfl,by show(l.getD j (0,[])).1-1-_=_;exact ace (lx [_] [_] 0xb0980e08b0ee00) (lx [_] [_] 0x8b0eeb0980e00)⟩
   ·rw[if_neg q,aee (by lia)];exact⟨rfl,rfl⟩
  ·split
   ·rename_i z;show((i:Int)::R).Nodup;rw[acD];exact⟨fun hm=>hzero z (hr6.mp hm).1,r4⟩
   ·exact r4
  ·rcases abn.mp hz with hz | hz
   ·split at hz
    ·rw[abH.mp hz];exact .head _
    ·exact bg hz
   ·exact .tail _ (r5 z hz)
  ·rw[abn];by_cases q:j=i
   ·refine cps fun _ zk=> ?_;subst q;refine zk ?_;clear zk;rw[aei,hr6];have gW:(j:Int)∈xs↔0<xs.count (j:Int):=ac4.symm;by_cases z:(l.getD j (0,[])).1-1=0
    ·rw[if_pos z];have:=aem.mpr (hzero z);constructor
     ·intro _;exact⟨.head _,ace (lx [_] [_] 0xb0980ab0e110 (ij z)) U7⟩
     ·intro _;exact .inl (.head _)
    ·rw[if_neg z];constructor
     ·rintro(w | ⟨w1,w2⟩)
      ·exact bg w
      ·exact⟨.head _,ace (lx [_] [_] 0xb098008b0e110 (ij w2)) (lx [_] [_] 0xb098b0e08110 (jv w2))⟩
     ·rintro⟨_,w⟩;refine .inr ⟨gW.mpr (by lia),ace (lx [_] [_] 0x8b0eb0980110 (ij w)) (lx [_] [_] 0xb0e080b098110 (jv w))⟩
   ·have h6:=r6 j hj;rw[hg,if_neg q]at h6;rw[h6,aee (by lia),abi];constructor
    ·rintro(w | ⟨w1,w2⟩)
     ·split at w
      ·have:=abH.mp w;lia
      ·exact bg w
     ·exact⟨.inr w1,w2⟩
    ·rintro⟨w1,w2⟩;rcases w1 with w1 | w1
     ·lia
     ·exact .inr ⟨w1,w2⟩
noncomputable abbrev kZ(done:Nat->Bool)(P:List Int):Nat:=P.countP fun k=> !done k.toNat
theorem xX(hv:done v=false)(P:List Int):(∀k∈P,∃j:Nat,k=(j:Int))->kZ (fun j=>done j||j==v) P+P.count (v:Int)=kZ done P:=by
 induction P with
 | nil=>exact fun Z=>rfl
 | cons k P ih=>
  intro h;refine aA (h k (.head _)) fun j TO=> ?_;subst TO;replace ih:=ih fun k hk=>h k (.tail _ hk);unfold kZ at ih ⊢;simp only[List.countP_cons,List.countP_cons,ac7];simp only[acw];by_cases q:j=v
  ·subst q;simp[hv];simp only[Bool.not_or]at ih;exact aac (bj 0xb29b19092109918 (bh ih)) (bj 0xb2919b092190918 (bl ih))
  ·have e1:((j:Int)==(v:Int))=false:=by simp;lia
   simp only[e1,(show(j==v)=false from by simpa using q),aeE,adS,if_false,Nat.add_zero];exact aac (dZ 0x329130992109918 (bh ih)) (dZ 0x231993092190918 (bl ih))
structure Run(aq:List Nd)(Ps:List (List Int))(N:Nat)(done:Nat->Bool)(n':List Nd)(free:List Int):Prop where
 len:n'.length=N
 U8:∀j,j<N->(n'.getD j (0,[])).2=(aq.getD j (0,[])).2
 dn:∀j:Nat,j<N->done j=true->(j:Int)∈free
 rd:∀j:Nat,j<N->done j=false->kZ done (Ps.getD j [])=0->(n'.getD j (0,[])).1= -1/\(j:Int)∈free
 wt:∀j:Nat,j<N->done j=false->0<kZ done (Ps.getD j [])->(n'.getD j (0,[])).1=(kZ done (Ps.getD j []):Int)/\(j:Int)∉free
 nd:free.Nodup
 rg:∀z∈free,0<=z/\z<N
theorem BC(S:iI aq ms Ps)(H:Run aq Ps ms.length done n' free)(hv:v<ms.length)(hd:done v=false)(J7:kZ done (Ps.getD v [])=0) (hs:∀i:Nat,(i:Int)∈(aq.getD v (0,[])).2->i<ms.length/\i≠v/\done i=false):∃R,(d0 (n'.getD v (0,[])).2 (n'.set v (-2,(n'.getD v (0,[])).2),[])).2=R/\(∀z∈R,0<=z/\z<(d0 (n'.getD v (0,[])).2 (n'.set v (-2,(n'.getD v (0,[])).2),[])).1.length)/\ Run aq Ps ms.length (fun j=>done j||j==v) (dI R (d0 (n'.getD v (0,[])).2 (n'.set v (-2,(n'.getD v (0,[])).2),[])).1) (free++R):=by
 have hPn:∀j:Nat,∀k∈Ps.getD j [],∃i:Nat,k=(i:Int):=fun j k hk=>by
  by_cases hj:j<ms.length
  ·refine ah (S.JH j hj k hk) fun i e Z=> ?_;exact⟨i,e⟩
  ·rw[sD (by exact S.mT ▸ (ic hj))]at hk;exact bg hk
 have lr:=fun j=>xX hd (Ps.getD j []) (hPn j);refine(H.U8 v hv) ▸ (aA (⟨_,rfl⟩:∃xs,xs=(aq.getD v (0,[])).2) fun xs Ka=> ?_);simp only[<-Ka]at hs ⊢;have uz:∀i:Nat,xs.count (i:Int)=(Ps.getD i []).count (v:Int):=fun i=>by exact Ka ▸ S.U4 v hv i
 have ach:∀z∈xs,0<=z:=fun z hz=>S.nat v hv z (by exact Ka ▸ hz);have mW:∀z∈xs,∃i:Nat,z=(i:Int)/\i<ms.length/\i≠v/\done i=false:=fun z hz=>by have:=ach z hz;refine aA (⟨z.toNat,ace ((jv (abC this))) ((ij (abC this)))⟩:∃i:Nat,z=(i:Int)) fun i TP=> ?_;subst TP;exact⟨i,rfl,hs i hz⟩
 have hvl:v<n'.length:=by simp only[H.len];exact hv
 have jg:∀j,(n'.set v (-2,xs)).getD j (0,[])=if j=v then(-2,xs)else n'.getD j (0,[]):=fun j=>qg hvl;have F7:(n'.set v ((-2:Int),xs)).length=ms.length:=by simp only[acN,H.len]
 have gW:∀i:Nat,(i:Int)∈xs->0<(Ps.getD i []).count (v:Int):=fun i hi=>by simp only[<-uz];exact ac4.mpr hi
 have TQ:∀i:Nat,(i:Int)∈xs->(n'.getD i (0,[])).1=(kZ done (Ps.getD i []):Int)/\(i:Int)∉free:=fun i hi=>by refine bL (hs i hi) fun h1 h2 h3=>H.wt i h1 h3 (bj 0x2ba9201990ba9928 (gW i hi) (bh (lr i)))
 refine KO (xW xs (n'.set v (-2,xs)) [] (fun z hz=>by
  obtain⟨i,rfl,h1,_⟩:=mW z hz;exact F7 ▸ ⟨aa1 _,acL.mpr h1⟩) (fun j hj hm=>by
  simp only[jg,if_neg (hs j hm).2.1,(TQ j hm).1,uz];exact bj 2755256162576 (bh (lr j)))) fun R r1 r2 r3 r4 r5 r6=> ?_
 simp only[F7]at r2 r3 r6;simp only[aey]at r1;refine⟨R,r1,fun z hz=> ?_,?_⟩
 ·refine bD (mW z (r5 z hz)) fun i TR h1 Z=> ?_;subst TR;exact r2 ▸ ⟨aa1 _,acL.mpr h1⟩
 have vT:=kQ R (d0 xs (n'.set v (-2,xs),[])).1 (fun z hz=>by refine bD (mW z (r5 z hz)) fun i TU h1 Z=> ?_;subst TU;exact r2 ▸ ⟨aa1 _,acL.mpr h1⟩);replace vT:=r2 ▸ vT;have hRm:∀j:Nat,j<ms.length->j≠v->((j:Int)∈R↔(j:Int)∈xs/\(n'.getD j (0,[])).1=(xs.count (j:Int):Int)):=fun j hj B2=>by have:=r6 j hj;simp only[jg,if_neg B2]at this;exact this
 refine⟨by simp only[gY,r2],fun j hj=> ?_,fun j hj h=> ?_,fun j hj h hc=> ?_,fun j hj h hc=> ?_,?_,fun z hz=> ?_⟩
 ·simp only[(vT j hj).1,(r3 j hj).1,jg];by_cases q:j=v
  ·rw[if_pos q,q,Ka]
  ·exact(if_neg q) ▸ H.U8 j hj
 ·by_cases q:j=v
  ·refine cps fun Z zk=> ?_;subst q;refine zk (adv _ ?_);exact(H.rd j hj hd J7).2
  ·have h:(done j||j==v)=true:=h;simp only[show(j==v)=false by simpa using q,aeE]at h;exact adv _ (H.dn j hj h)
 ·have h:(done j||j==v)=false:=h;simp only[ac5]at h;have B2:j≠v:=by simpa using h.2
  have h4:=lr j;have e2:=r3 j hj;simp only[jg,if_neg B2,uz]at e2;by_cases z:kZ done (Ps.getD j [])=0
  ·refine aI (H.rd j hj h.1 z) fun w1 w2=> ?_;have U9:(j:Int)∉R:=fun hm=>by
    exact cB (bj 0xaba29201990ba9938 (gW j ((hRm j hj B2).mp hm).1) (bh h4) (bh z))
   refine⟨?_,adv _ w2⟩;rw[(vT j hj).2,if_neg U9,e2.2,w1];exact ace (bY 0xbae08baee00) (bj 0x18baeebaea292109920 (bh h4) (bh z))
  ·refine aI (H.wt j hj h.1 ((adm z))) fun w1 w2=> ?_;have hR:(j:Int)∈R:=(hRm j hj B2).mpr ⟨(ac4.mp (by rw[uz];exact bj 0x2ba9a19219090ba9938 (adm z) (bl h4) (bh hc))),by simp only[w1,uz];exact ace (bj 0x2808a192190920 (bl h4) (bh hc)) (bj 2755256162576 (bh h4))⟩;refine⟨?_,List.mem_append_right _ hR⟩;rw[(vT j hj).2,if_pos hR]
 ·have h:(done j||j==v)=false:=h;simp only[ac5]at h;have B2:j≠v:=by simpa using h.2
  have e1:=vT j hj;have e2:=r3 j hj;simp only[jg,if_neg B2,uz]at e2;refine aI (H.wt j hj h.1 (bj 0x2ba90ba992109928 (bh (lr j)) hc)) fun w1 w2=> ?_;have U9:(j:Int)∉R:=fun hm=>by have:=((hRm j hj B2).mp hm).2;simp only[w1,uz]at this;exact cB (bj 0xab2ba99012991808138 (ij this) (bh (lr j)) hc)
  refine⟨?_,fun hm=> ?_⟩
  ·simp only[e1.2,if_neg U9,e2.2,w1];exact ace (bj 6799418059196688 (bl (lr j))) (bj 6800344160966928 (bh (lr j)))
  ·rcases abn.mp hm with hm | hm
   ·exact w2 hm
   ·exact U9 hm
 ·simp only[ads];refine⟨H.nd,r4,fun a ha b hb e=>cps fun Z zk=> ?_⟩;subst e;refine zk ?_;refine ah (mW a (r5 a hb)) fun i TV Z=>cps fun Z zk=> ?_;subst TV;refine zk ((TQ i (r5 _ hb)).2 ha)
 ·rcases abn.mp hz with hz | hz
  ·exact H.rg z hz
  ·refine bD (mW z (r5 z hz)) fun i TX h1 Z=>TX ▸ ⟨aa1 _,acL.mpr h1⟩
noncomputable abbrev idx(t:List Int):Int:=t.getD 2 0
noncomputable abbrev kR(pre:List (List Int)):Nat->Bool:=fun j=>decide ((j:Int)∈pre.map idx)
section
variable{sc:List Int}{x:PW}{Ps:List (List Int)}
theorem JJ.BD (H:JJ sc x)(ht:t∈x.ae):∃i:Nat,i<x.ae.length/\idx t=(i:Int)/\x.ae.getD i []=t:=by refine aA (acb.mp ht) fun i hi=>dy (H.fM i t hi) fun c p TY Z=> ?_;subst TY;exact⟨i,(aab.mp hi).1,rfl,by rw[abG,hi];rfl⟩
theorem JJ.BE (H:JJ sc x)(hi:i<x.ae.length):x.ae.getD i []∈x.ae/\idx (x.ae.getD i [])=(i:Int):=by
 have h:=aad hi;have e:x.ae.getD i []=x.ae[i]:=by rw[abG,h];rfl
 refine dy (H.fM i _ h) fun c p e2 Z=> ?_;rw[e];exact⟨ady hi,by rw[e2];rfl⟩
theorem JJ.xY (H:JJ sc x):(x.ae.map idx).Nodup:=by
 have:x.ae.map idx=(acj x.ae.length).map fun(j:Nat)=>(j:Int):=by
  apply adi;intro i;simp only[aa0];by_cases h:i<x.ae.length
  ·have h1:=aad h;refine dy (H.fM i _ h1) fun c p e2 Z=> ?_;simp only[h1,acz h,e2];rfl
  ·rw[acW ((ic h)),acW (by rw[acV];exact(ic h))];rfl
 rw[this];exact Bz _
theorem BF(H:JJ sc x)(S:iI x.aq x.ae Ps)(hp:bc.Perm x.ae)(hs:bc.Pairwise (fun a b=>bf a<=bf b)):∀(TZ pre:List (List Int)) (n':List Nd) (free:List Int),bc=pre++TZ->Run x.aq Ps x.ae.length (kR pre) n' free->mP x.ae.length TZ n' free:=by
 intro TZ;induction TZ with
 | nil=>
  intro pre n' free e R;rw[ab5]at e;refine cps fun Z zk=> ?_;subst e;refine zk ?_;clear zk;have h1:=BA R.nd R.rg;have h2:=sub_len ((acj x.ae.length).map fun(j:Nat)=>(j:Int)) free (Bz _) fun z hz=>by refine ah (ab6.mp hz) fun j hj T4=> ?_;obtain rfl:=T4.symm;have hj:=acB.mp hj;refine aI (H.BE hj) fun m1 m2=>R.dn j hj (decide_eq_true (ab6.mpr ⟨_,hp.symm.subset m1,m2⟩))
  rw[aaR,acV]at h2;show free.length=x.ae.length;exact aac h1 h2
 | cons t TZ ih=>
  intro pre n' free e R;have U6:t∈bc:=by rw[e];simp
  have vq:=hp.subset U6;refine bD (H.BD vq) fun v hv hvi hvt=> ?_;have eC:(bc.map idx).Nodup:=((hp.map idx).nodup_iff).mpr H.xY;rw[e,acq,acu,ads]at eC;have hnp:((v:Nat):Int)∉pre.map idx:=fun hm=>eC.2.2 _ hm _ (.head _) (by rw[hvi]);have hd:kR pre v=false:=decide_eq_false hnp;have vT:=hs;rw[e,acZ]at vT;have KI:∀u∈x.ae,cz u:=H.iJ;have JN:∀k:Nat,(k:Int)∈Ps.getD v []->kR pre k=true:=fun k hk=>by
   refine bD (S.JH v hv _ hk) fun j ej B2 bT=> ?_;have:k=j:=aac (acF.mp (ij ej)) (acF.mp (jv ej));refine cps fun Z zk=> ?_;subst this;refine zk ?_;clear zk;refine aI (H.BE (i:=k) (bj 0x2b092b1991b09928 B2 hv)) fun m1 m2=> ?_;rw[hvt]at bT;have De:=mS (KI _ m1) (KI _ vq) bT;have Hk:x.ae.getD k []∈bc:=hp.symm.subset m1;rw[e]at Hk;rcases abn.mp Hk with h | h
   ·exact decide_eq_true (ab6.mpr ⟨_,h,m2⟩)
   ·exfalso;rcases abi.mp h with h | h
    ·rw[h]at De;exact cB (JT 45914034456 De)
    ·have:=(adT.mp vT.2.1).1 _ h;exact cB (Cb 0xab0111b09128 De this)
  have J7:kZ (kR pre) (Ps.getD v [])=0:=by unfold kZ;rw[List.countP_eq_zero];intro k hk;refine ah (S.JH v hv k hk) fun j ej Z=> ?_;obtain rfl:=ej.symm;rw[acw,JN j hk];simp
  have CN:∀i:Nat,(i:Int)∈(x.aq.getD v (0,[])).2->i<x.ae.length/\i≠v/\kR pre i=false:=fun i hi=>by
   have hc:0<(Ps.getD i []).count (v:Int):=by rw[<-S.U4 v hv i];exact ac4.mpr hi
   have hm:=ac4.mp hc;have A9:i<x.ae.length:=by
    rcases aeM i x.ae.length with q | q
    ·exact q
    ·rw[sD (by rw[S.mT];exact q)]at hm;exact bg hm
   refine bD (S.JH i A9 _ hm) fun j ej hji bT=> ?_;have:v=j:=aac (acF.mp (ij ej)) (acF.mp (jv ej));refine cps fun Z zk=> ?_;subst this;refine zk ?_;clear zk;refine⟨A9,Nat.ne_of_gt hji,decide_eq_false fun vp=>ah (ab6.mp vp) fun u hu hui=> ?_⟩;have hud:u∈bc:=by rw[e];exact adv _ hu
   refine bD (H.BD (hp.subset hud)) fun i2 h1 h2 h3=> ?_;have:i2=i:=by have:idx u=(i:Int):=hui;exact aac (lx [_,_] [_] 17695282069800 (jv h2) (ij this)) (lx [_,_] [_] 17695282069800 (jv this) (ij h2))
   obtain rfl:=this.symm;have hle:=vT.2.2 u hu t (.head _);rw[hvt,h3]at bT;have:=mS (KI _ vq) (KI _ (hp.subset hud)) bT;exact cB (Cb 0xab0111b09128 this hle)
  refine bD (BC S R hv hd J7 CN) fun R' r1 r2 r3=> ?_;have u7:=R.rd v hv hd J7;have acm:(fun j=>kR pre j||j==v)=kR (pre++ [t]):=by
   funext j;show(decide ((j:Int)∈pre.map idx)||j==v)=decide ((j:Int)∈(pre++ [t]).map idx);have JO:((j:Int)∈(pre++ [t]).map idx)↔((j:Int)∈pre.map idx\/j=v):=by
    rw[acq,abn];show _\/(j:Int)∈ [idx t]↔_;rw[abH,hvi];constructor
    ·rintro(h | h)
     ·exact .inl h
     ·exact .inr (aac (acF.mp (ij h)) (acF.mp (jv h)))
    ·rintro(h | h)
     ·exact .inl h
     ·exact .inr (ace (acF.mpr (bh h)) (acF.mpr (bl h)))
   by_cases h1:(j:Int)∈pre.map idx
   ·rw[decide_eq_true h1,decide_eq_true (JO.mpr (.inl h1))];rfl
   ·rw[decide_eq_false h1];by_cases h2:j=v
    ·rw[decide_eq_true (JO.mpr (.inr h2))];simp[h2]
    ·rw[decide_eq_false (fun z=>(JO.mp z).elim h1 h2)];simp[h2]
  rw[acm]at r3;have h19:=H.F1;refine⟨v,hvi,by rw[R.len];exact hv,u7.2,u7.1,fun z hz=> ?_,?_,?_,?_,?_⟩
  ·rw[R.U8 v hv]at hz;have:=S.nat v hv z hz;refine aA (⟨z.toNat,ace ((jv (abC this))) ((ij (abC this)))⟩:∃i:Nat,z=(i:Int)) fun i T5=> ?_;obtain rfl:=T5.symm;have:=(CN i hz).1;rw[R.len];exact⟨aa1 _,acL.mpr this⟩
  ·rw[R.U8 v hv];have:=S.bnd v hv;lia
  ·rw[r1];exact r2
  ·rw[r1];have:=BA r3.nd r3.rg;exact ba 0x3e83f0132f1910928 this h19
  ·rw[r1];exact ih (pre++ [t]) _ _ (by rw[e,acx];rfl) r3
theorem uA(H:JJ sc x)(S:iI x.aq x.ae Ps)(hp:bc.Perm x.ae)(hs:bc.Pairwise (fun a b=>bf a<=bf b)):mP x.ae.length bc (dI (kK x.aq x.aq.length) x.aq) (kK x.aq x.aq.length):=by
 have hzm:∀j:Nat,(j:Int)∈kK x.aq x.aq.length↔j<x.ae.length/\(x.aq.getD j (0,[])).1=0:=fun j=>by
  unfold kK;rw[ab6];constructor
  ·rintro⟨i,hi,e⟩;have:i=j:=aac (acF.mp (ij e)) (acF.mp (jv e));subst this;refine aI (acR.mp hi) fun h1 h2=>⟨by exact S.len ▸ acB.mp h1,of_decide_eq_true h2⟩
  ·rintro⟨h1,h2⟩;exact⟨j,acR.mpr ⟨acB.mpr (by simp only[S.len];exact h1),decide_eq_true h2⟩,rfl⟩
 have hzr:∀z∈kK x.aq x.aq.length,0<=z/\z<x.ae.length:=fun z hz=>by
  have:∃j:Nat,z=(j:Int):=by refine ah (ab6.mp hz) fun j Z e=>⟨j,e.symm⟩
  obtain⟨j,rfl⟩:=this;have:=((hzm j).mp hz).1;exact⟨aa1 _,acL.mpr this⟩
 have vT:=kQ (kK x.aq x.aq.length) x.aq (fun z hz=>by exact S.len ▸ hzr z hz);have hny:∀j,kZ (kR []) (Ps.getD j [])=(Ps.getD j []).length:=fun j=>by simp only[List.countP_eq_length];intro k _;rfl
 refine BF H S hp hs bc [] _ _ rfl ⟨by simp only[gY,S.len],fun j hj=>(vT j (by exact S.len ▸ hj)).1,(fun j hj h=>by have h:decide ((j:Int)∈([]:List (List Int)).map idx)=true:=h;exact gu h),fun j hj h hc=> ?_,fun j hj h hc=> ?_,?_,hzr⟩
 ·simp only[hny]at hc;have h0:(x.aq.getD j (0,[])).1=0:=by simp only[S.cnt j hj,hc];rfl
  have hm:=(hzm j).mpr ⟨hj,h0⟩;exact⟨by rw[(vT j (by exact S.len ▸ hj)).2,if_pos hm],hm⟩
 ·simp only[hny]at hc ⊢;have hm:(j:Int)∉kK x.aq x.aq.length:=fun hm=>by
   have:=((hzm j).mp hm).2;simp only[S.cnt j hj]at this;exact cB (bY 0xab0ba99a08128 (ij this) hc)
  exact⟨by rw[(vT j (by exact S.len ▸ hj)).2,if_neg hm,S.cnt j hj],hm⟩
 ·unfold kK;unfold List.Nodup;rw[ad0];exact(List.nodup_range.filter _).imp fun h=>by lia
theorem EP(S:iI x.aq x.ae Ps):∀u,u<x.aq.length->∀z∈(x.aq.getD u (0,[])).2,(u:Int)<z/\z<x.aq.length:=fun u hu z hz=>by
 rw[S.len]at hu ⊢;have:=S.nat u hu z hz;refine aA (⟨z.toNat,by lia⟩:∃i:Nat,z=(i:Int)) fun i T7=> ?_;obtain rfl:=T7.symm;have hc:0<(Ps.getD i []).count (u:Int):=by rw[<-S.U4 u hu i];exact ac4.mpr hz
 have hm:=ac4.mp hc;have A9:i<x.ae.length:=by
  rcases aeM i x.ae.length with q | q
  ·exact q
  ·rw[sD (by rw[S.mT];exact q)]at hm;exact bg hm
 refine bD (S.JH i A9 _ hm) fun j ej hji Z=>⟨bj 0x28b0892b1991808120 (ij ej) hji,acL.mpr A9⟩
end
theorem plain(sc:List Int):Plain sc:=by
 refine aA (⟨_,rfl⟩:∃x0,x0=uy (bO sc).flatten) fun x0 RC=> ?_;have H0:JJ sc x0:=by rw[RC];exact Bt sc
 have hm0:x0.ae.length=0:=by rw[RC];rfl
 refine⟨JJ sc,x0,JJ.acg,H0,hm0,by rw[RC];exact xP sc,?_⟩;have U1:(numsOf sc).length+3=(drawsOf sc).length:=by have:(drawsOf sc).length=((numsOf sc).map gb).length+3:=aag;rw[this,aaR]
 refine aI (xQ (numsOf sc) x0 H0 (bj 9298763539155240 (bh hm0) (bh U1))) fun H1 MG=>aI (mV H1 3 (abE _)) fun H2 E2=> ?_;have Es:(PW.rounds (numsOf sc) x0).aV 3=PW.mid sc x0:=rfl;have nI:((PW.rounds (numsOf sc) x0).aV 3).ae.length<=(numsOf sc).length:=by rw[gk];exact bj 35878312937768 MG (bh hm0)
 rw[Es]at H2 E2 nI;show oP (wordsOf sc) (PW.mid sc x0).ae.length (((PW.mid sc x0).sends 3).aV 3);generalize PW.mid sc x0=M at H2 E2 nI;refine bL (By H2 (bj 0x2d092d19910928 nI (bh U1)) 3 (abE _)) fun H3 BP Z=>aI (mV H3 3 (abE _)) fun H4 E4=> ?_;have BP:=(gk (M.sends 3) 3) ▸ BP;generalize (M.sends 3).aV 3=y at H4 E4 BP;refine aA H4.zX fun Ps S=> ?_;have hyl:y.ae.length=M.ae.length+3:=by simp only[BP,aag,aaR,acV]
 exact⟨H4.told,sx,⟨ba 7546640664 (bl hyl),bY 0x402fb09132f0918 H4.F1⟩,H4.iJ,fun p q hp hq fF=>H4.eN E4 hp hq fF,fun bc hp hs r hr=>EO H2 E2 H4 E4 BP hp hs hr,by rw[S.len];exact bY 0x3843fb09132f0918 H4.F1,EP S,fun bc hp hs=>uA H4 S hp hs⟩
theorem sF(n:Nat):cellsFrom n aK.names []= [(s "p",n+2),(s "words",n+1),(s "draws",n)]:=by kernel_rfl
abbrev uB(n:Nat):Str->Option Addr:=fun x=>match aK.names.lookup x with | some .cell=>(cellsFrom n aK.names []).lookup x | _=>none
theorem F8(n:Nat):uB n (s "draws")=some n/\uB n (s "words")=some (n+1)/\uB n (s "p")=some (n+2)/\uB n (s "script")=none:=by and_intros<;>kernel_rfl
theorem JP(h:nv x=none)(k:m x=some v):Nm nv m x v:=by unfold Nm;rw[h];exact k
theorem xZ(T:Top gK (looseW gK gL) fc mg mb x.heap)(KX:(KK w.params).In x.heap)(ho:x.heap.get? fa=some o) (hd:o.data= .func (docDef (fnName (st 40)) (fy (st 40)) kY aK pm cd doc))(mY:x.heap.CodeRec cd (fnName (st 40)))(hD:x.heap.IsList D its.toArray)(hi:IntsAre its sc)(hz:sc.length<=63)(PL:Plain sc) (h:∀h' tk L m,Fr x.heap L h' m->R (.ok (.ret (.bool true))) {x with heap:=h',toks:=tk}):codeAny (model pw w) callerA (.call (.ref fa) ⟨[.ref D],[]⟩) R x:=by
 refine call_cellsN (binds:= [(s "script",.ref D)]) (by decide +kernel) ho hd T.nolimit mY (by kernel_rfl) (fun y hy=> ?_) (by rw[sF];decide +kernel) (fun h₁ tk cells F N CA=> ?_) (by kernel_rfl) (by kernel_rfl) (by kernel_rfl)
 ·rw[abH.mp hy];exact .inl (by kernel_rfl)
 refine aA (⟨_,rfl⟩:∃L',L'=x.heap.objs.size) fun L' Uu=> ?_;rw[<-Uu]at F N CA ⊢;refine aA (⟨_,rfl⟩:∃e':Fm,e'=⟨w,callerA.deeper (envOfC (fnName (st 40)) aK L' fa cd),callerA,x.heap,x.heap,[],L',fnName (st 40),aK,fa,cd,40,aK,cellsFrom (L'+1) aK.names [],none,uB (L'+1)⟩) fun e' ka=> ?_;have cx:Cx e':=by
  subst ka;refine⟨below_caller _,KX,⟨fc,mg,mb,T⟩,rfl,by kernel_rfl,by kernel_rfl,rfl,rfl,ot (by kernel_rfl) rfl rfl rfl (fun Z=>rfl),?_,?_,rfl⟩
  ·show callerA.depth+1+40<recursionLimit;decide +kernel
  ·show callerA.units+3+20*40<cLine;decide +kernel
 have CA0:=CA;rw[sF]at CA;have hc1:bindC (envOfC (fnName (st 40)) aK L' fa cd).kindOf [(s "script",.ref D)] (fun Z=>none) (s "p")=none:=by kernel_rfl
 have Tt:bindC (envOfC (fnName (st 40)) aK L' fa cd).kindOf [(s "script",.ref D)] (fun Z=>none) (s "words")=none:=by kernel_rfl
 have hc3:bindC (envOfC (fnName (st 40)) aK L' fa cd).kindOf [(s "script",.ref D)] (fun Z=>none) (s "draws")=none:=by kernel_rfl
 have hs1:bindL (envOfC (fnName (st 40)) aK L' fa cd).kindOf [(s "script",.ref D)] (fun Z=>none) (s "script")=some (.ref D):=by kernel_rfl
 have n0:cL w x.heap L' (uB (L'+1)) ⟨[],[]⟩ (bindL (envOfC (fnName (st 40)) aK L' fa cd).kindOf [(s "script",.ref D)] fun Z=>none) [] ⟨[],[]⟩ h₁:=
  ⟨F,(fun Z z=>bg z),aek,(fun Z Z z=>aZ z),rfl,rfl,⟨(fun Z Z Z z=>aZ z),(fun Z Z Z Z z=>aZ z),(fun Z Z Z Z Z z=>aZ z),(fun Z Z z=>aZ z)⟩,(fun Z z=>bg z),(fun Z Z z=>aZ z)⟩
 refine bD (cL.cells (fun Z=>none) CA (by simp) (fun Z Z Z z=>bg z) (by simpa using N) (fun aF ag Z a ha=>by
  simp only[abi,acS,or_false]at ha;rcases ha with rfl | rfl | rfl
  ·rw[hc1];trivial
  ·rw[Tt];trivial
  ·rw[hc3];trivial) n0) fun bx n1 x1 em=> ?_
 rw[ab5]at n1;have em:bx.m= [L'+1,L'+1+1,L'+1+2]:=em;have now:aU e' bx (bindL (envOfC (fnName (st 40)) aK L' fa cd).kindOf [(s "script",.ref D)] fun Z=>none) cells ⟨ym D,vM none none none⟩ h₁:=by
  subst ka;refine cL.names n1 fun y v ey=>vU (F8 (L'+1)) fun v1 v2 v3 v4=> ?_;simp only[ym,eQ]at ey;cases q1:Fast.sEq (s "script") y with
  | true=>rw[q1]at ey;obtain rfl:=aah.inj ey;have:=Fast.sEq_iff.mp q1;subst this;exact⟨.ref D,JP v4 hs1,rfl⟩
  | false=>
  cases q2:Fast.sEq (s "draws") y with
  | true=>rw[q1,q2]at ey;obtain rfl:=aah.inj ey;have:=Fast.sEq_iff.mp q2;subst this;exact⟨_,pI v1,_,by rw[em];rfl,rfl⟩
  | false=>
  cases q3:Fast.sEq (s "words") y with
  | true=>rw[q1,q2,q3]at ey;cases ey;have:=Fast.sEq_iff.mp q3;subst this;exact⟨_,pI v2,_,by rw[em];rfl,rfl⟩
  | false=>
  cases q4:Fast.sEq (s "p") y with
  | true=>rw[q1,q2,q3,q4]at ey;cases ey;have:=Fast.sEq_iff.mp q4;subst this;exact⟨_,pI v3,_,by rw[em];rfl,rfl⟩
  | false=>rw[q1,q2,q3,q4]at ey;exact aZ ey
 have hD':e'.h₀.IsList D its.toArray:=by rw[ka];exact hD
 have body:=JB cx (by rw[ka]) (by rw[ka]) (by rw[ka]) (by rw[ka]) (by rw[ka];show uB (L'+1) (s "p")≠none;rw[(F8 (L'+1)).2.2.1];simp) hD' hi hz PL kY rfl;subst ka;refine body {x with heap:=h₁,toks:=tk} bx _ cells now _ _ fun fl JZ c' h' Co aF m' ag q n' r=> ?_;subst q;refine ah r fun v' T8 rv=> ?_;subst T8;have rv:v'= .bool true:=rv;subst rv;exact h h' Co L' m' n'.F
theorem ET(h:defOf gK lw.row.name=some (d,Gn)):d.name=fnName (st 40)/\d.params=fy (st 40)/\d.body=kY/\d.scope=aK/\Gn= []/\(fy (st 40)).defaults= []:=by have e:defOf gK lw.row.name=some ((defOf gK lw.row.name).get (by rfl)):=(Option.some_get _).symm;rw[e]at h;have h:=aah.inj h;have h1:d=((defOf gK lw.row.name).get (by rfl)).1:=(congrArg Prod.fst h).symm;have h2:Gn=((defOf gK lw.row.name).get (by rfl)).2:=(congrArg Prod.snd h).symm;exact h1 ▸ h2 ▸ ⟨by kernel_rfl,by kernel_rfl,by kernel_rfl,by kernel_rfl,by kernel_rfl,by kernel_rfl⟩
theorem EU(HP:∀sc:List Int,sc.length<=63->Plain sc)(T9:defOf gK lw.row.name=some (d,Gn)):WalkO gK gL (fun _ _=>True) (InK KK) lw.row.toRowW d Gn (fun f vs=>PySem.call f vs):=by
 refine F9 (ET T9) fun d1 d2 d3 d4 d5 d6=> ?_;intro w s₀ s₁ mg mb G Y fa o pm cd doc dV kV ho hd mY hD hmg hg args vals as JN acp Fv hwl GN;refine Ground.open G ?_;intro T B D TE TW;have hdV:dV= .none:=hD.none (by exact d2 ▸ d6);have hkV:kV= .none:=by have hD:=d5 ▸ hD;exact hD.noKw
 simp only[d1]at mY;rw[hdV,hkV,d1,d2,d3,d4]at hd;clear T9 d1 d2 d3 d4 d5 d6 hD hdV hkV hmg
 wrow_args JN acp Fv hwl GN
 refine enter_call ?_
 w_top on
 refine codeAny_mono ?_ (fun _ _ g=>GoodW.toG g);rename_i hL ra w1 r0 hI hr hc hc';refine xZ (w:=w) T (kIn_of (e:=fun _=>rfl) (as:=Vk) Y) ho hd mY hL hI (by omega) (HP _ (by omega)) fun h' tk L m F=>goodW_bool F hg (fun cls=> ?_) ?_
 ·rfl
 ·wrow_post
theorem holds_of(HP:∀sc:List Int,sc.length<=63->Plain sc):lw.Holds:=head fun Z Z h=>EU HP h
theorem done:lw.Holds:=holds_of fun sc Z=>plain sc
end
end Mine
theorem PySem.Challenge.cw_om0195_01_holds : PySem.Challenge.rw_om0195_01.Holds :=
  Mine.done
