import PyProof.Rows.All
import Wide.All
import OpenK.AllK
import Wide.FinOn
import KE.KNest
import Lean
import PySem.Challenge.RW_bc0033_01
set_option maxRecDepth 100000
set_option maxHeartbeats 4000000
set_option genInjectivity false
set_option genSizeOf false
set_option backward.match.sparseCases false
set_option bootstrap.genMatcherCode false
set_option compiler.extract_closed false
set_option linter.all false
set_option tactic.hygienic false
set_option Elab.async false
set_option autoImplicit true
namespace Tw.Internal
@[elab_as_elim]theorem aaE.{u}{α:Sort u}{p:α->Prop}{a b:α}(h:b=a)(k:p a):p b:=Eq.substr h k
open Nat renaming le_trans->ae, le_of_eq->aK, le_add_right->bB, le_refl->bC, lt_of_lt_of_le->bT, add_le_add_left->cK, lt_irrefl->de, lt_of_le_of_lt->dw, add_le_add_right->dD, le_of_lt->dS, add_comm->eD, add_right_comm->fq, succ_le_succ->fF, le_of_ble_eq_true->fZ, add_le_add->gC, min_eq_left->gS, le_succ->gV, mul_le_mul_left->ia, le_add_left->ib, succ.inj->i8, lt_of_lt_of_eq->jV, not_lt->j0, add_assoc->kO, ne_of_lt->kP, lt_succ_self->lN, zero_le->mI, add_sub_cancel_left->qq, ne_of_gt->qE, le_total->qF, add_left_cancel->r8, min_eq_right->uA, div_le_self->uB, le_antisymm->uC, mul_comm->uP, succ_pos->uQ, lt_or_ge->uR, lt_trans->uS, succ_add_eq_add_succ->xn, le_of_lt_succ->xt, lt_succ_of_lt->xu, min_le_left->xD, succ_mul->xO, add_add_add_comm->AF, mul_le_mul_right->AI, add_sub_cancel'->AK, mod_eq_of_lt->AY, le_mul_of_pos_left->EV, le_sub_of_add_le'->E1
open Eq renaming symm->aq, trans->sS
open Option renaming some.inj->bq, isSome_iff_exists->Ax, isSome_some->AN, map_eq_some_iff->EZ
open List renaming mem_map->cb, mem_cons_of_mem->cj, length_append->cw, lookup_cons->cL, mem_cons_self->cV, length_cons->cW, mem_cons->dm, length_drop->dE, length_map->dF, map_cons->eB, map_map->fS, size_toArray->f3, nil_append->gT, getElem?_eq_getElem->hZ, cons.inj->iB, take_append_drop->i0, mem_append->jw, length_take->jW, append_nil->jX, getElem?_map->kL, drop_drop->kN, getD_eq_getElem?_getD->lJ, mem_singleton->lM, take_left->lP, not_mem_nil->mG, take_succ_cons->nN, flatMap_cons->nQ, all_eq_true->nR, cons.injEq->nT, eq_nil_of_length_eq_zero->oI, length_eq_zero_iff->oJ, mem_append_right->oK, length_nil->oP, take_take->oR, getElem?_eq_none_iff->qp, take_of_length_le->qr, append_assoc->qw, take_add_one->qx, forIn_cons->qz, map_append->qC, filter_cons_of_pos->r6, mem_append_left->r7, map_congr_left->r9, nodup_cons->sf, drop_left->si, filter_cons_of_neg->uu, mem_of_mem_drop->uw, of_mem_zip->uE, drop_left'->uG, any_eq_not_all_not->xo, length_pos_iff->xq, mem_filterMap->xr, take_length->xx, mem_filter->xC, mem_range->xI, getElem?_eq_none->Az, nodup_append->AW, flatMap_map->A3, cons_append->A4, take_left'->A8, map_take->Bl, append_cancel_left_eq->ER, getElem?_eq_some_iff->ES, drop_eq_getElem_cons->ET, drop_of_length_le->EY, length_eq_one_iff->E0, cons_lt_cons_iff->E4, length_replicate->E5, length_singleton->E6, mem_of_mem_take->E7, mem_of_getElem?->E9
open Int renaming le_trans->fR, toNat_natCast->kM, ofNat_lt->lR, zero_add->oW, le_of_eq->oX, ofNat_le->oY, natCast_nonneg->qv, fmod_eq_emod_of_nonneg->ur, add_le_add_left->AJ, lt_of_le_of_lt->AM, add_assoc->Bh, ofNat_inj->Bj
open Ne renaming symm->jf
open Iff renaming rfl->kb
open Bool renaming false_ne_true->kK, and_eq_true->mF, false_eq_true->nO, or_eq_true->qy, eq_iff_iff->xA, or_eq_false_iff->AG, and_eq_true_iff->AH, not_eq_true'->AU, eq_false_iff->AX
open Array renaming size_push->sg, getElem?_setIfInBounds->EP, getElem?_eq_none->EW
open Classical renaming byContradiction->xm
open UInt8 renaming ofNat_toNat->xw, toNat_inj->xB, toNat_ofNat'->AO
open PySem PySem.W PyProof.Rows
def ar:=@if_neg
def aA:=@if_pos
def aI:=@of_decide_eq_true
def bF:=@congrArg
def cM:=@beq_iff_eq
def cR:=@beq_eq_false_iff_ne
def j7:=@if_false
def mR:=@or_false
def oN:=@decide_eq_true_eq
def oQ:=@decide_eq_false
def qK:=@bne_iff_ne
def sj:=@decide_eq_true
def uD:=@beq_false_of_ne
def EU:=@decide_eq_false_iff_not
open PySem renaming wpAny_bind->ag, wpAny_mono->aB, wpAny_pure->aO, Heap.get?_push_of_some->bJ, Heap.get?_push_size->cB, Heap.lt_size->cC, sizeLine_eq->df, wpAny_of_eq->dn, wpAny_standAt->d7, wpAny_field->d9, wpAny_holding->eL, codeAny_mono->gU, wpAny_rule->gX, wpAny_newObj_type->iz, Heap.size_push->iA, Heap.SameBut.update->i6, wpAny_call_entry->i7, Sem.bind_eq_wrap'->ju, wpAny_seqItems->jY, Sem.wrap_wrap->jZ, Heap.get?_update_self->lK, wpAny_setField_rec->lL, wpAny_isInstance->lO, plainId_quiet->lQ, wpAny_callSpecial?_slot->mE, bm_if_false->nX, Around.under_plainId->oM, Sem.onRaise_eq_wrap->qs, F.plain_extend_loop->qt, codeAny_builtin->qA, wpAny_updateSeq->qB, wpAny_newFunctionEnv_cells->r5, wpAny_specialOf->se, slot_gen_next->sm, wpAny_call->sC, wpAny_load->sD, typeIs_int->sE, Calls.evalArgs_plain->uv, Obj.data_mapFields->ux, Obj.isFreed_of_seq->uy, Obj.data_mapSeq->uF, Obj.cls_mapSeq->uI, F.called_tuple->uJ, wpAny_attempt->uN, wpAny_onRaise->uO, typeIs_str->ve, F.args_object_init_2->xp, wpAny_setField->xG, isSubtype_type->xH, wpAny_handled->xK, wpAny_throw->xV, wpAny_point->xW, wpAny_letGo->xX, Calls.Name_function_global->Av, F.slot_tuple_iterator_next->Aw, codeAny_call_function->Ay, Obj.isFreed_of_fields->AA, builtinLookup_eq_fast->AB, F.slot_enumerate_next->AD, F.sub_str_bytes->AE, F.entry_extend_loop->AL, F.plain_list_iadd->AQ, F.plain_tuple_new->AR, wpAny_pyIter_enum->AS, wpAny_execs_cons->AZ, wpAny_pyIter_gen->A1, F.plain_sum_loop->A2, typeLookup_type->A6, F.slot_lri_next->A7, wpAny_ite_false->Ba, isSubtype_stop->Bd, F.slot_dict_pop->E3, wpAny_updateSeq_pair->E8, Around.frames_deeper->Fb, wpAny_loadName_free->Fd, F.entry_object_init->Fe
open PySem.W renaming typeIs_bytes->jy, bytesKind_is->qG, piece_app->sM, segRun_of->sN, hideAll_none->xP, KBw.pyIter_bytes->A0, KBw.iter_typeIs->A9, KBw.slot_next->Bk, FB.slot_bytes_getitem->E2
open PyProof.Rows renaming args_cons->sL
open PyProof renaming noPylong_small->EX
theorem lb{a b:Nat}(h:Nat.ble a b=true):a<=b:=fZ h
theorem m4(x:Nat):x % 4<4:=Nat.mod_lt x (lb rfl)
theorem m8(x:Nat):x % 8<8:=Nat.mod_lt x (lb rfl)
theorem Yd(x:Nat):((4 - x % 4) % 4+x) % 4=0:=(Nat.add_mod_mod _ x 4).symm.trans ((aI rfl:∀r,r<4->((4 - r) % 4+r) % 4=0) _ (m4 x))
theorem zN(x:Nat):(4 - x % 4) % 4+x<=x+3:=ae (dD (xt (m4 _)) x) (aK (eD 3 x))
theorem LJ(x:Nat):x % 8 % 4=x % 4:=Nat.mod_mod_of_dvd x (Nat.dvd_mul_right 4 2)
theorem Yc(p x k:Nat):(p+x+k) / 8=(p+x % 8+k) / 8+x / 8:=by
 refine sS ?_ (Nat.add_mul_div_right (p+x % 8+k) (x / 8) (lb rfl));refine bF (· / 8) ?_;refine sS ?_ (fq _ _ _);refine bF (·+k) ?_;refine sS (bF (p+·) (Nat.mod_add_div x 8).symm) ?_;refine sS (kO p _ _).symm (bF (p+x % 8+·) (uP 8 _))
theorem LH(k:Nat)(hk:∀r,r<8->((4 - r % 4) % 4+r+k) / 8<=2/\1<=((4 - r % 4) % 4+r+k) / 8){x0 x1:Nat}(h0:x0=(4 - x1 % 4) % 4+x1):(x0+k) / 8<=x1 / 8+2/\1<=(x0+k) / 8:=by
 have h:=hk _ (m8 x1);have e:(x0+k) / 8=((4 - x1 % 8 % 4) % 4+x1 % 8+k) / 8+x1 / 8:=by rw[h0,LJ];exact Yc _ x1 k
 exact⟨ae (aK e) (ae (dD h.1 _) (aK (eD 2 _))),ae h.2 (ae (bB _ _) (aK e.symm))⟩
theorem o8{x:Nat}(h:x % 8=0):x / 8*8=x:=Nat.div_mul_cancel (Nat.dvd_of_mod_eq_zero h)
theorem LK{x:Nat}(h:x % 8=0):(x+7) / 8=x / 8:=Nat.div_eq_of_lt_le (ae (Nat.div_mul_le_self x 8) (bB _ _)) (jV (lN (x+7)) ((bF (·+8) (o8 h)).symm.trans (xO _ 8).symm))
theorem w8{a b:Nat}(h0:a % 8=0)(h1:b<(a+7) / 8):8*b+8<=a:=ae (ia 8 (jV h1 (LK h0))) (Nat.mul_div_le a 8)
theorem z8{x:Nat}(h0:x % 4=0)(h1:x % 8≠4):x % 8=0:=(aI rfl:∀r,r<8->r % 4=0->r≠4->r=0) _ (m8 x) ((LJ x).trans h0) h1
theorem LI{a b c d:Nat}(h:a+(c - b)<=c+d):a<=b+d:=Nat.le_of_add_le_add_right (ae h (ae (dD (Nat.le_add_of_sub_le (bC (c - b))) d) (aK ((kO _ b d).trans (eD _ _)))))
theorem d8{x y m:Nat}(h:y<=x / 8+2)(hx:x<=m):y<=m+2:=ae h (dD (ae (uB x 8) hx) 2)
theorem tV{a b c n:Nat}(h:a+40*(b+1)<c)(hn:n<=40):a+n+40*b<c:=dw (ae (aK (fq a n _)) (cK hn _)) h
theorem tW{a k x0 x1 x2:Nat}(h0:x0=x1+x2)(h1:1<=x1)(hk:k<=10):a+10*x2+k<=a+10*x0:=ae (cK hk (a+10*x2)) (ae (aK (kO a (10*x2) 10)) (cK (ia 10 (ae (cK h1 x2) (aK ((eD x2 x1).trans h0.symm)))) a))
theorem X8(i q:Nat):(0:Int)+(i:Int)*8+(0+(q:Int)*1)=((8*i+q:Nat):Int):=congr (bF HAdd.hAdd ((oW _).trans (bF Int.ofNat (uP i 8)))) ((oW _).trans (Int.mul_one _))
theorem Wp{n tot K:Int}(n0:0<=n)(n1:n<=1000000)(h0:0<=tot)(hK:0<=K)(hz:tot+(K+1000000)<=1000000000000):(-(2 ^ 63)<=n/\n<2 ^ 63)/\(-(2 ^ 63)<=tot+n/\tot+n<2 ^ 63):=⟨⟨fR (aI rfl) n0,AM n1 (aI rfl)⟩,fR (aI rfl) (Int.add_nonneg h0 n0),AM (fR (AJ (fR n1 (Int.le_add_of_nonneg_left hK)) tot) hz) (aI rfl)⟩
theorem z1{C:Prop}{n k:Nat}(a:0=n)(b:n=k+1):C:=(Nat.succ_ne_zero k (b.symm.trans a.symm)).elim
theorem wF{i n:Nat}(h:i<=n)(k:Nat.ble n 9223372036854775807=true):(i:Int)<2 ^ 63:=Int.lt_of_lt_of_le (lR.mpr (Nat.lt_succ_of_le (ae h (fZ k)))) (aI rfl)
theorem X9{S p q b:Int}(hb:b=0∨b=1)(f7:0<=p)(h1:0<=S)(h2:S+2*p<=q):0<=p*b+S/\p*b+S+p<=q:=by
 rcases hb with rfl|rfl
 ·have e0:p*0+S=S:=(bF (·+S) (Int.mul_zero p)).trans (oW S)
  exact⟨fR h1 (oX e0.symm),fR (oX (bF (·+p) e0)) (fR (AJ (fR (Int.le_add_of_nonneg_left f7) (oX (Int.two_mul p).symm)) S) h2)⟩
 ·exact⟨Int.add_nonneg (fR f7 (oX (Int.mul_one p).symm)) h1,fR (oX ((bF (·+p) ((bF (·+S) (Int.mul_one p)).trans (Int.add_comm p S))).trans ((Bh S p p).trans (bF (S+·) (Int.two_mul p).symm)))) h2⟩
theorem n4(x:Nat):-(x:Int) % 4=(((4 - x % 4) % 4:Nat):Int):=by
 refine sS ?_ ((aI rfl:∀r:Nat,r<4->-(r:Int) % 4=((((4:Nat) - r) % 4:Nat):Int)) _ (m4 x));refine sS (bF (· % 4) ?_) (Int.add_mul_emod_self_left (-((x % 4:Nat):Int)) 4 (-((x / 4:Nat):Int)));refine sS (bF (λz:Nat=>-(z:Int)) (Nat.mod_add_div x 4).symm) ?_;exact(Int.neg_add (a:=((x % 4:Nat):Int)) (b:=4*((x / 4:Nat):Int))).trans (bF (_+·) (Int.mul_neg _ _).symm)
theorem cx{c y d:Nat}(h:y<=c){x:Nat}(h1:x<=y):x+(c - y+d)<=c+d:=ae (dD h1 _) (aK ((kO y (c - y) d).symm.trans (bF (·+d) (AK h))))
section
variable {a b c d u f g i j:Nat}
theorem jQ(h:a<=64)(k:b<=a):b<=16777216:=ae k (ae h (lb rfl))
theorem kA(h:a<=65536):a<=16777216:=ae h (lb rfl)
theorem kB(h:a<=64)(k:b=a):b<=65536:=ae (aK k) (ae h (lb rfl))
theorem ly(h:a<=16):a<=4096:=ae h (lb rfl)
theorem nB(h:a=b+1)(k:c+1=a):c=b:=i8 (k.trans h)
theorem nC(h:a<=64)(k:b<=a):b<=65536:=ae k (ae h (lb rfl))
theorem pT(h:a<=64)(k:a=b+1):b<=64:=ae (gV b) (ae (aK k.symm) h)
theorem pU(h:a=b+1)(k:c=b):c+1=a:=(bF (·+1) k).trans h.symm
theorem pV(h:a<=64)(k:b=a):b<=16777216:=ae (aK k) (ae h (lb rfl))
theorem rn:a+1<=a+6:=bB (a+1) 5
theorem tE(h:a<=1040):a<=16777216:=ae h (lb rfl)
theorem tF(h:a<=b)(k:b=c+1):a - 1<=c:=Nat.sub_le_of_le_add (ae h (aK k))
theorem wk(h:a+(b+1)<c):a<c:=dw (bB a _) h
theorem wh(h:a<=4096):a<=16777216:=ae h (lb rfl)
theorem we(h:a<=4096)(k:b=a+1):b<=16777216:=ae (aK k) (ae (fF h) (lb rfl))
theorem wd(h:a<=1024)(k:b<=a / 8+2/\1<=b)(l:c=b+33):c<=16777216:=ae (aK l) (ae (dD (d8 k.1 h) 33) (lb rfl))
theorem wg(h:a=b+c)(k:d=a):d - b=c:=(bF (· - b) (k.trans h)).trans (qq _ _)
theorem wj(h:a<=64)(k:a=b+c):c<=64:=ae (ib c b) (ae (aK k.symm) h)
theorem zk(h:a+(b+2)<c):a<c:=dw (bB a _) h
theorem zh(h:a=65):a<=16777216:=ae (aK h) (lb rfl)
theorem ze(h:a<=64)(k:a=b+c):b<=1024:=ae (bB b c) (ae (aK k.symm) (ae h (lb rfl)))
theorem zf(h:a<=64)(k:a=b+c):b<=16777216:=ae (bB b c) (ae (aK k.symm) (ae h (lb rfl)))
theorem zd(h:a<=64)(k:a=b+c):b<=65536:=ae (bB b c) (ae (aK k.symm) (ae h (lb rfl)))
theorem zi(h:a=b+1)(k:c=a):c - 1=b:=bF (· - 1) (k.trans h)
theorem zm(h:a=b+1)(k:0=a):False:=Nat.succ_ne_zero b (h.symm.trans k.symm)
theorem zj(h:a<=50000)(k:b<=a):b+(60000 - 102 - a+6*(16+1))<=60000:=cx (c:=60000 - 102) (d:=102) (ae h (lb rfl)) k
theorem zg(h:a+(60000 - 102 - b)<=60000):a<=b+102:=LI (c:=60000 - 102) h
theorem Dj(h:a<=16777216):a<=1099511627776:=ae h (lb rfl)
theorem Dm(h:a+(b+1)<=65536):a+1+b<=65536:=ae (aK (fq a 1 b)) h
theorem Di(h:a<=4096):(a+7) / 8<=65536:=ae (uB _ _) (ae (dD h 7) (lb rfl))
theorem Dl{a:Nat}:(0:Int)<=(a:Int):=by exact qv a
theorem C6(h:a=32):a<=4096:=ae (aK h) (lb rfl)
theorem C8{a b:Nat}(h:a=b+(1:Nat)):(0:Int)<(a:Int):=lR.mpr (bT (uQ b) (aK h.symm))
theorem Du:16<=20+10*a:=ae (lb rfl) (bB 20 _)
theorem Dr(h:a<=65535):a<=65536:=ae h (lb rfl)
theorem Dk(h:a+b<=65535):a<=65536:=ae (bB a b) (ae h (lb rfl))
theorem C4(h:a+b<=65535):b<=65536:=ae (ib b a) (ae h (lb rfl))
theorem C7:27+10*a<=40+10*a:=dD (lb rfl) _
theorem Dg:16<=40+10*a:=ae (lb rfl) (bB 40 _)
theorem Dn(h:a<=64)(k:8*b<=a):b<=4096:=ae (EV b (lb rfl:0<8)) (ae k (ae h (lb rfl)))
theorem C5(h:a<=b)(k:b=c+d):a - c<=d:=Nat.sub_le_iff_le_add'.mpr (ae h (aK k))
theorem C9(h:a+(b+1)<=60000):a<60000:=bT (Nat.lt_succ_of_le (bB a b)) h
theorem Dt:18+2*a+1<=19+2*a:=ae (aK (fq 18 (2*a) 1)) (dD (lb rfl) _)
theorem Dp(h:a<=64):a<=1024:=ae h (lb rfl)
theorem Dc(h:a=b+c)(k:a<=64):b<=16777216:=ae (bB b c) (ae (aK h.symm) (ae k (lb rfl)))
theorem C2:20+a=19+a+1:=by exact xn 19 a
theorem Ds(h:a+(b+1)<=50000):a<60000:=dw (bB a (b+1)) (dw h (lb rfl))
theorem Df(h:a<=64):a<=65536:=ae h (lb rfl)
theorem Dq(h:a<b):a<b:=h
theorem Dh(h:a=b)(k:b=c+d):a - c=d:=(bF (· - c) (h.trans k)).trans (qq _ _)
theorem C3(h:a<=b):a+1<=b+1:=fF h
theorem Dd(h:a=7):a<=16777216:=ae (aK h) (lb rfl)
theorem Jp(h:a+(b+2)<c):a+(b+1)<c:=dw (gV _) h
theorem IZ(h:a+40*(b+2+1)<c):a+1+40*(b+1+1)<c:=tV (b:=b+1+1) h (lb rfl)
theorem JK:a+(b+c)+d=a+c+b+d:=bF (·+d) ((bF (a+·) (eD b c)).trans (kO a c b).symm)
theorem Jo(h:a+(b+1)<=65536):a<=16777216:=ae (bB a _) (ae h (lb rfl))
theorem Jx(h:a+(b+1)<=65536):a+1<=16777216+1:=fF (ae (ae (bB a (b+1)) h) (lb rfl))
theorem I6{a:Nat}:¬(a:Int)<(0:Int):=by exact Int.not_ofNat_neg a
theorem Jt(h:a<=8):a<=65536:=ae h (lb rfl)
theorem Jr(h:a+1<=b):a<=b:=ae (gV _) h
theorem Jj(h:a<b+1+c):a<b+(c+1):=bT h (aK (fq b 1 c))
theorem Jy(h:a<=1024):(4 - a % 4) % 4+a<=1028:=ae (zN a) (ae (dD h 3) (lb rfl))
theorem JD(h:a<=1024):a<=16777216:=ae h (lb rfl)
theorem JA{a:Nat}(h:(4:Nat)<=a):(0:Int)<(a:Int):=lR.mpr (ae (lb rfl) h)
theorem JH(h:a=32):1+a<=16777216:=ae (aK (bF (1+·) h)) (lb rfl)
theorem JC(h:a=32)(k:b=32):a+1+b<=16777216:=ae (gC (dD (aK h) 1) (aK k)) (lb rfl)
theorem JI{a b:Nat}(h:a=b+(33:Nat)):(0:Int)<(a:Int):=lR.mpr (bT (uQ (b+32)) (aK h.symm))
theorem Jz(h:a=b+1)(k:a=c+1):c=b:=i8 (k.symm.trans h)
theorem IY(h:a+(b+1)=a+1):b=0:=i8 (r8 h)
theorem JF(h:a<b):min a b=a:=gS (dS h)
theorem Jc(h:a=b+1):20+10*b+7<=20+10*a:=tW (h.trans (eD b 1)) (bC 1) (lb rfl)
theorem I0{a b:Nat}(h:a<b):(a:Int)<(b:Int):=by exact lR.mpr h
theorem JJ(h:¬a<b):b<=a:=by exact Nat.le_of_not_lt h
theorem JL(h:a<=b)(k:b=c+1):a<=c+1:=ae h (aK k)
theorem Jg(h:a=b+1):40+10*b+3<=40+10*a:=tW (h.trans (eD b 1)) (bC 1) (lb rfl)
theorem Js(h:a=b+1):40+10*b+2<=40+10*a:=tW (h.trans (eD b 1)) (bC 1) (lb rfl)
theorem JB(h:a<60000):a<=65536:=ae (dS h) (lb rfl)
theorem Jv:19+a+1<=20+a:=aK (fq 19 a 1)
theorem Jd(h:8*a<=b)(k:c=8*a):c<=b:=ae (aK k) h
theorem Jq(h:a=b+c)(k:d=c):b+d=a:=(bF (b+·) k).trans h.symm
theorem Jf(h:a=b+1)(k:a<=64):b<=64:=ae (gV b) (ae (aK h.symm) k)
theorem Jn(h:a=b)(k:c=b)(l:d<a):d<c:=jV l (h.trans k.symm)
theorem Jb(h:a<=b)(k:c+b<=60000):c+a<=60000:=ae (cK h c) k
theorem I4(h:a+(b+1)<=60000)(k:c<=a+1):c+b<=60000:=ae (dD k b) (ae (aK (fq a 1 b)) h)
theorem Ju(h:a<=16):a<=16777216:=ae h (lb rfl)
theorem zl(h:a=b+c)(k:a<=64):b<=65536:=ae (bB b c) (ae (aK h.symm) (ae k (lb rfl)))
theorem Jl{a b:Nat}(h:a=b+(1:Nat)):(a:Int)=(b:Int)+(1:Int):=by exact Int.neg_inj.mp (bF Neg.neg (bF Nat.cast h))
theorem I8{a b:Nat}(h:¬a=b+(1:Nat)):(a:Int)≠(b:Int)+(1:Int):=by exact Nat.ToInt.of_diseq rfl rfl h
theorem Je(h:a<b)(k:¬b=a+1)(l:b - (a+1)=0):False:=k (uC (Nat.le_of_sub_eq_zero l) h)
theorem Ja(h:a=32)(k:b=32):a+b<=4096:=ae (gC (aK h) (aK k)) (lb rfl)
theorem Ji{a:Nat}(h:¬a=(0:Nat)):(a:Int)≠(0:Int):=by exact Int.ofNat_ne_zero.mpr h
theorem Jh(h:a=1):a<=1024:=ae (aK h) (lb rfl)
theorem I7(h:a=1):a<=64:=ae (aK h) (lb rfl)
theorem Jm(h:a=b+1):c+6+6*(b+1)<=c+6*(a+1):=ae (aK (fq c 6 _)) (cK (ia 6 (fF (aK h.symm))) c)
theorem Jk(h:a=b+1)(k:a<=64):b<=63:=Nat.le_of_succ_le_succ (ae (aK h.symm) k)
theorem I9:19+2*a+1<=20+2*a:=ae (aK (fq 19 (2*a) 1)) (dD (lb rfl) _)
theorem JG:20+2*a+1<=22+2*a:=ae (aK (fq 20 (2*a) 1)) (dD (lb rfl) _)
theorem I5(h:a<=8):a<=4096:=ae h (lb rfl)
theorem Jw(h:a<=40)(k:b<=a):b<=50:=ae k (ae h (lb rfl))
theorem JE:21+a+1<=22+a:=aK (fq 21 a 1)
theorem HZ(h:a=b+c):a - b=c:=(bF (· - b) h).trans (qq _ _)
theorem H0(h:a<=b)(k:c+b<=50000):c+a<=50000:=ae (cK h c) k
theorem H7(h:a+(b+1)<=50000)(k:c<=a+1):c+b<=50000:=ae (dD k b) (ae (aK (fq a 1 b)) h)
theorem Ie(h:a<b)(k:c=b):a<c:=jV h k.symm
theorem H8(h:a=b)(k:c<b):c<a:=jV k h.symm
theorem H4(h:a<=64):a<=16777216:=ae h (lb rfl)
theorem HY(h:a+b<=64)(k:c=a+b):c<=16777216:=ae (aK k) (ae h (lb rfl))
theorem HW(h:1+a<=64)(k:b=1+a):b<=16777216:=ae (aK k) (ae h (lb rfl))
theorem H3:a<1+a:=jV (lN a) (eD a 1)
theorem Ia(h:1+a<=64):a<=64:=ae (ib a 1) h
theorem Cs(h:0=a)(k:a=b+c)(l:0<b):False:=de 0 (bT l (ae (bB b c) (aK (k.symm.trans h.symm))))
theorem H5(h:a=b)(k:b=c+1):a - 1=c:=bF (· - 1) (h.trans k)
theorem HU(h:a<=63):a<=16777216:=ae h (lb rfl)
theorem HX(h:a<4):a=0∨a=1∨a=2∨a=3:=(aI rfl:∀r,r<4->r=0∨r=1∨r=2∨r=3) a h
theorem Ib(h:a=2):8*a<=16:=aK (bF (8* ·) h)
theorem Ig(h:a+40*(40+1)<b):a<b:=dw (bB a _) h
theorem Ic(h:a=2):a<=65536:=ae (aK h) (lb rfl)
theorem H9(h:a+40*(60+1)<b):a<b:=dw (bB a _) h
theorem Ii(h:a<=60)(k:b<=a):b<=65536:=ae k (ae h (lb rfl))
theorem HV(h:a<=b):a<=b+1:=by exact Nat.le_add_right_of_le h
theorem Ij(h:a<=b):a<=b+102:=by exact Nat.le_add_right_of_le h
theorem Ih(h:a<=200):a<60000:=dw h (lb rfl)
theorem Uh(h:a<=b)(k:c+40*(b+1)<d):c+40*(a+1)<d:=dw (cK (ia 40 (fF h)) c) k
theorem TY(h:a+(b+1)<c):a+1+b<c:=dw (aK (fq a 1 b)) h
theorem UB(h:a+40*(b+1+1)<c):a+3+40*(b+1)<c:=tV h (lb rfl)
theorem Uo{a b:Nat}(h:a<=(16777216:Nat)):¬(b:Int)+(1:Int)=(0:Int):=by exact not_eq_of_beq_eq_false rfl
theorem U4{a:Nat}:(0:Int)<(↑(a+(1:Nat)):Int):=by exact Int.ofNat_succ_pos a
theorem US{a:Nat}:(↑(a+(1:Nat)):Int) - (1:Int)=(a:Int):=by exact Int.sub_eq_iff_eq_add.mpr rfl
theorem Ui(h:a+(b+1)<c):a+b<c:=dw (cK (gV b) a) h
theorem UD(h:a+40*(b+1+1)<c):a+1+40*(b+1)<c:=tV h (lb rfl)
theorem Ub{a:Nat}:(0:Int)<=(1000000:Int)*(a:Int):=by exact Int.zero_le_ofNat (1000000*a)
theorem UK{a b:Int}(h:(0:Int)<=a)(k:(0:Int)<=b):(0:Int)<=a+b:=by exact Int.add_nonneg h k
theorem UW(h:a<=b)(k:b<=a):a=b:=by exact uC h k
theorem Tv{a:Nat}(h:a<=(4096:Nat)):(-100000:Int)<=(a:Int):=by exact Int.neg_ofNat_le_natCast 100000 a
theorem Vd{a:Nat}(h:a<=(4096:Nat)):(a:Int)<=(100000:Int):=oY.mpr (ae h (lb rfl))
theorem Uz{a:Nat}(h:a<=(4096:Nat)):(-100000:Int)<=(↑((a+(7:Nat)) / (8:Nat)):Int):=by exact Int.neg_ofNat_le_natCast 100000 ((a+7) / 8)
theorem Ul{a:Nat}(h:a<=(4096:Nat)):(↑((a+(7:Nat)) / (8:Nat)):Int)<=(100000:Int):=oY.mpr (ae (uB _ _) (ae (dD h 7) (lb rfl)))
theorem Vb{a:Nat}(h:a<=(4096:Nat)):(-100000:Int)<=(a:Int)+((8:Int) - (1:Int)):=by exact Int.neg_ofNat_le_ofNat 100000 (a+(8 - Nat.succ 0))
theorem Uw{a:Nat}(h:a<=(4096:Nat)):(a:Int)+((8:Int) - (1:Int))<=(100000:Int):=fR (Int.add_le_add_right (oY.mpr h) _) (aI rfl)
theorem U9{a:Nat}:(0:Int)+(a:Int)*(8:Int)=(↑((8:Nat)*a):Int):=(oW ((a:Int)*8)).trans (bF Int.ofNat (uP a 8))
theorem SY{a:Nat}(h:(0:Int)+(a:Int)*(8:Int)=(↑((8:Nat)*a):Int)):(↑((8:Nat)*a):Int)+(8:Int)=(↑((8:Nat)*a+(8:Nat)):Int):=by exact Int.mem_toNat?.mp rfl
theorem TP:8*a+8 - 8*a=8:=qq _ _
theorem Cq{a:Nat}:((0:Int)+(a:Int)*(8:Int)).toNat=(8:Nat)*a:=(bF Int.toNat (oW ((a:Int)*8))).trans (uP a 8)
theorem Th{a:Nat}(h:a+(1:Nat)<=(7:Nat)):(↑(a+(1:Nat)):Int) ≥ (0:Int):=by exact qv (a+1)
theorem Td{a:Nat}(h:a+(1:Nat)<=(7:Nat)):¬(a:Int)+(1:Int)=(0:Int):=by exact not_eq_of_beq_eq_false rfl
theorem S9{a b:Nat}(h:a+(1:Nat)<=(7:Nat))(k:b>(1000:Nat)):¬(2:Int)*(↑(a+(1:Nat)):Int)>(b:Int):=Int.not_lt.mpr (oY.mpr (ae (ia 2 h) (ae (lb rfl:2*7<=1000) (dS k))))
theorem U7{a:Nat}(h:a+(1:Nat)<=(7:Nat)):(↑(a+(1:Nat)):Int).toNat=a+(1:Nat):=rfl
theorem Ts{a:Int}:a*(2:Int)=(2:Int)*a:=by exact Int.mul_comm a 2
theorem Ux:a+1+b=a+(b+1):=by exact xn a b
theorem UT:∀{a:Nat} {b:Int},(a:Int)=b->b.toNat=a:=by
 intros
 first|exact cK (by decide) _|exact dD (by decide) _|exact Nat.le_of_add_right_le (by assumption)|exact Nat.le_of_add_left_le (by assumption)|(apply bT<;>assumption)|(apply dw<;>assumption)|exact xt (by assumption)|exact Nat.succ_le_of_lt (by assumption)|exact Nat.lt_of_succ_le (by assumption)|exact fF (by assumption)|exact Nat.le_of_succ_le_succ (by assumption)|exact i8 (by assumption)|(subst_vars;first|rfl|exact qq|exact qq _ _|exact Nat.add_sub_cancel _ _|exact bB _ _|exact ib _ _)
theorem UZ{a:Nat}:((4:Int) - (a:Int)) % (4:Int)=(↑(((4:Nat) - a % (4:Nat)) % (4:Nat)):Int):=(bF (· % (4:Int)) (Int.add_comm 4 (-(a:Int)))).trans ((Int.add_emod_right (a:=-(a:Int)) (b:=4)).trans (n4 a))
theorem ar173:a % 2=0∨a % 2=1:=by exact Nat.mod_two_eq_zero_or_one a
theorem Tn(h:a=8*(b+1)):a - 8=8*b:=by exact Nat.sub_eq_of_eq_add h
theorem Tt(h:a % 8=0)(k:b<(a+7) / 8):min 8 (a - 8*b)=8:=gS (E1 (w8 h k))
theorem Uy(h:a % 8=0):(a+7) / 8=a / 8:=LK h
theorem T7(h:(a+7) / 8=a / 8):a=8*(a / 8):=uC (xt (Nat.lt_of_add_lt_add_right (n:=7) (jV ((Nat.div_lt_iff_lt_mul (lb rfl)).mp (dw (aK h) (lN _))) (uP _ 8)))) (Nat.mul_div_le a 8)
theorem Uq:(4 - a % 4+a) % 4=0:=(Nat.add_mod_mod _ a 4).symm.trans ((aI rfl:∀r,r<4->(4 - r+r) % 4=0) _ (m4 a))
theorem Ut(h:a % 8=4):(a+1+1+1+1) % 8=0:=(Nat.mod_add_mod a 8 4).symm.trans (bF (λr=>(r+4) % 8) h)
theorem UA(h:a % 4=0)(k:¬a % 8=4):(a+1+1+1+1+1+1+1+1) % 8=0:=(Nat.add_mod_right a 8).trans (z8 h k)
theorem Tu(h:a=(4 - b % 4) % 4+b):(a+1+1+1+1+7) / 8<=b / 8+2/\1<=(a+1+1+1+1+7) / 8:=LH 11 (aI rfl) h
theorem TX(h:a=(4 - b % 4) % 4+b):(a+1+1+1+1+1+1+1+1+7) / 8<=b / 8+2/\1<=(a+1+1+1+1+1+1+1+1+7) / 8:=LH 15 (aI rfl) h
theorem Tz(h:a=b+c)(k:a=d+u)(l:d=b+f):c=f+u:=r8 (n:=b) (h.symm.trans (k.trans ((bF (·+u) l).trans (kO b f u))))
theorem Ue(h:a=b+1+c)(k:a=0):False:=Nat.succ_ne_zero _ ((fq b 1 c).symm.trans (h.symm.trans k))
theorem UL(h:a=b+c):d+(b+c)=d+b+c:=by exact aq (kO d b c)
theorem Tx:2<=16777216:=by
 intros
 first|exact ae (by assumption) (by decide)|exact bT (by assumption) (by decide)|exact ae (by assumption) (ae (by assumption) (by decide))|(subst_vars;exact ae (by assumption) (by decide))|exact dw (bB _ _) (by assumption)|exact dS (by assumption)|assumption|(subst_vars;assumption)|exact bB _ _|exact ib _ _|(apply ae<;>assumption)|decide
theorem UX(h:a=b+5∨a=b+4∨a=b+2∨a=b+3∨a=b∨a=b+1):b<=a:=by rcases h with e|e|e|e|e|e<;>first|exact aK e.symm|exact ae (bB b _) (aK e.symm)
theorem S7(h:a=b):c+1+d=c+(d+1):=by exact xn c d
theorem T5(h:a=1∨a=0):a<=1:=by exact Nat.le_one_iff_eq_zero_or_eq_one.mpr (id (Or.symm h))
theorem TH:32<=16777216:=by
 intros
 first|exact ae (by assumption) (by decide)|exact bT (by assumption) (by decide)|exact ae (by assumption) (ae (by assumption) (by decide))|(subst_vars;exact ae (by assumption) (by decide))|exact dw (bB _ _) (by assumption)|exact dS (by assumption)|assumption|(subst_vars;assumption)|exact bB _ _|exact ib _ _|(apply ae<;>assumption)|decide
theorem Up(h:a<65536)(k:b<65536)(l:b % 256=a % 256)(m:b / 256 % 256=a / 256 % 256):a=b:=(Nat.div_add_mod a 256).symm.trans ((congr (bF (λa b=>256*a+b) ((AY (Nat.div_lt_of_lt_mul k)).symm.trans (m.trans (AY (Nat.div_lt_of_lt_mul h)))).symm) l.symm).trans (Nat.div_add_mod b 256))
theorem UG(h:a<60000):a<=a:=by exact bC a
theorem UP(h:a<b):1<=b - a:=by exact E1 h
theorem S5(h:a<=64)(k:b=32)(l:c<=a / 8+2/\1<=c):c+b<=4096:=ae (gC (d8 l.1 h) (aK k)) (lb rfl)
theorem SW:19+1<=20+2*0:=by
 intros
 first|exact ae (by assumption) (by decide)|exact bT (by assumption) (by decide)|exact ae (by assumption) (ae (by assumption) (by decide))|(subst_vars;exact ae (by assumption) (by decide))|exact dw (bB _ _) (by assumption)|exact dS (by assumption)|assumption|(subst_vars;assumption)|exact bB _ _|exact ib _ _|(apply ae<;>assumption)|decide
theorem UY(h:a=b+c)(k:1<=b):d+6+6*(c+1)<=d+6*(a+1):=ae (aK (fq d 6 _)) (cK (ia 6 (fF (ae (cK k c) (aK ((eD c b).trans h.symm))))) d)
theorem Us:a<=a+6:=bB _ _
theorem T6(h:a=b+c)(k:a<=64)(l:c=d+u):d<=1024:=ae (bB d u) (ae (aK l.symm) (ae (ib c b) (ae (aK h.symm) (ae k (lb rfl)))))
theorem UQ(h:a=b+c)(k:a<=64)(l:c=d+u):b+d<=16777216:=ae (cK (ae (bB d u) (aK l.symm)) b) (ae (aK h.symm) (ae k (lb rfl)))
theorem UO(h:a=b+c)(k:a<=64)(l:c=d+u):b+d<=1024:=ae (cK (ae (bB d u) (aK l.symm)) b) (ae (aK h.symm) (ae k (lb rfl)))
theorem Tb(h:a=b+c)(k:a<=64)(l:c=d+u):b+d<=64:=ae (cK (ae (bB d u) (aK l.symm)) b) (ae (aK h.symm) k)
theorem TR(h:a<b):b=a+1+(b - (a+1)):=by exact aq (Nat.add_sub_of_le h)
theorem U3(h:a<b):a+1+(b - (a+1))=b:=by exact Nat.add_sub_of_le h
theorem Ct(h:a=b+c)(k:a<=64):b<=1024:=ae (bB b c) (ae (aK h.symm) (ae k (lb rfl)))
theorem UI:21+a=20+a+1:=by exact xn 20 a
theorem UE:22+a=21+a+1:=by exact xn 21 a
theorem Uj:((4 - a % 4) % 4+a) % 4=0/\(4 - a % 4) % 4+a<=a+3:=⟨Yd a,zN a⟩
theorem TS(h:a % 4=0/\a<=b+3)(k:a % 8=4):(0+1+1+2+a) % 8=0/\0+1+1+2+a<=b+11:=⟨(Nat.add_mod_mod 4 a 8).symm.trans (bF (λr=>(4+r) % 8) k),ae (aK (eD 4 a)) (ae (dD h.2 4) (cK (lb rfl:7<=11) b))⟩
theorem Tg(h:a % 4=0/\a<=b+3)(k:a % 8≠4):(0+1+1+1+1+1+1+2+a) % 8=0/\0+1+1+1+1+1+1+2+a<=b+11:=⟨(Nat.add_mod_left 8 a).trans (z8 h.1 k),ae (aK (eD 8 a)) (dD h.2 8)⟩
theorem Te{a:Nat}:-(a:Int) % (4:Int)=(↑(((4:Nat) - a % (4:Nat)) % (4:Nat)):Int):=n4 a
theorem Tq{a:Nat}:(a:Int) / (2:Int) % (2:Int)=(↑(a % (4:Nat) / (2:Nat) % (2:Nat)):Int):=bF Int.ofNat ((bF (· % 2) (Nat.mod_mul_right_div_self a 2 2)).trans (Nat.mod_mod _ 2)).symm
theorem UM{a:Nat}:(a:Int) % (2:Int)=(↑(a % (4:Nat) % (2:Nat)):Int):=bF Int.ofNat (Nat.mod_mod_of_dvd a (Nat.dvd_mul_right 2 2)).symm
theorem U2{a:Nat}:(↑(((4:Nat) - a % (4:Nat)) % (4:Nat)):Int).toNat<=(65536:Nat):=ae (dS (m4 _)) (lb rfl:4<=65536)
theorem Tc{a:Nat}:(0:Int)<=(↑(((4:Nat) - a % (4:Nat)) % (4:Nat)):Int):=by exact qv ((4 - a % 4) % 4)
theorem Uk{a b:Nat}(h:a<=(64:Nat))(k:b=a):(↑(((4:Nat) - a % (4:Nat)) % (4:Nat)):Int).toNat+b<=(65536:Nat):=ae (gC (dS (m4 _)) (ae (aK k) h)) (lb rfl:4+64<=65536)
theorem S6(h:a<=64):(4 - a % 4) % 4+a<=67:=ae (zN a) (dD h 3)
theorem TC(h:a=b)(k:b<=67):a<=65536:=ae (aK h) (ae k (lb rfl))
theorem UC{a:Nat}:(a:Int) % (8:Int)=(4:Int)↔a % (8:Nat)=(4:Nat):=Bj (m:=a % 8) (n:=4)
theorem Ve(h:a<=67):4+a<=65536:=ae (cK h _) (lb rfl)
theorem U5(h:a<=67):8+a<=65536:=ae (cK h _) (lb rfl)
theorem Um(h:a<=64)(k:b % 8=0/\b<=a+11):b<=80:=ae k.2 (ae (dD h 11) (lb rfl))
theorem Tf(h:a=b)(k:b<=80):a<=65536:=ae (aK h) (ae k (lb rfl))
theorem TN(h:a<=80):a<=4096:=ae h (lb rfl)
theorem UU(h:a % 8=0/\a<=b+11)(k:c<(a+7) / 8):8*c+8<=a:=w8 h.1 k
theorem TK(h:8*a+8<=b):min 8 (b - 8*a)=8:=gS (E1 h)
theorem U1:1+a=a+1:=by exact eD 1 a
theorem UR:5+a+1<=6+a:=aK (fq 5 a 1)
theorem Ti(h:a<=b):b=a+(b - a):=by exact aq (Nat.add_sub_of_le h)
theorem TG(h:a=b+c):min b a=b:=gS (ae (bB b c) (aK h.symm))
theorem UJ:a+b+1=b+1+a:=by exact aq (eD (b+1) a)
theorem Tj{a:Nat}(h:(0:Nat)<a):(a:Int)>(0:Int):=by exact Int.natCast_pos.mpr h
theorem T9(h:a+b<=64)(k:c=a):c<=64:=ae (aK k) (ae (bB a b) h)
theorem TQ(h:a+b<=64)(k:c=a)(l:d<=c / 8+2/\1<=d):1+d<=16777216:=ae (cK (d8 l.1 (ae (aK k) (ae (bB a b) h))) 1) (lb rfl)
theorem UN(h:0<a):b<a+b:=by exact Nat.lt_add_of_pos_left h
theorem TA(h:a+b<=64):b<=64:=ae (ib b a) h
theorem Uu(h:a<=64)(k:b=a):b<=64:=by exact le_of_eq_of_le k h
theorem Va(h:a=b+c)(k:1<=c):d+1+b<=d+a:=ae (aK (fq d 1 b)) (cK (ae (cK k b) (aK h.symm)) d)
theorem Uv(h:a=a+b):b=0:=by exact Nat.left_eq_add.mp h
theorem Ud(h:a<b):0<b - a:=by exact Nat.zero_lt_sub_of_lt h
theorem UH(h:¬a=0)(k:b=c+a):c<b:=bT (Nat.lt_add_of_pos_right (Nat.pos_of_ne_zero h)) (aK k.symm)
theorem Vc(h:a=b+c)(k:¬c=0):b<a:=bT (Nat.lt_add_of_pos_right (Nat.pos_of_ne_zero k)) (aK h.symm)
theorem U6(h:a+b<=64)(k:c=a)(l:d<=c / 8+2/\1<=d)(m:u=32):d+1+u<=16777216:=ae (gC (dD (d8 l.1 (ae (aK k) (ae (bB a b) h))) 1) (aK m)) (lb rfl)
theorem TU(h:0<a)(k:a+b=0):False:=de 0 (bT h (ae (bB a b) (aK k)))
theorem Ug(h:0<a):1<=a:=h
theorem Un(h:¬0<a):a=0:=by exact Nat.eq_zero_of_not_pos h
theorem TM:¬(↑(0:Nat):Int)>(0:Int):=by
 intros
 first|exact ae (by assumption) (by decide)|exact bT (by assumption) (by decide)|exact ae (by assumption) (ae (by assumption) (by decide))|(subst_vars;exact ae (by assumption) (by decide))|exact dw (bB _ _) (by assumption)|exact dS (by assumption)|assumption|(subst_vars;assumption)|exact bB _ _|exact ib _ _|(apply ae<;>assumption)|decide
theorem Uc(h:a<=16):1+a<=16777216:=ae (cK h 1) (lb rfl)
theorem Tp(h:¬a=0):a=1+(a - 1):=(AK (Nat.one_le_iff_ne_zero.mpr h)).symm
theorem TJ:0<1+a:=jV (uQ a) (eD a 1)
theorem S8:1+a+1=a+1+1:=by exact aq (eD (a+1) 1)
theorem Ua:a+b+(c+d)=a+c+(b+d):=by exact AF a b c d
theorem TL(h:a<=64)(k:b+c=a):b<=64:=ae (bB b c) (ae (aK k) h)
theorem To(h:1<=a)(k:b=c+d+a):u+1+d+c<=u+b:=ae (aK ((kO (u+1) d c).trans ((fq u 1 (d+c)).trans (bF (λz=>u+z+1) (eD d c))))) (ae (cK h (u+(c+d))) (aK ((kO u (c+d) a).trans (bF (u+·) k.symm))))
theorem U8(h:a<=64)(k:b+c=a):c<=64:=ae (ib c b) (ae (aK k) h)
theorem Ta(h:a<=8)(k:b=a):b<=8:=by exact le_of_eq_of_le k h
theorem H6{a:Nat}(h:a<(8:Nat)):(7:Int) - ((0:Int)+(a:Int)*(1:Int))=(↑((7:Nat) - a):Int):=(aI rfl:∀x:Nat,x<8->(7:Int) - ((0:Int)+(↑x:Int)*(1:Int))=(↑((7:Nat) - x):Int)) a h
theorem TF:7 - a<8:=by exact Nat.sub_lt_succ 7 a
theorem S0:7 - a<=7:=by exact Nat.sub_le 7 a
theorem Cr{a:Nat}:((0:Int)+(a:Int)*(1:Int)).toNat=a:=(bF Int.toNat (oW ((a:Int)*1))).trans (Nat.mul_one a)
theorem TB(h:a=b+c)(k:0<b)(l:d+u<=f)(m:g=f+(a+1))(n:i<=u+1)(o:j<=d+1):i+j<=g:=ae (gC n o) (ae (ae (aK ((AF u 1 d 1).trans (bF (·+2) (eD u d)))) (gC l (fF (ae (ae k (bB b c)) (aK h.symm))))) (aK m.symm))
theorem Ur:0+1<=a+1:=fF (mI a)
theorem TV(h:a<=b)(k:c<=d+u+1):c+(a+1)<=b+f+(d+u)+(g+2):=ae (gC k (fF h)) (ae (aK ((AF (d+u) 1 b 1).trans (bF (·+2) (eD (d+u) b)))) (gC (dD (bB b f) (d+u)) (ib 2 g)))
theorem U0(h:a<=b)(k:c<=d+u+1):c+(a+1)<=f+b+(d+u)+(g+2):=ae (gC k (fF h)) (ae (aK ((AF (d+u) 1 b 1).trans (bF (·+2) (eD (d+u) b)))) (gC (dD (ib b f) (d+u)) (ib 2 g)))
theorem TZ{a:Nat}(h:(0:Nat)<a):(a:Int)≠(0:Int):=by exact Int.natCast_ne_zero_iff_pos.mpr h
theorem SX(h:a+49800<=50000):a<=200:=by exact Nat.add_le_add_iff_right.mp h
end
noncomputable abbrev P0:Program:=PySem.Challenge.pw_bc0033_01
theorem Dx{α:Type}{p:List α->Prop}:∀{l:List α},l.length=0->p []->p l
 |[],_,k=>k
theorem ml{α:Type}{p:List α->Prop}{l:List α}(e:l.length=1)(k:∀a,p [a]):p l:=by
 cases l with
 |nil=>cases e
 |cons a l=>exact Dx (p:=λl=>p (a::l)) (i8 e) (k a)
theorem gG{α:Type}{p:List α->Prop}{l:List α}(e:l.length=2)(k:∀a b,p [a,b]):p l:=by
 cases l with
 |nil=>cases e
 |cons a l=>exact ml (p:=λl=>p (a::l)) (i8 e) (k a)
theorem ko{α:Type}{p:List α->Prop}{l:List α}(e:l.length=3)(k:∀a b c,p [a,b,c]):p l:=by
 cases l with
 |nil=>cases e
 |cons a l=>exact gG (p:=λl=>p (a::l)) (i8 e) (k a)
theorem Dw{α:Type}{p:List α->Prop}{l:List α}(e:l.length=4)(k:∀a b c d,p [a,b,c,d]):p l:=by
 cases l with
 |nil=>cases e
 |cons a l=>exact ko (p:=λl=>p (a::l)) (i8 e) (k a)
theorem JM{α:Type}{p:List α->Prop}{l:List α}(e:l.length=5)(k:∀a b c d e,p [a,b,c,d,e]):p l:=by
 cases l with
 |nil=>cases e
 |cons a l=>exact Dw (p:=λl=>p (a::l)) (i8 e) (k a)
theorem Wq{α:Type}{p:List α->Prop}{l:List α}(e:l.length=6)(k:∀a b c d e f,p [a,b,c,d,e,f]):p l:=by
 cases l with
 |nil=>cases e
 |cons a l=>exact JM (p:=λl=>p (a::l)) (i8 e) (k a)
theorem JN{α:Type}{p:List α->Prop}{l:List α}(e:l.length=7)(k:∀a b c d e f g,p [a,b,c,d,e,f,g]):p l:=by
 cases l with
 |nil=>cases e
 |cons a l=>exact Wq (p:=λl=>p (a::l)) (i8 e) (k a)
theorem Dv{α:Type}{p:List α->Prop}{l:List α}(e:l.length=8)(k:∀a b c d e f g h,p [a,b,c,d,e,f,g,h]):p l:=by
 cases l with
 |nil=>cases e
 |cons a l=>exact JN (p:=λl=>p (a::l)) (i8 e) (k a)
theorem iH{α β:Type}{f:α->β}{a:α}{Q:α->Prop}(h:Q a):∃x,f a=f x/\Q x:=⟨a,rfl,h⟩
theorem dR{c:Bool}{x y:Prop}(h:c=true)(p:x):if c then x else y:=by exact aaE (aA h)<|p
theorem bQ{c:Bool}{x y:Prop}(h:c=false)(p:y):if c then x else y:=by exact aaE h<|p
def Nt(P:Prop):Prop:=P->False
theorem az(h:Nt P->False):P:=xm h
noncomputable abbrev View:=Addr->Option Obj
noncomputable abbrev VP:=Value->Shared->Prop
theorem i2{α β:Sort _}{p:α->β->Prop}:∀a b,p a b->p a b:=λy y x=>x
theorem cA(a:p)(b:q)(c:P):p/\q/\P:=⟨a,b,c⟩
theorem k7(a:p)(b:q)(c:P)(d:Q):p/\q/\P/\Q:=⟨a,b,c,d⟩
theorem l7(a:p)(b:q)(c:P)(d:Q)(e:R):p/\q/\P/\Q/\R:=⟨a,b,c,d,e⟩
theorem QJ(a:p)(b:q)(c:P)(d:Q)(e:R)(f:S):p/\q/\P/\Q/\R/\S:=⟨a,b,c,d,e,f⟩
theorem GI{α:Type}{p q P Q:Prop}{R S:α->Prop}(a:p)(b:q)(c:P)(d:Q)(x:α)(e:R x)(f:S x):p/\q/\P/\Q/\∃x,R x/\S x:=⟨a,b,c,d,x,e,f⟩
theorem mT{α:Type}{p q P:Prop}{Q:α->Prop}(a:p)(b:q)(c:P)(x:α)(d:Q x):p/\q/\P/\∃x,Q x:=⟨a,b,c,x,d⟩
theorem nZ{α:Type}{p q P:Prop}{Q R:α->Prop}(a:p)(b:q)(c:P)(x:α)(d:Q x)(e:R x):p/\q/\P/\∃x,Q x/\R x:=⟨a,b,c,x,d,e⟩
theorem pn{α:Type}{p q:Prop}{P Q:α->Prop}(a:p)(b:q)(x:α)(c:P x)(d:Q x):p/\q/\∃x,P x/\Q x:=⟨a,b,x,c,d⟩
theorem BK{α:Type}{p q:Prop}{P Q R S:α->Prop}(a:p)(b:q)(x:α)(c:P x)(d:Q x)(e:R x)(f:S x):p/\q/\∃x,P x/\Q x/\R x/\S x:=⟨a,b,x,c,d,e,f⟩
theorem FF{α:Type}{p q:Prop}{P Q R S T U V:α->Prop}(a:p)(b:q)(x:α)(c:P x)(d:Q x)(e:R x)(f:S x)(g:T x)(h:U x)(i:V x):p/\q/\∃x,P x/\Q x/\R x/\S x/\T x/\U x/\V x:=⟨a,b,x,c,d,e,f,g,h,i⟩
theorem BX{α β:Type}{p q:Prop}{P Q:α->β->Prop}(a:p)(b:q)(x:α)(y:β)(c:P x y)(d:Q x y):p/\q/\∃x,∃y,P x y/\Q x y:=⟨a,b,x,y,c,d⟩
theorem q9{α:Type}{p:Prop}{q:α->Prop}(a:p)(x:α)(b:q x):p/\∃x,q x:=⟨a,x,b⟩
theorem dP{α:Type}{p:Prop}{q P:α->Prop}(a:p)(x:α)(b:q x)(c:P x):p/\∃x,q x/\P x:=⟨a,x,b,c⟩
theorem vL{α:Type}{p:Prop}{q P Q:α->Prop}(a:p)(x:α)(b:q x)(c:P x)(d:Q x):p/\∃x,q x/\P x/\Q x:=⟨a,x,b,c,d⟩
theorem vy{α:Type}{p:Prop}{q P Q R:α->Prop}(a:p)(x:α)(b:q x)(c:P x)(d:Q x)(e:R x):p/\∃x,q x/\P x/\Q x/\R x:=⟨a,x,b,c,d,e⟩
theorem xM{α β γ:Type}{p:Prop}{q P Q R S T U:α->β->γ->Prop}(a:p)(x:α)(y:β)(z:γ)(b:q x y z)(c:P x y z)(d:Q x y z)(e:R x y z)(f:S x y z)(g:T x y z)(h:U x y z):p/\∃x,∃y,∃z,q x y z/\P x y z/\Q x y z/\R x y z/\S x y z/\T x y z/\U x y z:=⟨a,x,y,z,b,c,d,e,f,g,h⟩
theorem GJ{α β γ δ:Type}{p:Prop}{q P:α->β->γ->δ->Prop}(a:p)(x:α)(y:β)(z:γ)(w:δ)(b:q x y z w)(c:P x y z w):p/\∃x,∃y,∃z,∃w,q x y z w/\P x y z w:=⟨a,x,y,z,w,b,c⟩
theorem aE{α:Type}{p q:α->Prop}(x:α)(a:p x)(b:q x):∃x,p x/\q x:=⟨x,a,b⟩
theorem dh{α:Type}{p q P:α->Prop}(x:α)(a:p x)(b:q x)(c:P x):∃x,p x/\q x/\P x:=⟨x,a,b,c⟩
theorem jG{α:Type}{p q P Q:α->Prop}(x:α)(a:p x)(b:q x)(c:P x)(d:Q x):∃x,p x/\q x/\P x/\Q x:=⟨x,a,b,c,d⟩
theorem vx{α:Type}{p q P Q R:α->Prop}(x:α)(a:p x)(b:q x)(c:P x)(d:Q x)(e:R x):∃x,p x/\q x/\P x/\Q x/\R x:=⟨x,a,b,c,d,e⟩
theorem vm{α:Type}{p q P Q R S:α->Prop}(x:α)(a:p x)(b:q x)(c:P x)(d:Q x)(e:R x)(f:S x):∃x,p x/\q x/\P x/\Q x/\R x/\S x:=⟨x,a,b,c,d,e,f⟩
theorem kY{α β:Type}{p q:α->Prop}{P:α->β->Prop}(x:α)(a:p x)(b:q x)(y:β)(c:P x y):∃x,p x/\q x/\∃y,P x y:=⟨x,a,b,y,c⟩
theorem Vf{α β:Type}{p:α->Prop}{q:α->β->Prop}(x:α)(a:p x)(y:β)(b:q x y):∃x,p x/\∃y,q x y:=⟨x,a,y,b⟩
theorem Rz{α β:Type}{p:α->Prop}{q P:α->β->Prop}(x:α)(a:p x)(y:β)(b:q x y)(c:P x y):∃x,p x/\∃y,q x y/\P x y:=⟨x,a,y,b,c⟩
theorem GK{α β γ:Type}{p:α->Prop}{q P Q:α->β->γ->Prop}(x:α)(a:p x)(y:β)(z:γ)(b:q x y z)(c:P x y z)(d:Q x y z):∃x,p x/\∃y,∃z,q x y z/\P x y z/\Q x y z:=⟨x,a,y,z,b,c,d⟩
theorem cX{α β:Type}{p:α->β->Prop}(x:α)(y:β)(a:p x y):∃x,∃y,p x y:=⟨x,y,a⟩
theorem ey{α β:Type}{p q:α->β->Prop}(x:α)(y:β)(a:p x y)(b:q x y):∃x,∃y,p x y/\q x y:=⟨x,y,a,b⟩
theorem cy{α β:Type}{p q P:α->β->Prop}(x:α)(y:β)(a:p x y)(b:q x y)(c:P x y):∃x,∃y,p x y/\q x y/\P x y:=⟨x,y,a,b,c⟩
theorem lX{α β:Type}{p q P Q:α->β->Prop}(x:α)(y:β)(a:p x y)(b:q x y)(c:P x y)(d:Q x y):∃x,∃y,p x y/\q x y/\P x y/\Q x y:=⟨x,y,a,b,c,d⟩
theorem qP{α β:Type}{p q P Q R:α->β->Prop}(x:α)(y:β)(a:p x y)(b:q x y)(c:P x y)(d:Q x y)(e:R x y):∃x,∃y,p x y/\q x y/\P x y/\Q x y/\R x y:=⟨x,y,a,b,c,d,e⟩
theorem Io{α β γ:Type}{p:α->β->γ->Prop}(x:α)(y:β)(z:γ)(a:p x y z):∃x,∃y,∃z,p x y z:=⟨x,y,z,a⟩
theorem pg{α β γ:Type}{p q P:α->β->γ->Prop}(x:α)(y:β)(z:γ)(a:p x y z)(b:q x y z)(c:P x y z):∃x,∃y,∃z,p x y z/\q x y z/\P x y z:=⟨x,y,z,a,b,c⟩
theorem gZ{α β γ:Type}{p q P Q:α->β->γ->Prop}(x:α)(y:β)(z:γ)(a:p x y z)(b:q x y z)(c:P x y z)(d:Q x y z):∃x,∃y,∃z,p x y z/\q x y z/\P x y z/\Q x y z:=⟨x,y,z,a,b,c,d⟩
theorem o9{α β γ:Type}{p q P Q R:α->β->γ->Prop}(x:α)(y:β)(z:γ)(a:p x y z)(b:q x y z)(c:P x y z)(d:Q x y z)(e:R x y z):∃x,∃y,∃z,p x y z/\q x y z/\P x y z/\Q x y z/\R x y z:=⟨x,y,z,a,b,c,d,e⟩
theorem Oj{α β γ:Type}{p q P Q R S:α->β->γ->Prop}(x:α)(y:β)(z:γ)(a:p x y z)(b:q x y z)(c:P x y z)(d:Q x y z)(e:R x y z)(f:S x y z):∃x,∃y,∃z,p x y z/\q x y z/\P x y z/\Q x y z/\R x y z/\S x y z:=⟨x,y,z,a,b,c,d,e,f⟩
theorem sU{α β γ δ:Type}{p q:α->β->γ->δ->Prop}(x:α)(y:β)(z:γ)(w:δ)(a:p x y z w)(b:q x y z w):∃x,∃y,∃z,∃w,p x y z w/\q x y z w:=⟨x,y,z,w,a,b⟩
theorem vn{α β γ δ:Type}{p q P:α->β->γ->δ->Prop}(x:α)(y:β)(z:γ)(w:δ)(a:p x y z w)(b:q x y z w)(c:P x y z w):∃x,∃y,∃z,∃w,p x y z w/\q x y z w/\P x y z w:=⟨x,y,z,w,a,b,c⟩
theorem lU{α β γ δ:Type}{p q P Q:α->β->γ->δ->Prop}(x:α)(y:β)(z:γ)(w:δ)(a:p x y z w)(b:q x y z w)(c:P x y z w)(d:Q x y z w):∃x,∃y,∃z,∃w,p x y z w/\q x y z w/\P x y z w/\Q x y z w:=⟨x,y,z,w,a,b,c,d⟩
theorem NS{α β γ δ ε:Type}{p q P Q R:α->β->γ->δ->ε->Prop}(x:α)(y:β)(z:γ)(w:δ)(v:ε)(a:p x y z w v)(b:q x y z w v)(c:P x y z w v)(d:Q x y z w v)(e:R x y z w v):∃x,∃y,∃z,∃w,∃v,p x y z w v/\q x y z w v/\P x y z w v/\Q x y z w v/\R x y z w v:=⟨x,y,z,w,v,a,b,c,d,e⟩
theorem ei{p q P:Prop}{G:Prop}(X:p/\q/\P)(Y:p->q->P->G):G:=by
 obtain⟨a,b,c⟩:=X;exact Y a b c
theorem s9{p q P Q:Prop}{G:Prop}(X:p/\q/\P/\Q)(Y:p->q->P->Q->G):G:=by
 obtain⟨a,b,c,d⟩:=X;exact Y a b c d
theorem pk{p q P Q R:Prop}{G:Prop}(X:p/\q/\P/\Q/\R)(Y:p->q->P->Q->R->G):G:=by
 obtain⟨a,b,c,d,e⟩:=X;exact Y a b c d e
theorem iE{α:Type}{p q P:Prop}{Q:α->Prop}{G:Prop}(X:p/\q/\P/\∃x,Q x)(Y:p->q->P->∀x,Q x->G):G:=by
 obtain⟨a,b,c,x,d⟩:=X;exact Y a b c x d
theorem eE{α:Type}{p q P:Prop}{Q R:α->Prop}{G:Prop}(X:p/\q/\P/\∃x,Q x/\R x)(Y:p->q->P->∀x,Q x->R x->G):G:=by
 obtain⟨a,b,c,x,d,e⟩:=X;exact Y a b c x d e
theorem jF{α:Type}{p q:Prop}{P Q:α->Prop}{G:Prop}(X:p/\q/\∃x,P x/\Q x)(Y:p->q->∀x,P x->Q x->G):G:=by
 obtain⟨a,b,x,c,d⟩:=X;exact Y a b x c d
theorem uT{α:Type}{p q:Prop}{P Q R S T U V:α->Prop}{G:Prop}(X:p/\q/\∃x,P x/\Q x/\R x/\S x/\T x/\U x/\V x)(Y:p->q->∀x,P x->Q x->R x->S x->T x->U x->V x->G):G:=by
 obtain⟨a,b,x,c,d,e,f,g,h,i⟩:=X;exact Y a b x c d e f g h i
theorem rg{α:Type}{p:Prop}{q:α->Prop}{G:Prop}(X:p/\∃x,q x)(Y:p->∀x,q x->G):G:=by
 obtain⟨a,x,b⟩:=X;exact Y a x b
theorem fJ{α:Type}{p:Prop}{q P:α->Prop}{G:Prop}(X:p/\∃x,q x/\P x)(Y:p->∀x,q x->P x->G):G:=by
 obtain⟨a,x,b,c⟩:=X;exact Y a x b c
theorem su{α β γ δ:Type}{p:Prop}{q P Q R:α->β->γ->δ->Prop}{G:Prop}(X:p/\∃x,∃y,∃z,∃w,q x y z w/\P x y z w/\Q x y z w/\R x y z w)(Y:p->∀x,∀y,∀z,∀w,q x y z w->P x y z w->Q x y z w->R x y z w->G):G:=by
 obtain⟨a,x,y,z,w,b,c,d,e⟩:=X;exact Y a x y z w b c d e
theorem ax{α:Type}{p q:α->Prop}{G:Prop}(X:∃x,p x/\q x)(Y:∀x,p x->q x->G):G:=by
 obtain⟨x,a,b⟩:=X;exact Y x a b
theorem dp{α:Type}{p q P:α->Prop}{G:Prop}(X:∃x,p x/\q x/\P x)(Y:∀x,p x->q x->P x->G):G:=by
 obtain⟨x,a,b,c⟩:=X;exact Y x a b c
theorem kX{α:Type}{p q P Q:α->Prop}{G:Prop}(X:∃x,p x/\q x/\P x/\Q x)(Y:∀x,p x->q x->P x->Q x->G):G:=by
 obtain⟨x,a,b,c,d⟩:=X;exact Y x a b c d
theorem sO{α:Type}{p q P Q R S:α->Prop}{G:Prop}(X:∃x,p x/\q x/\P x/\Q x/\R x/\S x)(Y:∀x,p x->q x->P x->Q x->R x->S x->G):G:=by
 obtain⟨x,a,b,c,d,e,f⟩:=X;exact Y x a b c d e f
theorem yI{α β:Type}{p q:α->Prop}{P:α->β->Prop}{G:Prop}(X:∃x,p x/\q x/\∃y,P x y)(Y:∀x,p x->q x->∀y,P x y->G):G:=by
 obtain⟨x,a,b,y,c⟩:=X;exact Y x a b y c
theorem bk{α β:Type}{p:α->β->Prop}{G:Prop}(X:∃x,∃y,p x y)(Y:∀x,∀y,p x y->G):G:=by
 obtain⟨x,y,a⟩:=X;exact Y x y a
theorem iF{α β:Type}{p q:α->β->Prop}{G:Prop}(X:∃x,∃y,p x y/\q x y)(Y:∀x,∀y,p x y->q x y->G):G:=by
 obtain⟨x,y,a,b⟩:=X;exact Y x y a b
theorem cP{α β:Type}{p q P:α->β->Prop}{G:Prop}(X:∃x,∃y,p x y/\q x y/\P x y)(Y:∀x,∀y,p x y->q x y->P x y->G):G:=by
 obtain⟨x,y,a,b,c⟩:=X;exact Y x y a b c
theorem j8{α β:Type}{p q P Q:α->β->Prop}{G:Prop}(X:∃x,∃y,p x y/\q x y/\P x y/\Q x y)(Y:∀x,∀y,p x y->q x y->P x y->Q x y->G):G:=by
 obtain⟨x,y,a,b,c,d⟩:=X;exact Y x y a b c d
theorem pf{α β:Type}{p q P Q R:α->β->Prop}{G:Prop}(X:∃x,∃y,p x y/\q x y/\P x y/\Q x y/\R x y)(Y:∀x,∀y,p x y->q x y->P x y->Q x y->R x y->G):G:=by
 obtain⟨x,y,a,b,c,d,e⟩:=X;exact Y x y a b c d e
theorem Il{α β γ:Type}{p:α->β->γ->Prop}{G:Prop}(X:∃x,∃y,∃z,p x y z)(Y:∀x,∀y,∀z,p x y z->G):G:=by
 obtain⟨x,y,z,a⟩:=X;exact Y x y z a
theorem mU{α β γ:Type}{p q:α->β->γ->Prop}{G:Prop}(X:∃x,∃y,∃z,p x y z/\q x y z)(Y:∀x,∀y,∀z,p x y z->q x y z->G):G:=by
 obtain⟨x,y,z,a,b⟩:=X;exact Y x y z a b
theorem jc{α β γ:Type}{p q P:α->β->γ->Prop}{G:Prop}(X:∃x,∃y,∃z,p x y z/\q x y z/\P x y z)(Y:∀x,∀y,∀z,p x y z->q x y z->P x y z->G):G:=by
 obtain⟨x,y,z,a,b,c⟩:=X;exact Y x y z a b c
theorem sP{α β γ:Type}{p q P Q:α->β->γ->Prop}{G:Prop}(X:∃x,∃y,∃z,p x y z/\q x y z/\P x y z/\Q x y z)(Y:∀x,∀y,∀z,p x y z->q x y z->P x y z->Q x y z->G):G:=by
 obtain⟨x,y,z,a,b,c,d⟩:=X;exact Y x y z a b c d
theorem mM{α β γ:Type}{p q P Q R:α->β->γ->Prop}{G:Prop}(X:∃x,∃y,∃z,p x y z/\q x y z/\P x y z/\Q x y z/\R x y z)(Y:∀x,∀y,∀z,p x y z->q x y z->P x y z->Q x y z->R x y z->G):G:=by
 obtain⟨x,y,z,a,b,c,d,e⟩:=X;exact Y x y z a b c d e
theorem yB{α β γ δ:Type}{p q:α->β->γ->δ->Prop}{G:Prop}(X:∃x,∃y,∃z,∃w,p x y z w/\q x y z w)(Y:∀x,∀y,∀z,∀w,p x y z w->q x y z w->G):G:=by
 obtain⟨x,y,z,w,a,b⟩:=X;exact Y x y z w a b
theorem lT{α β γ δ:Type}{p q P Q:α->β->γ->δ->Prop}{G:Prop}(X:∃x,∃y,∃z,∃w,p x y z w/\q x y z w/\P x y z w/\Q x y z w)(Y:∀x,∀y,∀z,∀w,p x y z w->q x y z w->P x y z w->Q x y z w->G):G:=by
 obtain⟨x,y,z,w,a,b,c,d⟩:=X;exact Y x y z w a b c d
theorem sr{α β γ δ:Type}{p q P Q R:α->β->γ->δ->Prop}{G:Prop}(X:∃x,∃y,∃z,∃w,p x y z w/\q x y z w/\P x y z w/\Q x y z w/\R x y z w)(Y:∀x,∀y,∀z,∀w,p x y z w->q x y z w->P x y z w->Q x y z w->R x y z w->G):G:=by
 obtain⟨x,y,z,w,a,b,c,d,e⟩:=X;exact Y x y z w a b c d e
theorem aad{α β γ δ:Type}{p q P Q R S T:α->β->γ->δ->Prop}{G:Prop}(X:∃x,∃y,∃z,∃w,p x y z w/\q x y z w/\P x y z w/\Q x y z w/\R x y z w/\S x y z w/\T x y z w)(Y:∀x,∀y,∀z,∀w,p x y z w->q x y z w->P x y z w->Q x y z w->R x y z w->S x y z w->T x y z w->G):G:=by
 obtain⟨x,y,z,w,a,b,c,d,e,f,g⟩:=X;exact Y x y z w a b c d e f g
theorem bY{p q:Prop}{G:Prop}(X:p/\q)(Y:p->q->G):G:=by
 obtain⟨a,b⟩:=X;exact Y a b
theorem Ik{α:Type}{p q:Prop}{P:α->Prop}{G:Prop}(X:p/\q/\∃x,P x)(Y:p->q->∀x,P x->G):G:=by
 obtain⟨a,b,x,c⟩:=X;exact Y a b x c
theorem PX{α:Type}{p q:Prop}{P Q R S:α->Prop}{G:Prop}(X:p/\q/\∃x,P x/\Q x/\R x/\S x)(Y:p->q->∀x,P x->Q x->R x->S x->G):G:=by
 obtain⟨a,b,x,c,d,e,f⟩:=X;exact Y a b x c d e f
theorem Oh{α β:Type}{p q:Prop}{P Q R S T:α->β->Prop}{G:Prop}(X:p/\q/\∃x,∃y,P x y/\Q x y/\R x y/\S x y/\T x y)(Y:p->q->∀x,∀y,P x y->Q x y->R x y->S x y->T x y->G):G:=by
 obtain⟨a,b,x,y,c,d,e,f,g⟩:=X;exact Y a b x y c d e f g
theorem Oi{α β γ δ ε ζ:Type}{p q:Prop}{P:α->β->γ->δ->ε->ζ->Prop}{G:Prop}(X:p/\q/\∃x,∃y,∃z,∃w,∃v,∃u,P x y z w v u)(Y:p->q->∀x,∀y,∀z,∀w,∀v,∀u,P x y z w v u->G):G:=by
 obtain⟨a,b,x,y,z,w,v,u,c⟩:=X;exact Y a b x y z w v u c
theorem NB{α β γ δ ε ζ:Type}{p q:Prop}{P Q R:α->β->γ->δ->ε->ζ->Prop}{G:Prop}(X:p/\q/\∃x,∃y,∃z,∃w,∃v,∃u,P x y z w v u/\Q x y z w v u/\R x y z w v u)(Y:p->q->∀x,∀y,∀z,∀w,∀v,∀u,P x y z w v u->Q x y z w v u->R x y z w v u->G):G:=by
 obtain⟨a,b,x,y,z,w,v,u,c,d,e⟩:=X;exact Y a b x y z w v u c d e
theorem Ry{α:Type}{p:Prop}{q P Q:α->Prop}{G:Prop}(X:p/\∃x,q x/\P x/\Q x)(Y:p->∀x,q x->P x->Q x->G):G:=by
 obtain⟨a,x,b,c,d⟩:=X;exact Y a x b c d
theorem sV{α:Type}{p:Prop}{q P Q R:α->Prop}{G:Prop}(X:p/\∃x,q x/\P x/\Q x/\R x)(Y:p->∀x,q x->P x->Q x->R x->G):G:=by
 obtain⟨a,x,b,c,d,e⟩:=X;exact Y a x b c d e
theorem Hi{α β:Type}{p:Prop}{q P Q:α->β->Prop}{G:Prop}(X:p/\∃x,∃y,q x y/\P x y/\Q x y)(Y:p->∀x,∀y,q x y->P x y->Q x y->G):G:=by
 obtain⟨a,x,y,b,c,d⟩:=X;exact Y a x y b c d
theorem O1{α β:Type}{p:Prop}{q P Q R S:α->β->Prop}{G:Prop}(X:p/\∃x,∃y,q x y/\P x y/\Q x y/\R x y/\S x y)(Y:p->∀x,∀y,q x y->P x y->Q x y->R x y->S x y->G):G:=by
 obtain⟨a,x,y,b,c,d,e,f⟩:=X;exact Y a x y b c d e f
theorem MY{α β γ δ ε:Type}{p:Prop}{q P Q R S T U:α->β->γ->δ->ε->Prop}{G:Prop}(X:p/\∃x,∃y,∃z,∃w,∃v,q x y z w v/\P x y z w v/\Q x y z w v/\R x y z w v/\S x y z w v/\T x y z w v/\U x y z w v)(Y:p->∀x,∀y,∀z,∀w,∀v,q x y z w v->P x y z w v->Q x y z w v->R x y z w v->S x y z w v->T x y z w v->U x y z w v->G):G:=by
 obtain⟨a,x,y,z,w,v,b,c,d,e,f,g,h⟩:=X;exact Y a x y z w v b c d e f g h
theorem FG{α β γ δ ε ζ:Type}{p:Prop}{q P Q:α->β->γ->δ->ε->ζ->Prop}{G:Prop}(X:p/\∃x,∃y,∃z,∃w,∃v,∃u,q x y z w v u/\P x y z w v u/\Q x y z w v u)(Y:p->∀x,∀y,∀z,∀w,∀v,∀u,q x y z w v u->P x y z w v u->Q x y z w v u->G):G:=by
 obtain⟨a,x,y,z,w,v,u,b,c,d⟩:=X;exact Y a x y z w v u b c d
theorem du{α:Type}{p:α->Prop}{G:Prop}(X:∃x,p x)(Y:∀x,p x->G):G:=by
 obtain⟨x,a⟩:=X;exact Y x a
theorem BW{α β:Type}{p q:α->Prop}{P Q:α->β->Prop}{G:Prop}(X:∃x,p x/\q x/\∃y,P x y/\Q x y)(Y:∀x,p x->q x->∀y,P x y->Q x y->G):G:=by
 obtain⟨x,a,b,y,c,d⟩:=X;exact Y x a b y c d
theorem Vg{α β:Type}{p:α->Prop}{q:α->β->Prop}{G:Prop}(X:∃x,p x/\∃y,q x y)(Y:∀x,p x->∀y,q x y->G):G:=by
 obtain⟨x,a,y,b⟩:=X;exact Y x a y b
theorem O0{α β:Type}{p q P Q R S:α->β->Prop}{G:Prop}(X:∃x,∃y,p x y/\q x y/\P x y/\Q x y/\R x y/\S x y)(Y:∀x,∀y,p x y->q x y->P x y->Q x y->R x y->S x y->G):G:=by
 obtain⟨x,y,a,b,c,d,e,f⟩:=X;exact Y x y a b c d e f
theorem q2{α β:Type}{Q:α->β->Prop}{a a':α}{b:β}(e:a=a')(h:Q a' b):Q a b:=e▸h
theorem be{α:Type}{a:α}{P:Prop}(h:none=some a):P:=Option.noConfusion rfl (heq_of_eq h)
theorem bZ{α:Type}{a:α}{P:Prop}(h:some a=none):P:=be h.symm
theorem gy{P:Prop}(h:false=true):P:=Bool.noConfusion h
theorem gN{P:Prop}(h:true=false):P:=Bool.noConfusion h
theorem Ye{α:Type}{a:α}{l:List α}{P:Prop}(h:[]=a::l):P:=List.noConfusion rfl (heq_of_eq h)
theorem kCN{α:Type}{a:α}{l:List α}{P:Prop}(h:a::l=[]):P:=Ye h.symm
def View.In(g:View)(h:Heap):Prop:=∀a o,g a=some o->h.get? a=some o
def View.Le(g g':View):Prop:=∀a o,g a=some o->g' a=some o
theorem View.Le.refl(g:View):g.Le g:=λx x h=>h
theorem View.Le.trans{g g' b8:View}(x:g.Le g')(y:g'.Le b8):g.Le b8:=λa o h=>y a o (x a o h)
theorem View.In.le{g g':View}{h:Heap}(x:g'.In h)(y:g.Le g'):g.In h:=λa o e=>x a o (y a o e)
inductive AV
 |none|bool (b:Bool)|int (i:Int)|str (s:Str)|bytes (b:List UInt8)|tup (l:List AV)|lst (l:List AV)|ref (a:Addr)|typ (n:String)|blt (n:String)|slc (lo hi:Option Int)|rng (a b c:Int)
def SeqAt(g:View)(T:String)(a:Addr)(vs:List Value):Prop:=∃o n,g a=some o/\o.cls=.type T/\o.data=.seq vs.toArray n
mutual
noncomputable def Rep(g:View):AV->Value->Prop
 |.none,v=>v=.none
 |.bool b,v=>v=.bool b
 |.int i,v=>∃t,v=.int i t
 |.str x,v=>∃t,v=.str x t
 |.bytes b,v=>∃t,v=.bytes b.toArray t
 |.tup l,v=>∃a vs,v=.ref a/\SeqAt g "tuple" a vs/\RepL g l vs
 |.lst l,v=>∃a vs,v=.ref a/\SeqAt g "list" a vs/\RepL g l vs
 |.ref a,v=>v=.ref a
 |.typ n,v=>v=.type n
 |.blt n,v=>v=.builtin n
 |.slc lo hi,v=>∃a o n l u,v=.ref a/\g a=some o/\o.cls=.type "slice"/\o.data=.fields #[l,u,n]/\n=.none/\IsPart l lo/\IsPart u hi
 |.rng a b c,v=>∃r t u x,v=.ref r/\g r=some {cls:=.type "range",dict:=none,data:=.fields #[.int a t,.int b u,.int c x],slots:=#[]}
noncomputable def RepL(g:View):List AV->List Value->Prop
 |[],vs=>vs=[]
 |V::l,vs=>∃v r,vs=v::r/\Rep g V v/\RepL g l r
end
theorem SeqAt.le{T a vs}(x:SeqAt g T a vs)(h:g.Le g'):SeqAt g' T a vs:=
 let ⟨o,n,e,r⟩:=x;⟨o,n,h a o e,r⟩
mutual
theorem Rep.le(h:g.Le g'):∀{V:AV} {v:Value},Rep g V v->Rep g' V v
 |.none,_,x=>x
 |.bool _,_,x=>x
 |.int _,_,x=>x
 |.str _,_,x=>x
 |.bytes _,_,x=>x
 |.tup l,_,x=>cP x λa vs e s r=>cy a vs e (s.le h) (RepL.le h r)
 |.lst l,_,x=>cP x λa vs e s r=>cy a vs e (s.le h) (RepL.le h r)
 |.ref _,_,x=>x
 |.typ _,_,x=>x
 |.blt _,_,x=>x
 |.slc _ _,_,x=>by obtain⟨a,o,n,l,u,e,k,r⟩:=x;exact(show ∃a o n l u,_ from⟨a,o,n,l,u,e,h a o k,r⟩)
 |.rng _ _ _,_,x=>yB x λr t u x e k=>sU r t u x e (h r _ k)
theorem RepL.le(h:g.Le g'):∀{l:List AV} {vs:List Value},RepL g l vs->RepL g' l vs
 |[],_,x=>x
 |V::l,_,x=>cP x λv r e p q=>cy v r e (Rep.le h p) (RepL.le h q)
end
theorem RepL.nil:RepL g [] []:=by exact rfl
theorem RepL.cons{V l v vs}(x:Rep g V v)(y:RepL g l vs):RepL g (V::l) (v::vs):=by exact⟨v,vs,rfl,x,y⟩
theorem RepL.length:∀{l:List AV} {vs:List Value},RepL g l vs->vs.length=l.length
 |[],_,x=>by refine aaE x ?_;rfl
 |V::l,_,x=>by obtain⟨v,r,rfl,_,q⟩:=x;simp[q.length]
theorem RepL.get:∀{l:List AV} {vs:List Value} {i:Nat} {V:AV},RepL g l vs->l[i]?=some V->∃v,vs[i]?=some v/\Rep g V v
 |[],_,_,_,_,h=>by simp at h
 |W::l,_,0,_,x,h=>by
  obtain⟨v,r,rfl,p,_⟩:=x;simp at h;subst h;exact⟨v,rfl,p⟩
 |W::l,_,i+1,_,x,h=>by
  obtain⟨v,r,rfl,_,q⟩:=x;simp at h;obtain⟨u,e,p⟩:=q.get h;exact⟨u,by simpa using e,p⟩
theorem RepL.append:∀{l l':List AV} {vs dz:List Value},RepL g l vs->RepL g l' dz->RepL g (l++l') (vs++dz)
 |[],_,_,_,x,y=>by exact aaE x<|y
 |V::l,_,_,_,x,y=>by
  obtain⟨v,r,rfl,p,q⟩:=x;exact RepL.cons p (q.append y)
theorem RepL.take:∀{l:List AV} {vs:List Value} (n:Nat),RepL g l vs->RepL g (l.take n) (vs.take n)
 |_,_,0,_=>by simpa using RepL.nil
 |[],_,n+1,x=>by refine aaE x ?_;simpa using RepL.nil
 |V::l,_,n+1,x=>by
  obtain⟨v,r,rfl,p,q⟩:=x;exact RepL.cons p (q.take n)
theorem RepL.drop:∀{l:List AV} {vs:List Value} (n:Nat),RepL g l vs->RepL g (l.drop n) (vs.drop n)
 |_,_,0,x=>by simpa using x
 |[],_,n+1,x=>by refine aaE x ?_;simpa using RepL.nil
 |V::l,_,n+1,x=>by
  obtain⟨v,r,rfl,p,q⟩:=x
  simpa using q.drop n
inductive Trk
 |dict (l:List (List UInt8×List UInt8))
 |ns (l:List (Str×AV))
 |obj (o:Obj)
noncomputable abbrev St:=Addr->Option Trk
noncomputable abbrev AP:=AV->St->Prop
noncomputable def St.set(σ:St)(a:Addr)(t:Trk):St:=λb=>if b=a then some t else σ b
noncomputable def KVs:List (List UInt8×List UInt8)->List (List UInt8×Value)->Prop
 |[],kvs=>kvs=[]
 |(k,b)::l,kvs=>∃t r,kvs=(k,.bytes b.toArray t)::r/\KVs l r
noncomputable def TrkAt(w:World)(g:View)(h:Heap)(a:Addr):Trk->Prop
 |.dict l=>∃kvs,h.DictOf (bytesKind P0 w) a kvs/\KVs l kvs
 |.ns l=>∃m,h.Ns1 a m/\∀x,(match l.lookup x with|some V=>∃v,m x=some v/\Rep g V v|none=>m x=none)
 |.obj o=>h.get? a=some o
structure Cx where
 w:World
 B:View
 tabs:List (Addr×Addr)
 u:Nat->Prop:=λx=>False
def nv(h:Heap)(c P:Addr)(ps:Array Value):Prop:=h.IsCode c P ps/\h.TableAt c P ps
theorem qT{ps}(x:nv h c P ps)(hc:∀o,h.get? c=some o->h'.get? c=some o)(hP:∀o,h.get? P=some o->h'.get? P=some o):nv h' c P ps:=by
 obtain⟨⟨o,vs,file,tf,flags,tg,inF,text,tt,op,ho,hd,YM,h2,h7,h9,wO,YN,r⟩,⟨oc,vc,a,b⟩,t⟩:=x;exact⟨⟨o,vs,file,tf,flags,tg,inF,text,tt,op,hc _ ho,hd,YM,h2,h7,h9,wO,hP _ YN,r⟩,⟨oc,vc,hc _ a,b⟩,hP _ t⟩
structure Sat(X:Cx)(g:View)(σ:St)(s:Shared):Prop where
 le:X.B.Le g
 in_:g.In s.heap
 trk:∀a t,σ a=some t->g a=none/\TrkAt X.w g s.heap a t
 tab:∀p∈X.tabs,g p.2=none/\σ p.2=none/\g p.1≠none/\∃ps,nv s.heap p.1 p.2 ps
def KeptAs(o:Obj)(r:Option Obj):Prop:=r=some o∨((∃es ep,o.data=.dict es ep)/\∃sl,r=some {o with slots:=sl})
theorem KeptAs.trans(x:KeptAs o r)(hr:r=some o')(y:KeptAs o' r'):KeptAs o r':=by
 rcases x with x|⟨hc,sl,x⟩
 ·rw[hr]at x;(refine aaE (aq (bq x)) ?_);exact y
 ·rw[hr]at x;(first|exact be x|exact bZ x|exact gy x|exact gN x|(clear hr;obtain rfl:=bq x)|subst x|cases x)
  rcases y with y|⟨_,YO,y⟩
  ·exact .inr ⟨hc,sl,y⟩
  ·exact .inr ⟨hc,YO,y⟩
structure Pv where
 a:Addr->Prop
 n:Nat->Prop
noncomputable abbrev aL:Pv:=⟨λx=>False,λx=>False⟩
structure Rn(X:Cx)(P:Pv)(σ:St)(s s':Shared):Prop where
 os:s'.os=s.os
 dom:∀a o,s.heap.get? a=some o->¬P.a a->∃o',s'.heap.get? a=some o'
 keep:∀a o,s.heap.get? a=some o->σ a=none->(∀p∈X.tabs,p.2≠a)->¬P.a a->KeptAs o (s'.heap.get? a)
 tab:∀p∈X.tabs,∀o vs,s.heap.get? p.2=some o->o.data=.fields vs->∃more,s'.heap.get? p.2=some {o with data:=.fields (vs++more)}
 gsize:s.gens.size<=s'.gens.size
 gold:∀(i:Nat) (x:GenState),s.gens[i]?=some x->¬P.n i->s'.gens[i]?=some x
 gbare:∀(i:Nat) (x:GenState),s'.gens[i]?=some x->s.gens[i]?=some x∨(x.bare=true∨X.u i)
structure Go(X:Cx)(P:Pv)(g:View)(σ:St)(s:Shared)(g':View)(ab:St)(s':Shared):Prop where
 sat:Sat X g' ab s'
 le:g.Le g'
 new:∀a o,s.heap.get? a=some o->¬P.a a->g' a=g a
 st:∀a o,s.heap.get? a=some o->¬P.a a->(ab a=none↔σ a=none)
 run:Rn X P σ s s'
theorem TrkAt.at(x:TrkAt w g h a t):∃o,h.get? a=some o:=by
 cases t with
 |dict l=>obtain⟨kvs,⟨o,_,_,e,_⟩,_⟩:=x;exact⟨o,e⟩
 |ns l=>obtain⟨m,⟨o,_,_,e,_⟩,_⟩:=x;exact⟨o,e⟩
 |obj o=>exact⟨o,x⟩
theorem vf{ps}(x:nv h c P ps):∃o,h.get? P=some o/\o.data=.fields ps:=⟨_,x.2.2,rfl⟩
theorem Go.dom(G:Go X P g σ s g' ab s')(e:s.heap.get? a=some o)(hp:¬P.a a):∃o',s'.heap.get? a=some o':=G.run.dom a o e hp
theorem Rn.refl(X:Cx)(P)(σ:St)(s:Shared):Rn X P σ s s:=
 ⟨rfl,λy o e y=>⟨o,e⟩,λy y e y y y=>.inl e,λy y o vs e hd=>⟨#[],by refine aaE e ?_;congr 1;obtain⟨c,d,dt,sl⟩:=o;clear e;refine aaE (aq hd) ?_;simp⟩,bC _,λy y e y=>e,λi x h=>.inl h⟩
theorem Go.refl(h:Sat X g σ s):Go X P g σ s g σ s:=
 ⟨h,.refl g,λx x x x=>rfl,λx x x x=>kb,.refl X P σ s⟩
theorem Rn.trans(x:Rn X P σ s s₁)(y:Rn X P ay s₁ s₂)(hst:∀a o,s.heap.get? a=some o->¬P.a a->(ay a=none↔σ a=none)):Rn X P σ s s₂:=by
 refine⟨y.os.trans x.os,λa o e hp=>du (x.dom a o e hp) λo' e'=>y.dom a o' e' hp,λa o e hn ht hp=>?_,λp hp o vs e hd=>?_,ae x.gsize y.gsize,λi g e hp=>y.gold i g (x.gold i g e hp) hp,λi g e=>?_⟩
 ·have k:=x.keep a o e hn ht hp
  have eO:=(hst a o e hp).mpr hn;rcases k with k|⟨hc,sl,k⟩
  ·exact y.keep a o k eO ht hp
  ·exact KeptAs.trans (.inr ⟨hc,sl,k⟩) k (y.keep a _ k eO ht hp)
 ·obtain⟨more,e1⟩:=x.tab p hp o vs e hd
  obtain⟨CD,e2⟩:=y.tab p hp _ _ e1 rfl;exact⟨more++CD,by refine aaE e2 ?_;simp⟩
 ·rcases y.gbare i g e with h|h
  ·exact x.gbare i g h
  ·exact .inr h
theorem Go.trans{X:Cx}{P:Pv}{g aJ bj:View}{σ ay aS:St}{s s₁ s₂:Shared}(x:Go X P g σ s aJ ay s₁)(y:Go X P aJ ay s₁ bj aS s₂):Go X P g σ s bj aS s₂:=
 ⟨y.sat,x.le.trans y.le,λa o e hp=>(let ⟨o',e'⟩:=x.dom e hp;y.new a o' e' hp).trans (x.new a o e hp),
  λa o e hp=>(du (x.dom e hp) λo' e'=>y.st a o' e' hp).trans (x.st a o e hp),x.run.trans y.run x.st⟩
def Pv.Le(s:Shared)(P P':Pv):Prop:=(∀a o,s.heap.get? a=some o->P.a a->P'.a a)/\(∀i,i<s.gens.size->P.n i->P'.n i)
theorem Rn.weaken(x:Rn X P σ s s')(h:P.Le s P'):Rn X P' σ s s':=
 ⟨x.os,λa o e hp=>x.dom a o e λq=>hp (h.1 a o e q),λa o e hn ht hp=>x.keep a o e hn ht λq=>hp (h.1 a o e q),x.tab,x.gsize,λi g e hp=>x.gold i g e λq=>hp (h.2 i (by
  rcases uR i s.gens.size with k|k
  ·exact k
  ·rw[EW k]at e;exact be e) q),x.gbare⟩
theorem Go.weaken(x:Go X P g σ s g' ab s')(h:P.Le s P'):Go X P' g σ s g' ab s':=
 ⟨x.sat,x.le,λa o e hp=>x.new a o e λq=>hp (h.1 a o e q),λa o e hp=>x.st a o e λq=>hp (h.1 a o e q),x.run.weaken h⟩
theorem Go.any(x:Go X aL g σ s g' ab s'):Go X P g σ s g' ab s':=x.weaken ⟨λy y y h=>h.elim,λy y h=>h.elim⟩
noncomputable abbrev Mp:=Str->Option AV
noncomputable def Mp.upd(m:Mp)(x:Str)(V:AV):Mp:=λy=>if y=x then some V else m y
noncomputable def Mp.nil:Mp:=λx=>none
def Free(X:Cx)(g:View)(σ:St)(a:Addr):Prop:=g a=none/\σ a=none/\∀p∈X.tabs,p.2≠a
structure Frm(X:Cx)(env:Env)(m:Mp)(g:View)(σ:St)(s:Shared):Prop where
 kind:env.scope.kind=.function
 free:Free X g σ env.locals
 ns:∃mC,s.heap.Ns env.locals mC/\∀x V,m x=some V->env.kindOf x=some .local->∃v,mC x=some v/\Rep g V v
 cells:∀x c,env.cells.lookup x=some c->(env.kindOf x=some .cell∨env.kindOf x=some .free)->Free X g σ c->c≠env.locals/\∃v,s.heap.IsCell c v/\∀V,m x=some V->∃u,v=some u/\Rep g V u
 var:∀x V,m x=some V->env.kindOf x=some .local∨((env.kindOf x=some .cell∨env.kindOf x=some .free)/\∃c,env.cells.lookup x=some c/\Free X g σ c)
 inj:env.cells.Pairwise λx y=>x.2≠y.2
 csz:∀x c,env.cells.lookup x=some c->∃o,s.heap.get? c=some o
 own:∀x c,env.kindOf x=some .cell->x≠"names"->env.cells.lookup x=some c->Free X g σ c
theorem Hy{h h':Heap}{a:Addr}{m}(x:h.Ns a m)(k:∀o,h.get? a=some o->KeptAs o (h'.get? a)):h'.Ns a m:=by
 obtain⟨o,es,ep,ho,hd,r⟩:=x;rcases k o ho with e|⟨_,sl,e⟩
 ·exact⟨o,es,ep,e,hd,r⟩
 ·exact⟨_,es,ep,e,hd,r⟩
theorem PY{h h':Heap}{c:Addr}{v}(x:h.IsCell c v)(k:∀o,h.get? c=some o->KeptAs o (h'.get? c)):h'.IsCell c v:=by
 obtain⟨o,ho,hd⟩:=x;rcases k o ho with e|⟨_,sl,e⟩
 ·exact⟨o,e,hd⟩
 ·exact⟨_,e,hd⟩
theorem Free.go(x:Free X g σ a)(G:Go X P g σ s g' ab s')(h:s.heap.get? a=some o)(hp:¬P.a a):Free X g' ab a:=
 ⟨(G.new a o h hp).trans x.1,(G.st a o h hp).mpr x.2.1,x.2.2⟩
theorem Free.back(x:Free X g' ab a)(G:Go X P g σ s g' ab s')(h:s.heap.get? a=some o)(hp:¬P.a a):Free X g σ a:=
 ⟨(G.new a o h hp).symm.trans x.1,(G.st a o h hp).mp x.2.1,x.2.2⟩
theorem Frm.goP{X:Cx}{env:Env}{m:Mp}{P:Pv}{g g':View}{σ ab:St}{s s':Shared}(F:Frm X env m g σ s)(G:Go X P g σ s g' ab s')(hL:¬P.a env.locals)(hC:∀x c,env.cells.lookup x=some c->¬P.a c):Frm X env m g' ab s':=by
 have hs:=F.csz;obtain⟨mC,hn,hv⟩:=F.ns;obtain⟨oL,_,_,rC,_⟩:=id hn;refine⟨F.kind,F.free.go G rC hL,⟨mC,Hy hn λo e=>G.run.keep _ o e F.free.2.1 F.free.2.2 hL,λx V hm hk=>?_⟩,λx c hc hk hf=>?_,λx V hm=>?_,F.inj,λx c hc=>du (hs x c hc) λy e=>G.dom e (hC x c hc),λx c hk hx hc=>(F.own x c hk hx hc).go G (hs x c hc).choose_spec (hC x c hc)⟩
 ·obtain⟨v,e,r⟩:=hv x V hm hk
  exact⟨v,e,r.le G.le⟩
 ·obtain⟨oc,ec⟩:=hs x c hc
  have CE:=hf.back G ec (hC x c hc);obtain⟨bR,v,hi,hr⟩:=F.cells x c hc hk CE;refine⟨bR,v,PY hi λo e=>G.run.keep _ o e CE.2.1 CE.2.2 (hC x c hc),λV hm=>?_⟩;obtain⟨u,e,r⟩:=hr V hm;exact⟨u,e,r.le G.le⟩
 ·rcases F.var x V hm with h|⟨h,c,hc,hf⟩
  ·exact .inl h
  ·exact .inr ⟨h,c,hc,hf.go G (hs x c hc).choose_spec (hC x c hc)⟩
theorem Frm.go(F:Frm X env m g σ s)(G:Go X aL g σ s g' ab s'):Frm X env m g' ab s':=F.goP G id λx x x=>id
theorem TrkAt.keeps(x:TrkAt w g h a t)(k:∀b o,h.get? b=some o->h'.get? b=some o):TrkAt w g h' a t:=by
 cases t with
 |dict l=>obtain⟨kvs,d,r⟩:=x;exact⟨kvs,d.at (k a),r⟩
 |ns l=>obtain⟨m,d,r⟩:=x;exact⟨m,d.at (k a),r⟩
 |obj o=>exact k _ _ x
theorem TrkAt.le(x:TrkAt w g h a t)(k:g.Le g'):TrkAt w g' h a t:=by
 cases t with
 |dict l=>exact x
 |ns l=>
  obtain⟨m,d,r⟩:=x;refine⟨m,d,λy=>?_⟩;have:=r y
  cases q:l.lookup y with
  |none=>rw[q]at this;exact this
  |some V=>rw[q]at this;obtain⟨v,e,p⟩:=this;exact⟨v,e,p.le k⟩
 |obj o=>exact x
theorem Ft{ps}(x:nv h c P ps)(k:∀b o,h.get? b=some o->h'.get? b=some o):nv h' c P ps:=qT x (k _) (k _)
theorem Sat.keeps(S:Sat X g σ s)(k:∀b o,s.heap.get? b=some o->s'.heap.get? b=some o):Sat X g σ s':=
 ⟨S.le,λa o e=>k a o (S.in_ a o e),λa t e=>⟨(S.trk a t e).1,(S.trk a t e).2.keeps k⟩,λp hp=>let ⟨a,b,d,ps,c⟩:=S.tab p hp;⟨a,b,d,ps,Ft c k⟩⟩
theorem Rn.keeps(k:∀b o,s.heap.get? b=some o->s'.heap.get? b=some o)(f9:s'.os=s.os)(hg:s'.gens=s.gens):Rn X P σ s s':=
 ⟨f9,λa o e y=>⟨o,k a o e⟩,λa o e y y y=>.inl (k a o e),λp y o vs e hd=>⟨#[],by refine aaE (k _ _ e) ?_;congr 1;obtain⟨c,d,dt,sl⟩:=o;clear e;refine aaE (aq hd) ?_;simp⟩,by exact aaE hg<|bC _,λi x e y=>by exact aaE hg<|e,λi x e=>by rw[hg]at e;exact .inl e⟩
theorem Go.keeps(S:Sat X g σ s)(k:∀b o,s.heap.get? b=some o->s'.heap.get? b=some o)(f9:s'.os=s.os:=by rfl)(hg:s'.gens=s.gens:=by rfl):Go X P g σ s g σ s':=
 ⟨S.keeps k,.refl g,λx x x x=>rfl,λx x x x=>kb,.keeps k f9 hg⟩
noncomputable def View.add(g:View)(a:Addr)(o:Obj):View:=λb=>if b=a then some o else g b
theorem View.le_add{g:View}{a:Addr}(o:Obj)(h:g a=none):g.Le (g.add a o):=λb o' e=>by
 unfold View.add
 split
 ·rename_i q;rw[q,h]at e;exact be e
 ·exact e
theorem View.none_of{g:View}{h:Heap}{a:Addr}(x:g.In h)(e:h.get? a=none):g a=none:=by
 cases q:g a with
 |none=>rfl
 |some o=>have:=x a o q;rw[e]at this;exact be this
theorem Go.keeps_add{X:Cx}{P:Pv}{g:View}{σ:St}{s s':Shared}(S:Sat X g σ s)(k:∀b o,s.heap.get? b=some o->s'.heap.get? b=some o){a:Addr}{o:Obj}(hn:s.heap.get? a=none)(ha:s'.heap.get? a=some o)
  (f9:s'.os=s.os:=by rfl)(hg:s'.gens=s.gens:=by rfl):Go X P g σ s (g.add a o) σ s':=by
 have jS:=View.none_of S.in_ hn;have S':=S.keeps k;have ne:∀b o',s.heap.get? b=some o'->b≠a:=λb o' e q=>by rw[q,hn]at e;exact be e
 refine⟨⟨S'.le.trans (View.le_add o jS),λb o' e=>?_,λb t e=>?_,λp hp=>?_⟩,View.le_add o jS,λb o' e _=>?_,λ_ _ _ _=>kb,.keeps k f9 hg⟩
 ·unfold View.add at e
  split at e
  ·rename_i q;(refine aaE (aq (bq e)) ?_);exact aaE q<|ha
  ·exact S'.in_ b o' e
 ·obtain⟨e1,e2⟩:=S.trk b t e
  obtain⟨o',dj⟩:=e2.at;exact⟨by unfold View.add;exact aaE (ar (ne b o' dj))<|e1,(e2.keeps k).le (View.le_add o jS)⟩
 ·obtain⟨e1,e2,e4,ps,e3⟩:=S.tab p hp
  obtain⟨o',dj,_⟩:=vf e3;exact⟨by unfold View.add;exact aaE (ar (ne _ o' dj))<|e1,e2,by unfold View.add;split;simp;exact e4,ps,Ft e3 k⟩
 ·unfold View.add;exact aaE (ar (ne b o' e)) rfl
theorem TrkAt.sameBut(x:TrkAt w g h a t)(k:Heap.SameBut b h h')(dK:a≠b):TrkAt w g h' a t:=by
 cases t with
 |dict l=>obtain⟨kvs,d,r⟩:=x;exact⟨kvs,d.sameBut k dK,r⟩
 |ns l=>obtain⟨m,d,r⟩:=x;exact⟨m,d.sameBut k dK,r⟩
 |obj o=>exact(k.2 a dK).trans x
theorem Ff{ps}(x:nv h c P ps)(k:Heap.SameBut b h h')(hc:c≠b)(hP:P≠b):nv h' c P ps:=qT x (λo e=>(k.2 c hc).trans e) (λo e=>(k.2 P hP).trans e)
theorem Sat.sameBut(S:Sat X g σ s)(k:Heap.SameBut b s.heap s'.heap)(hb:Free X g σ b):Sat X g σ s':=by
 have ne:∀a o,g a=some o->a≠b:=λa o e q=>by rw[q,hb.1]at e;exact be e
 refine⟨S.le,λa o e=>(k.2 a (ne a o e)).trans (S.in_ a o e),λa t e=>⟨(S.trk a t e).1,(S.trk a t e).2.sameBut k λq=>?_⟩,λp hp=>?_⟩
 ·rw[q,hb.2.1]at e;exact be e
 ·obtain⟨e1,e2,e3,ps,e4⟩:=S.tab p hp
  refine⟨e1,e2,e3,ps,Ff e4 k ?_ (hb.2.2 p hp)⟩
  cases q:g p.1 with
  |none=>exact absurd q e3
  |some o=>exact ne _ o q
theorem Go.sameBut(S:Sat X g σ s)(k:Heap.SameBut b s.heap s'.heap)(hb:Free X g σ b)(hP:P.a b)
  (f9:s'.os=s.os:=by rfl)(hg:s'.gens=s.gens:=by rfl):Go X P g σ s g σ s':=by
 refine⟨S.sameBut k hb,.refl g,λy y y y=>rfl,λy y y y=>kb,f9,λa o e hp=>?_,λa o e y y hp=>?_,λp hp o vs e cZ=>⟨#[],?_⟩,by exact aaE hg<|bC _,λi x e y=>by exact aaE hg<|e,λi x e=>by rw[hg]at e;exact .inl e⟩
 ·by_cases q:a=b
  ·exact absurd (q▸hP) hp
  ·exact⟨o,(k.2 a q).trans e⟩
 ·have q:a≠b:=λq=>hp (q▸hP)
  exact .inl ((k.2 a q).trans e)
 ·(refine aaE (k.2 _ (hb.2.2 p hp))<|aaE e ?_);congr 1;obtain⟨c,d,dt,sl⟩:=o;clear e;refine aaE (aq cZ) ?_;simp
theorem Frm.sameBut(F:Frm X env m g σ s)(k:Heap.SameBut b s.heap s'.heap)(hL:b≠env.locals)(hc:∀x c,env.cells.lookup x=some c->c≠b):Frm X env m g σ s':=by
 obtain⟨mC,hn,hv⟩:=F.ns;refine⟨F.kind,F.free,⟨mC,hn.sameBut k (jf hL),hv⟩,λx c hl hk hf=>?_,F.var,F.inj,λx c hl=>?_,F.own⟩
 ·obtain⟨h1,v,h2,h3⟩:=F.cells x c hl hk hf
  exact⟨h1,v,h2.sameBut k (hc x c hl),h3⟩
 ·obtain⟨o,e⟩:=F.csz x c hl
  exact⟨o,(k.2 c (hc x c hl)).trans e⟩
section
variable (X:Cx) (A:Around) (E:Value->Shared->Prop)
inductive Post(P:Pv)(g:View)(σ:St)(s:Shared)(Q:AV->St->Prop)(v:Value)(s':Shared):Prop
 |mk (g':View) (V:AV) (ab:St) (G:Go X P g σ s g' ab s') (r:Rep g' V v) (q:Q V ab)
inductive PostB(P:Pv)(g:View)(σ:St)(s:Shared)(Q:Bool->St->Prop)(b:Bool)(s':Shared):Prop
 |mk (g':View) (ab:St) (G:Go X P g σ s g' ab s') (q:Q b ab)
inductive PostL(P:Pv)(g:View)(σ:St)(s:Shared)(Q:List AV->St->Prop)(vs:List Value)(s':Shared):Prop
 |mk (g':View) (l:List AV) (ab:St) (G:Go X P g σ s g' ab s') (r:RepL g' l vs) (q:Q l ab)
def Ev(env:Env)(m:Mp)(e:Expr)(σ:St)(Q:AP):Prop:=
 ∀g s,Sat X g σ s->Frm X env m g σ s->wpAny (model P0 X.w) A (eval e env) (Post X aL g σ s Q) E s
def EvB(env:Env)(m:Mp)(e:Expr)(σ:St)(Q:Bool->St->Prop):Prop:=
 ∀g s,Sat X g σ s->Frm X env m g σ s->wpAny (model P0 X.w) A (isTrue e env (eval e env)) (PostB X aL g σ s Q) E s
def iR(env:Env)(m:Mp)(es:List Expr)(pos:Pos)(σ:St)(Q:List AV->St->Prop):Prop:=
 ∀g s,Sat X g σ s->Frm X env m g σ s->wpAny (model P0 X.w) A (spliced (backTo pos (starEach es env))) (PostL X aL g σ s Q) E s
def LL(t:Value->Sem Value)(V:AV)(σ:St)(Q:AP):Prop:=
 ∀g s v,Sat X g σ s->Rep g V v->wpAny (model P0 X.w) A (t v) (Post X aL g σ s Q) E s
def cU(t:Value->Value->Sem Value)(V W:AV)(σ:St)(Q:AP):Prop:=
 ∀g s v u,Sat X g σ s->Rep g V v->Rep g W u->wpAny (model P0 X.w) A (t v u) (Post X aL g σ s Q) E s
def LN(t:List Value->Sem Value)(l:List AV)(σ:St)(Q:AP):Prop:=
 ∀g s vs,Sat X g σ s->RepL g l vs->wpAny (model P0 X.w) A (t vs) (Post X aL g σ s Q) E s
def wH(t:Value->Sem Bool)(V:AV)(σ:St)(Q:Bool->St->Prop):Prop:=
 ∀g s v,Sat X g σ s->Rep g V v->wpAny (model P0 X.w) A (t v) (PostB X aL g σ s Q) E s
end
abbrev LM(O:AV->AV->St->AP->Prop)(Q:AP)(V W:AV)(σ:St):Prop:=O V W σ Q
abbrev zP(J:Expr->St->AP->Prop)(r:Expr)(O:AV->AV->St->AP->Prop)(Q:AP)(V:AV)(σ:St):Prop:=J r σ (LM O Q V)
abbrev KU{α κ:Type}(O:α->St->κ->Prop)(Q:κ)(V:α)(σ:St):Prop:=O V σ Q
abbrev Ip(Q:Bool->St->Prop)(Z:AV)(σ:St):Prop:=∃b,Z=.bool b/\Q b σ
theorem kt(h:Q b σ):Ip Q (.bool b) σ:=⟨b,rfl,h⟩
abbrev Ws(Q:Bool->St->Prop)(b:Bool)(σ:St):Prop:=Q (!b) σ
abbrev zO{ε τ κ:Type}(J:ε->τ->κ->Prop)(a b:ε)(Q:κ)(c:Bool)(σ:τ):Prop:=if c then J a σ Q else J b σ Q
theorem wG{ε τ κ:Type}{J:ε->τ->κ->Prop}{a b:ε}{Q:κ}{c:Bool}{σ:τ}(h:c=true->J a σ Q)(k:c=false->J b σ Q):zO J a b Q c σ:=by
 cases c
 ·exact k rfl
 ·exact h rfl
abbrev Wt(J:Expr->St->(Bool->St->Prop)->Prop)(r:Expr)(Q:Bool->St->Prop)(c:Bool)(σ:St):Prop:=if c then J r σ Q else Q false σ
abbrev LO(J:Expr->St->(Bool->St->Prop)->Prop)(r:Expr)(Q:Bool->St->Prop)(c:Bool)(σ:St):Prop:=if c then Q true σ else J r σ Q
theorem Yg(h:c=true->Q true σ)(k:c=false->J r σ Q):LO J r Q c σ:=by
 cases c
 ·exact k rfl
 ·exact h rfl
abbrev Vh(Q:List AV->St->Prop)(V:AV)(l:List AV)(σ:St):Prop:=Q (V::l) σ
abbrev Wr(J:St->(List AV->St->Prop)->Prop)(Q:List AV->St->Prop)(V:AV)(σ:St):Prop:=J σ (Vh Q V)
abbrev JO(c:List AV->AV)(Q:AP)(l:List AV)(σ:St):Prop:=l.length<=sizeLine/\Q (c l) σ
section
variable {X:Cx} {A:Around} {E:Value->Shared->Prop} {env:Env} {m:Mp} {σ:St} {Q:AV->St->Prop}
theorem Post.here{V v}(S:Sat X g σ s)(r:Rep g V v)(h:Q V σ):Post X P g σ s Q v s:=⟨g,V,σ,.refl S,r,h⟩
theorem Post.to{v}(G:Go X P g σ s g' ab s')(h:∃V,Rep g' V v/\Q V ab):Post X P g σ s Q v s':=
 ax (h) λV r q=>⟨g',V,ab,G,r,q⟩
theorem Post.after{v}(G:Go X P g σ s g' ab s')(h:Post X P g' ab s' Q v aU):Post X P g σ s Q v aU:=
 h.rec λb8 V nz G' r q=>⟨b8,V,nz,G.trans G',r,q⟩
theorem PostB.after{P:Pv}{g g':View}{ab:St}{s s' aU:Shared}{Q:Bool->St->Prop}{v}(G:Go X P g σ s g' ab s')(h:PostB X P g' ab s' Q v aU):PostB X P g σ s Q v aU:=
 h.rec λb8 nz G' q=>⟨b8,nz,G.trans G',q⟩
theorem Ev.mono(h:Ev X A E env m e σ Q)(k:∀V ab,Q V ab->Q' V ab):Ev X A E env m e σ Q':=λg s S F=>
 aB (h g s S F) (λx x zz=>zz.rec λg' V ab G r q=>⟨g',V,ab,G,r,k V ab q⟩) i2
theorem EvB.mono{e:Expr}{Q Q':Bool->St->Prop}(h:EvB X A E env m e σ Q)(k:∀V ab,Q V ab->Q' V ab):EvB X A E env m e σ Q':=λg s S F=>
 aB (h g s S F) (λx x zz=>zz.rec λg' ab G q=>⟨g',ab,G,k _ ab q⟩) i2
theorem aY{k pos}(h:Q (.int i) σ):Ev X A E env m (.Constant (.int i) k pos) σ Q:=λg s S x=>
 wpAny_Constant_int (Post.to (Go.keeps S λx x e=>e) (aE (.int i) (by exact⟨_,rfl⟩) h))
theorem ig{k pos}(h:Q (.bytes x) σ):Ev X A E env m (.Constant (.bytes x) k pos) σ Q:=λg s S y=>
 Constant_bytes (Post.to (Go.keeps S λy y e=>e) (aE (.bytes x) (by exact⟨_,rfl⟩) h))
theorem s6{k pos}(h:Q (.str x) σ):Ev X A E env m (.Constant (.str x) k pos) σ Q:=λg s S y=>
 Calls.Constant_str (Post.to (Go.keeps S λy y e=>e) (aE (.str x) (by exact⟨_,rfl⟩) h))
theorem Hj{k pos}(h:Q (.bool b) σ):Ev X A E env m (.Constant (.bool b) k pos) σ Q:=λg s S x=>
 Constant_bool (Post.here S (by exact rfl) h)
theorem jd{k pos}(h:Q .none σ):Ev X A E env m (.Constant .none k pos) σ Q:=λg s S x=>
 Constant_none (Post.here S (by exact rfl) h)
theorem aP{pos}(hm:m x=some V)(h:Q V σ)(hd:(x==("__debug__":Str))=false:=by decide)(hc:(x==("__classdict__":Str))=false:=by decide):
  Ev X A E env m (.Name x pos) σ Q:=λg s S F=>by
 refine wpAny_Name ?_ hd;refine az λkk=>?_;rcases F.var x V hm with hk|⟨hk,c,hl,hf⟩
 ·refine ax F.ns λmC hn hv=>?_
  refine ax (hv x V hm hk) λv e r=>?_;exact kk<|wpAny_loadName_local F.kind hk hn e (Post.here S r h)
 ·refine fJ (F.cells x c hl hk hf) λy v hi hr=>?_
  refine ax (hr V hm) λu bN r=>?_;clear hr;subst bN;rcases hk with hk|hk
  ·exact kk<|wpAny_loadName_cell F.kind hk hl hi (Post.here S r h)
  ·exact kk<|Fd F.kind hk hl hi (Post.here S r h) hc
theorem af(V:AV){pos}(h:Q V σ)(hm:m x=some V:=by rfl)(hd:(x==("__debug__":Str))=false:=by decide)(hc:(x==("__classdict__":Str))=false:=by decide):Ev X A E env m (.Name x pos) σ Q:=aP hm h hd hc
def bV(X:Cx)(x:Str)(V:AV):Prop:=∃v,(∀h:Heap,X.B.In h->∃mg mb,h.Ns mainGlobals mg/\h.Ns builtinsNs mb/\(mg x=some v∨(mg x=none/\mb x=some v)))/\Rep X.B V v
theorem ph{pos}(hG:bV X x V)(hk:env.kindOf x=some .globalImplicit)(he:env.globals=mainGlobals)(hb:env.builtins=builtinsNs)(h:Q V σ)(hd:(x==("__debug__":Str))=false:=by decide):
  Ev X A E env m (.Name x pos) σ Q:=λg s S F=>by
 refine az λkk=>?_;refine ax hG λv hg r=>?_;refine cP (hg s.heap (S.in_.le S.le)) λmg mb h1 h2 h3=>?_;have P:Post X aL g σ s Q v s:=Post.here S (r.le S.le) h;rcases h3 with h3|⟨h3,h4⟩
 ·exact kk<|Av F.kind hk (Calls.loadGlobal_global (by exact aaE he<|h1) h3 P) hd
 ·exact kk<|Av F.kind hk (Calls.loadGlobal_builtin (by exact aaE he<|h1) h3 (by exact aaE hb<|h2) h4 P) hd
theorem eg{pos}(hG:bV X x V)(h:Q V σ)(hk:env.kindOf x=some .globalImplicit:=by rfl)(he:env.globals=mainGlobals:=by rfl)(hb:env.builtins=builtinsNs:=by rfl)(hd:(x==("__debug__":Str))=false:=by decide):Ev X A E env m (.Name x pos) σ Q:=ph hG hk he hb h hd
theorem bK{op pos}(h:Ev X A E env m l σ (zP (Ev X A E env m) r (cU X A E (binaryOp op)) Q)):Ev X A E env m (.BinOp l op r pos) σ Q:=λg s S F=>
 wpAny_BinOp (aB (h g s S F) (λa s₁ zz=>zz.rec λaJ V ay ai aX aF=>aB (aF aJ s₁ ai.sat (F.go ai)) (λb s₂ zz=>zz.rec λbj W aS aN dJ bA=>
  aB (bA bj s₂ a b aN.sat (aX.le aN.le) dJ) (λc a8 bW=>bW.after (ai.trans aN)) i2) i2) i2)
theorem yK{op pos}(h:Ev X A E env m l σ (zP (Ev X A E env m) r (cU X A E (compareOp op)) Q))(hm:behindInMarks op r=false:=by with_unfolding_all rfl):
  Ev X A E env m (.Compare l [op] [r] pos) σ Q:=λg s S F=>
 wpAny_Compare1 (aB (h g s S F) (λa s₁ zz=>zz.rec λaJ V ay ai aX aF=>aB (aF aJ s₁ ai.sat (F.go ai)) (λb s₂ zz=>zz.rec λbj W aS aN dJ bA=>
  aB (bA bj s₂ a b aN.sat (aX.le aN.le) dJ) (λc a8 bW=>bW.after (ai.trans aN)) i2) i2) i2) hm
theorem Cu{op pos}(h:Ev X A E env m x σ (KU (LL X A E (unaryOp op)) Q)):Ev X A E env m (.UnaryOp op x pos) σ Q:=λg s S F=>
 UnaryOp_ (aB (h g s S F) (λa s₁ zz=>zz.rec λaJ V ay ai aX aF=>aB (aF aJ s₁ a ai.sat aX) (λc a8 bW=>bW.after ai) i2) i2)
theorem yJ{pos}(h:EvB X A E env m t σ (zO (Ev X A E env m) a b Q)):Ev X A E env m (.IfExp t a b pos) σ Q:=λg s S F=>
 IfExp_ (aB (h g s S F) (λc s₁ zz=>zz.rec λaJ ay ai aF=>by
  clear zz;cases c
  ·exact aB (aF aJ s₁ ai.sat (F.go ai)) (λc a8 bW=>bW.after ai) i2
  ·exact aB (aF aJ s₁ ai.sat (F.go ai)) (λc a8 bW=>bW.after ai) i2) i2)
theorem aT{l r:Expr}{op pos}{Q:Bool->St->Prop}(h:Ev X A E env m l σ (zP (Ev X A E env m) r (cU X A E (compareOp op)) (Ip Q)))(hm:behindInMarks op r=false:=by with_unfolding_all rfl):
  EvB X A E env m (.Compare l [op] [r] pos) σ Q:=λg s S F=>
 wpAny_isTrue_Compare1 (aB (h g s S F) (λa s₁ zz=>zz.rec λaJ V ay ai aX aF=>aB (aF aJ s₁ ai.sat (F.go ai)) (λb s₂ zz=>zz.rec λbj W aS aN dJ bA=>
  aB (bA bj s₂ a b aN.sat (aX.le aN.le) dJ) (λc a8 zz=>zz.rec λeG Z dZ bL ou aR=>ax aR λb e q=>by
   clear zz aR;subst e;clear zz;refine aaE ou ?_
   exact wpAny_truthy_bool ⟨eG,dZ,(ai.trans aN).trans bL,q⟩) i2) i2) i2) hm
theorem lY{x:Expr}{pos}{Q:Bool->St->Prop}(h:EvB X A E env m x σ (Ws Q)):EvB X A E env m (.UnaryOp .Not x pos) σ Q:=λg s S F=>
 isTrue_not (aB (h g s S F) (λc s₁ zz=>zz.rec λaJ ay ai aF=>⟨aJ,ay,ai,aF⟩) i2)
theorem kU{x:Expr}{rest:List Expr}{pos}{Q:Bool->St->Prop}(h:EvB X A E env m x σ (Wt (EvB X A E env m) (.BoolOp .And rest pos) Q)):EvB X A E env m (.BoolOp .And (x::rest) pos) σ Q:=λg s S F=>
 isTrue_and (aB (h g s S F) (λc s₁ zz=>zz.rec λaJ ay ai aF=>by
  clear zz;cases c
  ·exact⟨aJ,ay,ai,aF⟩
  ·exact aB (aF aJ s₁ ai.sat (F.go ai)) (λc a8 bW=>bW.after ai) i2) i2)
theorem Bo{pos}{Q:Bool->St->Prop}(h:Q true σ):EvB X A E env m (.BoolOp .And [] pos) σ Q:=λg s S F=>isTrue_and_nil ⟨g,σ,.refl S,h⟩
theorem gE{x:Expr}{rest:List Expr}{pos}{Q:Bool->St->Prop}(h:EvB X A E env m x σ (LO (EvB X A E env m) (.BoolOp .Or rest pos) Q)):EvB X A E env m (.BoolOp .Or (x::rest) pos) σ Q:=λg s S F=>
 isTrue_or (aB (h g s S F) (λc s₁ zz=>zz.rec λaJ ay ai aF=>by
  clear zz;cases c
  ·exact aB (aF aJ s₁ ai.sat (F.go ai)) (λc a8 bW=>bW.after ai) i2
  ·exact⟨aJ,ay,ai,aF⟩) i2)
theorem o4{pos}{Q:Bool->St->Prop}(h:Q false σ):EvB X A E env m (.BoolOp .Or [] pos) σ Q:=λg s S F=>isTrue_or_nil ⟨g,σ,.refl S,h⟩
theorem gp{e:Expr}{Q:Bool->St->Prop}(h:Ev X A E env m e σ (KU (wH X A E truthy) Q))
  (he:isTrue e env (eval e env)=(do let v ←eval e env;standAt e.pos;holding [v] (truthy v)):=by rfl):EvB X A E env m e σ Q:=λg s S F=>
 isTrue_plain (aB (h g s S F) (λa s₁ zz=>zz.rec λaJ V ay ai aX aF=>aB (aF aJ s₁ a ai.sat aX) (λc a8 bW=>bW.after ai) i2) i2) he
theorem RA{pos}(h:Ev X A E env m dr σ λV ay=>wH X A E truthy V ay λb aS=>if b then Ev X A E env m (.BoolOp .And (DC::rest) pos) aS Q else Q V aS):
  Ev X A E env m (.BoolOp .And (dr::DC::rest) pos) σ Q:=λg s S F=>
 BoolOp_and (aB (h g s S F) (λa s₁ zz=>zz.rec λaJ V ay ai aX aF=>aB (aF aJ s₁ a ai.sat aX) (λc s₂ zz=>zz.rec λbj aS aN bA=>by
  clear zz;cases c
  ·exact⟨bj,V,aS,ai.trans aN,aX.le aN.le,bA⟩
  ·exact aB (bA bj s₂ aN.sat (F.go (ai.trans aN))) (λc a8 bW=>bW.after (ai.trans aN)) i2) i2) i2)
theorem Ol{op pos}(h:Ev X A E env m e σ Q):Ev X A E env m (.BoolOp op [e] pos) σ Q:=λg s S F=>BoolOp_one (h g s S F)
theorem aD{pos}{Q:List AV->St->Prop}(h:Q [] σ):iR X A E env m [] pos σ Q:=λg s S x=>Calls.spliced_nil ⟨g,[],σ,.refl S,.nil,h⟩
theorem ak{e:Expr}{rest:List Expr}{pos}{Q:List AV->St->Prop}(h:Ev X A E env m e σ (Wr (iR X A E env m rest pos) Q))
  (he:starEach (e::rest) env=(false,eval e env)::starEach rest env:=by rfl):iR X A E env m (e::rest) pos σ Q:=λg s S F=>
 sL (aB (h g s S F) (λa s₁ zz=>zz.rec λaJ V ay ai aX aF=>aB (aF aJ s₁ ai.sat (F.go ai)) (λvs s₂ zz=>zz.rec λbj l aS aN dJ bA=>
  ⟨bj,V::l,aS,ai.trans aN,.cons (aX.le aN.le) dJ,bA⟩) i2) i2) he
theorem qL{g:View}{a:Addr}{o:Obj}{T:String}{vs:List Value}{n:Nat}(hc:o.cls=.type T)(hd:o.data=.seq vs.toArray n):SeqAt (g.add a o) T a vs:=
 (cy o n (by unfold View.add;exact aaE (aA rfl) rfl) hc hd)
theorem iJ{h:Heap}:h.get? h.objs.size=none:=by
 cases e:h.get? h.objs.size with
 |none=>rfl
 |some o=>exact absurd (cC e) (de _)
theorem NT{l:List AV}(hz:l.length<=sizeLine)(h:Q (.tup l) σ):LN X A E newTuple l σ Q:=λg s vs S r=>by
 refine iz ?_ (by show vs.toArray.size<=sizeLine;(refine aaE f3<|aaE r.length ?_);exact hz);have hn:=View.none_of S.in_ iJ;refine Post.to (Go.keeps_add S (λb o e=>bJ _ e) iJ (cB _ rfl)) (aE (.tup l) ?_ h);exact(cy _ vs rfl (qL rfl rfl) (r.le (View.le_add _ hn)))
theorem Om{l:List AV}(hz:l.length<=sizeLine)(h:Q (.lst l) σ):LN X A E newList l σ Q:=λg s vs S r=>by
 refine iz ?_ (by show vs.toArray.size<=sizeLine;(refine aaE f3<|aaE r.length ?_);exact hz);have hn:=View.none_of S.in_ iJ;refine Post.to (Go.keeps_add S (λb o e=>bJ _ e) iJ (cB _ rfl)) (aE (.lst l) ?_ h);exact(cy _ vs rfl (qL rfl rfl) (r.le (View.le_add _ hn)))
theorem lW{k pos}(h:iR X A E env m es pos σ (JO .tup Q)):Ev X A E env m (.Tuple es k pos) σ Q:=λg s S F=>
 Tuple_ (aB (h g s S F) (λvs s₁ zz=>zz.rec λaJ l ay ai aX ba=>bY ba λhz aF=>aB (NT hz aF aJ s₁ vs ai.sat aX) (λc a8 bW=>bW.after ai) i2) i2)
theorem mS{pos}(h:iR X A E env m es pos σ (JO .lst Q)):Ev X A E env m (.List es pos) σ Q:=λg s S F=>
 List_ (aB (h g s S F) (λvs s₁ zz=>zz.rec λaJ l ay ai aX bh=>bY bh λhz aF=>aB (Om hz aF aJ s₁ vs ai.sat aX) (λc a8 bW=>bW.after ai) i2) i2)
theorem qU{value slice:Expr}{o i:Value}{T id:String}{s:Shared}{R:VP}(hT:s.TypeIs o T)
  (hl:typeLookup (.type T) "__getitem__"=pure (some (.builtin id)))(h:wpAny (model P0 X.w) A (getItem o i) R E s):wpAny (model P0 X.w) A (subscriptTail value slice o i) R E s:=by
 refine ag<|aaE (getitemInPython_of_ne hT.not_modules)<|ag (se hT hl ?_)
 have fin:wpAny (model P0 X.w) A (subscripted slice false o i) (λr a8=>wpAny (model P0 X.w) A (letTemporaryGo value o r>>= λx=>pure r) R E a8) E s:=by
  have g:∀{vs:List Value},wpAny (model P0 X.w) A (operate vs (getItem o i)) (λr a8=>wpAny (model P0 X.w) A (letTemporaryGo value o r>>= λx=>pure r) R E a8) E s:=
   wpAny_operating (aB h (λr a8 bW=>ag (wpAny_letTemporaryGo (aO bW))) i2)
  have all:∀sl,wpAny (model P0 X.w) A (subscripted sl false o i) (λr a8=>wpAny (model P0 X.w) A (letTemporaryGo value o r>>= λx=>pure r) R E a8) E s:=λsl=>by
   cases sl with
   |Slice a b c p=>cases c<;>exact g
   |_=>exact g
  exact all slice
 first
  |exact aO (ag fin)
  |exact ag (aO (ag fin))
  |exact ag fin
theorem bz{pos}(h:Ev X A E env m value σ (zP (Ev X A E env m) slice (cU X A E (subscriptTail value slice)) Q)):Ev X A E env m (.Subscript value slice pos) σ Q:=λg s S F=>
 Subscript_ (aB (h g s S F) (λa s₁ zz=>zz.rec λaJ V ay ai aX aF=>aB (aF aJ s₁ ai.sat (F.go ai)) (λb s₂ zz=>zz.rec λbj W aS aN dJ bA=>
  aB (bA bj s₂ a b aN.sat (aX.le aN.le) dJ) (λc a8 bW=>bW.after (ai.trans aN)) i2) i2) i2)
end
inductive AFl|next|brk|cont|ret (V:AV)
noncomputable def zo(g:View):AFl->Flow->Prop
 |.next,f=>f=.next
 |.brk,f=>f=.brk
 |.cont,f=>f=.cont
 |.ret V,f=>∃v,f=.ret v/\Rep g V v
section
variable (X:Cx) (A:Around) (E:Value->Shared->Prop) (P:Pv)
inductive PostX(env:Env)(g:View)(σ:St)(s:Shared)(Q:AFl->Mp->St->Prop)(f:Flow)(s':Shared):Prop
 |mk (g':View) (F:AFl) (m':Mp) (ab:St) (G:Go X P g σ s g' ab s') (Fr:Frm X env m' g' ab s') (r:zo g' F f) (q:Q F m' ab)
inductive PostU(env:Env)(g:View)(σ:St)(s:Shared)(Q:Mp->St->Prop)(u:Unit)(s':Shared):Prop
 |mk (g':View) (m':Mp) (ab:St) (G:Go X P g σ s g' ab s') (Fr:Frm X env m' g' ab s') (q:Q m' ab)
def Ex(env:Env)(m:Mp)(st:Stmt)(σ:St)(Q:AFl->Mp->St->Prop):Prop:=
 ∀g s,Sat X g σ s->Frm X env m g σ s->wpAny (model P0 X.w) A (exec st env) (PostX X P env g σ s Q) E s
def Exs(env:Env)(m:Mp)(st:List Stmt)(σ:St)(Q:AFl->Mp->St->Prop):Prop:=
 ∀g s,Sat X g σ s->Frm X env m g σ s->wpAny (model P0 X.w) A (execs st env) (PostX X P env g σ s Q) E s
def As(env:Env)(m:Mp)(target:Expr)(V:AV)(σ:St)(Q:Mp->St->Prop):Prop:=
 ∀g s v,Sat X g σ s->Frm X env m g σ s->Rep g V v->wpAny (model P0 X.w) A (assign target env v) (PostU X P env g σ s Q) E s
def zQ(env:Env)(m:Mp)(targets:List Expr)(l:List AV)(σ:St)(Q:Mp->St->Prop):Prop:=
 ∀g s vs,Sat X g σ s->Frm X env m g σ s->RepL g l vs->wpAny (model P0 X.w) A (assignInOrder ((assignEach targets env).map (·.2)) vs) (PostU X P env g σ s Q) E s
end
abbrev wm{τ:Type}(J:Mp->List Stmt->τ->(AFl->Mp->τ->Prop)->Prop)(r:List Stmt)(Q:AFl->Mp->τ->Prop)(F:AFl)(m:Mp)(σ:τ):Prop:=match F with|.next=>J m r σ Q|F=>Q F m σ
abbrev JP(m:Mp)(Q:AFl->Mp->St->Prop)(V:AV)(σ:St):Prop:=Q (.ret V) m σ
abbrev Vi{α:Type}(m:Mp)(Q:AFl->Mp->St->Prop)(V:α)(σ:St):Prop:=Q .next m σ
abbrev QK(m:Mp)(Q:AFl->Mp->St->Prop)(c:Bool)(σ:St):Prop:=c=true/\Q .next m σ
abbrev Yi(Q:AFl->Mp->St->Prop)(m:Mp)(σ:St):Prop:=Q .next m σ
abbrev Yh(J:AV->St->(Mp->St->Prop)->Prop)(Q:AFl->Mp->St->Prop)(V:AV)(σ:St):Prop:=J V σ (Yi Q)
abbrev Wv(J:Mp->List Expr->List AV->St->(Mp->St->Prop)->Prop)(ts:List Expr)(l:List AV)(Q:Mp->St->Prop)(m:Mp)(σ:St):Prop:=J m ts l σ Q
abbrev Wu(m:Mp)(x:Str)(Q:AFl->Mp->St->Prop)(Z:AV)(σ:St):Prop:=Q .next (m.upd x Z) σ
abbrev jR(Q:AP)(F:AFl)(_:Mp)(σ:St):Prop:=match F with|.ret V=>Q V σ|.next=>Q .none σ|_=>False
section
variable {X:Cx} {A:Around} {E:Value->Shared->Prop} {P:Pv} {env:Env} {m:Mp} {σ:St} {Q:AFl->Mp->St->Prop}
theorem PostX.after{f}(G:Go X P g σ s g' ab s')(h:PostX X P env g' ab s' Q f aU):PostX X P env g σ s Q f aU:=
 h.rec λb8 F m' nz G' D6 r q=>⟨b8,F,m',nz,G.trans G',D6,r,q⟩
theorem PostU.after{g g':View}{ab:St}{s s' aU:Shared}{Q:Mp->St->Prop}{f}(G:Go X P g σ s g' ab s')(h:PostU X P env g' ab s' Q f aU):PostU X P env g σ s Q f aU:=
 h.rec λb8 m' nz G' D6 q=>⟨b8,m',nz,G.trans G',D6,q⟩
theorem GL(S:Sat X g σ s)(F:Frm X env m g σ s)(r:Rep g V v)(hk:env.kindOf x=some .local)(hP:P.a env.locals)
  (h:∀s',Go X P g σ s g σ s'->Frm X env (m.upd x V) g σ s'->R () s'):wpAny (model P0 X.w) A (storeName env x v) R E s:=by
 refine ax F.ns λmC hn hv=>?_;refine wpAny_storeName_local hk hn (λh' eO dM=>h _ (Go.sameBut S dM F.free hP) ⟨F.kind,F.free,(aE _ eO (λy W hm hy=>?_)),λy c hl hy hf=>?_,λy W hm=>?_,F.inj,λy c hl=>?_,F.own⟩) (by refine aaE F.kind ?_;rfl)
 ·unfold Mp.upd at hm
  by_cases q:y=x
  ·rw[aA q]at hm;(refine aaE (aq (bq hm)) ?_);exact(aE v (by exact aaE (aA q) rfl) r)
  ·rw[ar q]at hm;refine ax (hv y W hm hy) λu e r'=>?_;exact(aE u (by exact aaE (ar q)<|e) r')
 ·refine fJ (F.cells y c hl hy hf) λbR u hi hr=>?_
  refine(dP bR u (hi.sameBut dM bR) (λW hm=>hr W ?_));unfold Mp.upd at hm
  by_cases q:y=x
  ·clear h eO hm;subst q;rw[hk]at hy;rcases hy with hy|hy<;>cases hy
  ·rwa [ar q]at hm
 ·unfold Mp.upd at hm
  by_cases q:y=x
  ·clear h eO hm;subst q;exact .inl hk
  ·rw[ar q]at hm;exact F.var y W hm
 ·obtain⟨o,e⟩:=F.csz y c hl
  by_cases q:c=env.locals
  ·clear hl e;refine aaE q<|mU eO λo' z z e' z=>?_;exact⟨o',e'⟩
  ·exact⟨o,(dM.2 c q).trans e⟩
theorem BY(S:Sat X g σ s)(F:Frm X env m g σ s)(r:Rep g V v)(hk:env.kindOf x=some .cell)
  (hl:env.cells.lookup x=some c)(hf:Free X g σ c)(hP:P.a c)
  (h:∀s',Go X P g σ s g σ s'->Frm X env (m.upd x V) g σ s'->R () s'):wpAny (model P0 X.w) A (storeName env x v) R E s:=by
 refine ax F.ns λmC hn hv=>?_;refine fJ (F.cells x c hl (.inl hk) hf) λbR aak hi z=>?_;refine wpAny_storeName_cell F.kind hk hl hi λh' gz dM=>h _ (Go.sameBut S dM hf hP) ⟨F.kind,F.free,(aE mC (hn.sameBut dM (jf bR)) (λy W hm hy=>?_)),λy d hd hy eH=>?_,λy W hm=>?_,F.inj,λy d hd=>?_,F.own⟩
 ·unfold Mp.upd at hm
  by_cases q:y=x
  ·clear hl h hm;subst q;rw[hk]at hy;cases hy
  ·rw[ar q]at hm;exact hv y W hm hy
 ·by_cases q:y=x
  ·clear hk h;subst q
   rw[hl]at hd;(first|exact be hd|exact bZ hd|exact gy hd|exact gN hd|(clear eH;obtain rfl:=bq hd)|subst hd|cases hd);refine(dP bR _ gz (λW hm=>(aE v rfl ?_)));unfold Mp.upd at hm;rw[aA rfl]at hm;(refine aaE (aq (bq hm)) ?_);exact r
  ·refine fJ (F.cells y d hd hy eH) λDD u WV hr=>?_
   have oB:d≠c:=λe=>q (name_of_addr F.inj (mem_of_lookup hd) (e▸mem_of_lookup hl));refine(dP DD u (WV.sameBut dM oB) (λW hm=>hr W ?_));unfold Mp.upd at hm
   rwa [ar q]at hm
 ·unfold Mp.upd at hm
  by_cases q:y=x
  ·clear h hm;subst q;exact .inr (dP (.inl hk) c hl hf)
  ·rw[ar q]at hm;exact F.var y W hm
 ·obtain⟨o,e⟩:=F.csz y d hd
  by_cases q:d=c
  ·clear hl hf hP bR hi dM;refine aaE q<|ax gz λo' e' z=>?_;exact⟨o',e'⟩
  ·exact⟨o,(dM.2 d q).trans e⟩
theorem BL{x:Str}{V:AV}{pos}{Q:Mp->St->Prop}(hk:env.kindOf x=some .local)(hP:P.a env.locals)(h:Q (m.upd x V) σ):As X A E P env m (.Name x pos) V σ Q:=λg s v S F r=>by
 show wpAny _ _ (do standAt pos;bindName env x v) _ _ _;exact ag (d7 (wpAny_bindName (GL S F r hk hP λs' G F'=>⟨g,_,σ,G,F',h⟩)))
theorem aQ{x:Str}{V:AV}{pos}{Q:Mp->St->Prop}(h:Q (m.upd x V) σ)(hk:env.kindOf x=some .local:=by rfl)(hP:P.a env.locals:=by exact⟨bC _,.inl rfl⟩):As X A E P env m (.Name x pos) V σ Q:=BL hk hP h
theorem lZ{x:Str}{V:AV}{pos}{c:Addr}{Q:Mp->St->Prop}(hk:env.kindOf x=some .cell)(hx:x≠"names")(hl:env.cells.lookup x=some c)(hP:P.a c)(h:Q (m.upd x V) σ):
  As X A E P env m (.Name x pos) V σ Q:=λg s v S F r=>by
 show wpAny _ _ (do standAt pos;bindName env x v) _ _ _;exact ag (d7 (wpAny_bindName (BY S F r hk hl (F.own x c hk hx hl) hP λs' G F'=>⟨g,_,σ,G,F',h⟩)))
theorem eS{Q:Mp->St->Prop}(h:Q m σ):zQ X A E P env m [] [] σ Q:=λg s vs S F r=>by
 exact assignInOrder_nil ⟨g,m,σ,.refl S,F,h⟩
theorem bG{t:Expr}{ts:List Expr}{V:AV}{l:List AV}{Q:Mp->St->Prop}(h:As X A E P env m t V σ (Wv (zQ X A E P env) ts l Q))(ht:assignEach (t::ts) env=(false,assign t env)::assignEach ts env:=by rfl):
  zQ X A E P env m (t::ts) (V::l) σ Q:=λg s vs S F r=>by
 refine az λkk=>?_;obtain⟨v,us,rfl,aX,dJ⟩:=r;exact kk<|aaE ht<|assignInOrder_cons (aB (h g s v S F aX) (λx s₁ zz=>zz.rec λaJ m₁ ay ai fh aF=>aB (aF aJ s₁ us ai.sat fh (dJ.le ai.le)) (λx s₂ bA=>bA.after ai) i2) i2)
theorem GN(x:SeqAt g "tuple" a vs)(k:g.In h):IsTup h a vs.toArray:=let ⟨o,n,e,hc,hd⟩:=x;(kY o (k a o e) hc n hd)
theorem gY(x:SeqAt g "list" a vs)(k:g.In h):h.IsList a vs.toArray:=let ⟨o,n,e,hc,hd⟩:=x;(kY o (k a o e) hc n hd)
theorem Fu(k:Heap.ExtBut h.objs.size h h'):∀b o,h.get? b=some o->h'.get? b=some o:=λb o e=>k b o (kP (cC e)) e
theorem eR{ts:List Expr}{l:List AV}{k pos}{Q:Mp->St->Prop}(hh:A.handled=none)(hn:(assignEach ts env).length=l.length)(hs:(assignEach ts env).findIdx? (·.1)=none)(h:zQ X A E P env m ts l σ Q):
  As X A E P env m (.Tuple ts k pos) (.tup l) σ Q:=λg s v S F r=>by
 refine az λkk=>?_;obtain⟨a,vs,rfl,WW,r⟩:=r;refine kk<|assign_Tuple_tuple hh (GN WW S.in_) (by(exact aaE hn<|aaE f3<|aaE r.length rfl)) hs λh' he=>?_;have G:Go X P g σ s g σ {s with heap:=h'}:=Go.keeps S (Fu he);have G':Go X aL g σ s g σ {s with heap:=h'}:=Go.keeps S (Fu he);exact aB (h g _ vs G.sat (F.go G') r) (λx s₂ bA=>bA.after G) i2
theorem bw(h:Q .next m σ):Exs X A E P env m [] σ Q:=λg s S F=>wpAny_execs_nil ⟨g,.next,m,σ,.refl S,F,rfl,h⟩
theorem aw{st:Stmt}{rest:List Stmt}(h:Ex X A E P env m st σ (wm (Exs X A E P env) rest Q)):Exs X A E P env m (st::rest) σ Q:=λg s S F=>
 AZ (aB (h g s S F) (λf s₁ zz=>zz.rec λaJ Fl m₁ ay ai fh aX aF=>by
  cases Fl with
  |next=>subst aX;exact aB (aF aJ s₁ ai.sat fh) (λf s₂ bA=>bA.after ai) i2
  |brk=>subst aX;exact⟨aJ,.brk,m₁,ay,ai,fh,rfl,aF⟩
  |cont=>subst aX;exact⟨aJ,.cont,m₁,ay,ai,fh,rfl,aF⟩
  |ret V=>refine ax aX λv bN r=>?_;clear zz aX;exact aaE bN<|⟨aJ,.ret V,m₁,ay,ai,fh,(aE v rfl r),aF⟩) i2)
theorem cD{pos}(h:Ev X A E env m e σ (JP m Q)):Ex X A E P env m (.Return (some e) pos) σ Q:=λg s S F=>
 wpAny_Return_some (aB (h g s S F) (λv s₁ zz=>zz.rec λaJ V ay ai aX aF=>⟨aJ,.ret V,m,ay,ai.any,F.go ai,(aE v rfl aX),aF⟩) i2)
theorem FV{pos}(h:Q (.ret .none) m σ):Ex X A E P env m (.Return none pos) σ Q:=λg s S F=>
 wpAny_Return_none ⟨g,.ret .none,m,σ,.refl S,F,(aE .none rfl (by exact rfl)),h⟩
theorem bp{pos}(h:EvB X A E env m t σ (zO (Exs X A E P env m) a b Q)):Ex X A E P env m (.If t a b pos) σ Q:=λg s S F=>
 wpAny_If (aB (h g s S F) (λc s₁ zz=>zz.rec λaJ ay ai aF=>by
  clear zz;cases c
  ·exact aB (aF aJ s₁ ai.sat (F.go ai)) (λf s₂ bA=>bA.after ai.any) i2
  ·exact aB (aF aJ s₁ ai.sat (F.go ai)) (λf s₂ bA=>bA.after ai.any) i2) i2)
theorem O2{msg pos}(h:EvB X A E env m t σ (QK m Q)):Ex X A E P env m (.Assert t msg pos) σ Q:=λg s S F=>
 wpAny_Assert_holds (aB (h g s S F) (λc s₁ zz=>zz.rec λaJ ay ai aR=>bY aR λaF bA=>⟨aF,aJ,.next,m,ay,ai.any,F.go ai,rfl,bA⟩) i2)
theorem gD{pos}(h:Ev X A E env m e σ (Vi m Q))(hi:interactive env=false:=by rfl)(hs:swapsWith e none pos.line env=pure false:=by rfl):Ex X A E P env m (.Expr e pos) σ Q:=λg s S F=>by
 refine aaE (exec_Expr (env:=env) e pos hi hs)<|ag (d7 (ag (aB (h g s S F) (λv s₁ zz=>zz.rec λaJ V ay ai aX aF=>?_) i2)));have fin:PostX X P env g σ s Q .next s₁:=⟨aJ,.next,m,ay,ai.any,F.go ai,rfl,aF⟩
 exact wpAny_dropValue fin
theorem bE{pos}(h:Ev X A E env m value σ (Yh (As X A E P env m t) Q))
  (hs:swapsWithSole [t] value pos.line env=pure false:=by rfl)(hw:swappedStores [t] value env=pure none:=by rfl)(he:assignEach [t] env=[(false,assign t env)]:=by rfl):
  Ex X A E P env m (.Assign [t] value pos) σ Q:=λg s S F=>by
 refine aaE (exec_Assign ..)<|ag (d7 ?_);refine aaE hs<|ag (aO ?_);refine aaE (ar (by decide))<|ag (aB (h g s S F) (λv s₁ zz=>zz.rec λaJ V ay ai aX aF=>?_) i2)
 (refine aaE hw<|aaE he ?_)
 refine ag (aO ?_);show wpAny _ A (do assignAll v [assign t env];pure Flow.next) _ E s₁;exact ag (aB (aF aJ s₁ v ai.sat (F.go ai) aX) (λx s₂ zz=>zz.rec λbj m₂ aS aN jK bA=>aO ⟨bj,.next,m₂,aS,ai.any.trans aN,jK,rfl,bA⟩) i2)
theorem RB{op value pos npos}(hm:m x=some V)(h:Ev X A E env m value σ (LM (cU X A E (inplaceOp op)) (Wu m x Q) V))
  (hst:∀{V:AV} {ab:St} {g:View} {s:Shared} {v:Value} {R:Unit->Shared->Prop},Sat X g ab s->Frm X env m g ab s->Rep g V v->(∀s',Go X P g ab s g ab s'->Frm X env (m.upd x V) g ab s'->R () s')->wpAny (model P0 X.w) A (storeName env x v) R E s)
  (hd:(x==("__debug__":Str))=false)(hc:(x==("__classdict__":Str))=false):
  Ex X A E P env m (.AugAssign (.Name x npos) op value pos) σ Q:=λg s S F=>by
 refine wpAny_AugAssign_Name ?_
 have ld:∀{R:VP},(∀v,Rep g V v->R v s)->wpAny (model P0 X.w) A (loadName env x) R E s:=λ{R} hR=>by
  refine az λkk=>?_;rcases F.var x V hm with hk|⟨hk,c,hl,hf⟩
  ·refine ax F.ns λmC hn hv=>?_
   refine ax (hv x V hm hk) λv e r=>?_;exact kk<|wpAny_loadName_local F.kind hk hn e (hR v r)
  ·refine fJ (F.cells x c hl hk hf) λy v hi hr=>?_
   refine ax (hr V hm) λu cI r=>?_;clear hr;subst cI;rcases hk with hk|hk
   ·exact kk<|wpAny_loadName_cell F.kind hk hl hi (hR u r)
   ·exact kk<|Fd F.kind hk hl hi (hR u r) hc
 refine ld λold WX=>?_
 exact aB (h g s S F) (λv s₁ zz=>zz.rec λaJ W ay ai aX aF=>aB (aF aJ s₁ old v ai.sat (WX.le ai.le) aX) (λz s₂ zz=>zz.rec λbj Z aS aN dJ bA=>
  hst aN.sat (F.go (ai.trans aN)) dJ λs' bL eN=>⟨bj,.next,_,aS,(ai.trans aN).any.trans bL,eN,rfl,bA⟩) i2) i2
end
structure Room(A:Around)(k:Nat):Prop where
 handled:A.handled=none
 depth:A.depth+k<recursionLimit
 units:A.units+40*(k+1)<cLine
theorem Room.mono(h:Room A k)(hj:j<=k):Room A j:=⟨h.handled,dw (cK hj _) h.depth,by have:=h.units;exact Uh hj this⟩
theorem Room.mo(h:Room A k)(hj:j<=k:=by first|exact lb rfl|lia):Room A j:=h.mono hj
theorem Room.deeper(h:Room A (k+1)):Room (A.deeper env) k:=⟨h.handled,by have:=h.depth;exact TY this,by have:=h.units;exact UB this⟩
def CallOk(X:Cx)(k:Nat)(f:AV)(l:List AV)(σ:St)(Q:AP):Prop:=
 ∀A g s fv vs,Room A k->Sat X g σ s->Rep g f fv->RepL g l vs->codeAny (model P0 X.w) A (.call fv ⟨vs,[]⟩) (λr s'=>∃v,r=.ok (.ret v)/\Post X aL g σ s Q v s') s
theorem CallOk.deep{f l σ}(h:CallOk X k f l σ Q)(hj:k<=j):CallOk X j f l σ Q:=λA g s fv vs a b c d=>h A g s fv vs (a.mono hj) b c d
structure FnAt(X:Cx)(a:Addr)(fd:FuncData)(body:List Stmt):Prop where
 at_:∃o,X.B a=some o/\o.data=.func fd
 code:∃c o vs t,fd.code=.ref c/\X.B c=some o/\o.data=.fields vs/\vs[1]?=some (.str fd.qualname t)
 lim:∃o,X.B cStatics=some o/\∀h:Heap,h.get? cStatics=some o->h.NoLimit
 body:fd.body=.stmts body
theorem FnAt.obj{a fd body}(F:FnAt X a fd body)(S:Sat X g σ s):∃o,s.heap.get? a=some o/\o.data=.func fd:=ax (F.at_) λo e d=>(aE o (S.in_ a o (S.le a o e)) d)
theorem FnAt.cdRec{a fd body}(F:FnAt X a fd body)(S:Sat X g σ s):s.heap.CodeRec fd.code fd.qualname:=yB F.code λc o vs t e q=>bY q λb r=>(vn c o vs t e (S.in_ c o (S.le c o b)) r)
theorem FnAt.noLimit{a fd body}(F:FnAt X a fd body)(S:Sat X g σ s):s.heap.NoLimit:=ax (F.lim) λo b r=>r _ (S.in_ _ o (S.le _ o b))
noncomputable abbrev aC:VP:=λx x=>False
noncomputable def g8:List Str->List AV->Mp->Mp
 |x::xs,V::Vs,m=>g8 xs Vs (m.upd x V)
 |_,_,m=>m
theorem dG(S:Sat X g σ s)(h:s.heap.objs.size<=a):Free X g σ a:=by
 have hn:s.heap.get? a=none:=by
  cases e:s.heap.get? a with
  |none=>rfl
  |some o=>exact absurd (cC e) (j0.mpr h)
 refine⟨View.none_of S.in_ hn,?_,λp hp e=>?_⟩
 ·cases e:σ a with
  |none=>rfl
  |some t=>obtain⟨o,ho⟩:=(S.trk a t e).2.at;rw[hn]at ho;exact be ho
 ·refine iE (S.tab p hp) λx x x ps ic=>?_
  refine ax (vf ic) λo ho x=>?_;rw[e,hn]at ho;exact be ho
theorem uK:∀(names:List (Str×NameKind)) (n:Nat) (acc:List (Str×Addr)),acc.lookup x=some c->∃c',(cellsFrom n names acc).lookup x=some c'
 |[],_,_,h=>⟨c,h⟩
 |(y,k)::r,n,acc,h=>by
  unfold cellsFrom
  split
  ·by_cases q:x=y
   ·exact uK (c:=n) r (n+1) _ (by refine aaE cL ?_;simp[q])
   ·exact uK r (n+1) _ (by exact aaE cL<|aaE (uD q)<|h)
  ·exact uK r n acc h
theorem nU:∀(names:List (Str×NameKind)) (n:Nat) (acc:List (Str×Addr)),names.lookup x=some .cell->∃c,(cellsFrom n names acc).lookup x=some c
 |[],_,_,h=>by cases h
 |(y,k)::r,n,acc,h=>by
  rw[cL]at h;unfold cellsFrom
  by_cases q:x=y
  ·subst q
   simp at h;exact aaE h<|aaE (aA rfl)<|uK (c:=n) r (n+1) _ (by refine aaE cL ?_;simp)
  ·rw[uD q]at h
   split
   ·exact nU r _ _ h
   ·exact nU r _ _ h
structure BindInv(kindOf:Str->Option NameKind)(g:View)(m:Mp)(mL mC:Str->Option Value):Prop where
 loc:∀x V,m x=some V->kindOf x=some .local->∃v,mL x=some v/\Rep g V v
 cell:∀x V,m x=some V->kindOf x≠some .local->∃v,mC x=some v/\Rep g V v
theorem Hk{kindOf:Str->Option NameKind}{g:View}:∀{xs:List Str} {l:List AV} {vs:List Value} {m:Mp} {mL mC},RepL g l vs->BindInv kindOf g m mL mC->
  BindInv kindOf g (g8 xs l m) (bindL kindOf (xs.zip vs) mL) (bindC kindOf (xs.zip vs) mC)
 |[],l,vs,m,mL,mC,r,h=>by(first|exact be l|exact bZ l|exact gy l|exact gN l|(clear r;refine aaE (bq l) ?_)|clear r;subst l|clear r;cases l)<;>exact h
 |x::xs,[],vs,m,mL,mC,r,h=>by obtain rfl:=r;exact h
 |x::xs,V::l,vs,m,mL,mC,r,h=>by
  refine cP r λv us ba p q=>?_;clear r;refine aaE ba ?_;show BindInv kindOf g (g8 xs l (m.upd x V)) (bindL kindOf ((x,v)::xs.zip us) mL) (bindC kindOf ((x,v)::xs.zip us) mC);unfold bindL bindC;refine Hk q ⟨λy W hm hk=>?_,λy W hm hk=>?_⟩
  ·refine az λkk=>?_
   unfold Mp.upd at hm
   by_cases e:y=x
   ·subst e;rw[aA rfl]at hm;obtain rfl:=bq hm
    exact kk<|aaE (aA hk)<|⟨v,by simp,p⟩
   ·rw[ar e]at hm
    refine ax (h.loc y W hm hk) λu e1 e2=>?_;refine kk ?_
    split
    ·exact⟨u,by simp[e,e1],e2⟩
    ·exact⟨u,e1,e2⟩
  ·refine az λkk=>?_
   unfold Mp.upd at hm
   by_cases e:y=x
   ·subst e;rw[aA rfl]at hm;obtain rfl:=bq hm
    exact kk<|aaE (ar hk)<|⟨v,by simp,p⟩
   ·rw[ar e]at hm
    refine ax (h.cell y W hm hk) λu e1 e2=>?_;refine kk ?_
    split
    ·exact⟨u,e1,e2⟩
    ·exact⟨u,by simp[e,e1],e2⟩
theorem Gj:∀{xs:List Str} {l:List AV} {m:Mp} {x:Str} {V:AV},g8 xs l m x=some V->x∈xs∨m x=some V
 |[],l,m,x,V,h=>by cases l<;>exact .inr h
 |y::xs,[],m,x,V,h=>.inr h
 |y::xs,W::l,m,x,V,h=>by
  rcases Gj (xs:=xs) (l:=l) (m:=m.upd y W) h with h|h
  ·exact .inl (cj _ h)
  ·unfold Mp.upd at h
   by_cases e:x=y
   ·exact .inl (e▸cV)
   ·rw[ar e]at h;exact .inr h
theorem qD{X:Cx}{g:View}{σ:St}{aj s:Shared}{fd:FuncData}{a:Addr}{xs:List Str}{l:List AV}{vs:List Value}
  (S:Sat X g σ aj)(r:RepL g l vs)(hk:fd.scope.kind=.function)
  (hx:xs.all (λx=>fd.scope.names.lookup x==some .local||fd.scope.names.lookup x==some .cell)=true)
  (x:InCallC aj (callEnvC fd aj.heap.objs.size a).locals (bindL (callEnvC fd aj.heap.objs.size a).kindOf (xs.zip vs) λz=>none) (callEnvC fd aj.heap.objs.size a).cells
   (bindC (callEnvC fd aj.heap.objs.size a).kindOf (xs.zip vs) λz=>none) s):
  Frm X (callEnvC fd aj.heap.objs.size a) (g8 xs l Mp.nil) g σ s:=by
 have B:=Hk (kindOf:=(callEnvC fd aj.heap.objs.size a).kindOf) (g:=g) (m:=Mp.nil) (mL:=λz=>none) (mC:=λz=>none) (xs:=xs) r ⟨λy W hm=>(by exact be hm),λy W hm=>(by exact be hm)⟩;have dK:∀y c,(callEnvC fd aj.heap.objs.size a).cells.lookup y=some c->aj.heap.objs.size<c:=λy c hc=>x.above y c (mem_of_lookup hc)
 refine⟨hk,dG S (bC _),(aE _ x.toInCall.ns B.loc),λy c hc pY hf=>(dP (qE (dK y c hc)) _ (x.cell y c hc) (λV hm=>?_)),λy V hm=>?_,x.apart,λy c hc=>ax (x.cell y c hc) λo e z=>⟨o,e⟩,
  λy c z z hc=>dG S (dS (dK y c hc))⟩
 ·refine ax (B.cell y V hm (by rcases pY with q|q<;>refine aaE q ?_<;>decide)) λv e p=>?_
  exact(aE v e p)
 ·refine az λkk=>?_
  rcases Gj hm with h|h
  ·have:=nR.mp hx y h
   rw[qy,cM,cM]at this;rcases this with q|q
   ·exact kk<|.inl q
   ·obtain⟨c,hc⟩:=nU fd.scope.names (aj.heap.objs.size+1) [] q
    exact kk<|.inr (dP (.inl q) c hc (dG S (dS (dK y c hc))))
  ·exact be h
theorem qM{m cs cm}(S:Sat X g σ aj)(x:InCallC aj L m cs cm s):Go X P g σ aj g σ s:=by
 refine bk x.toInCall.same λh tk e=>?_;have k:=x.toInCall.keep;clear x;subst e;exact Go.keeps S k
noncomputable def bg(N:Addr)(env:Env):Pv:=⟨λb=>N<=b/\(b=env.locals∨∃x,env.cells.lookup x=some b),λy=>False⟩
theorem pj(h:aj.heap.objs.size<=N):(bg N env).Le aj P:=
 ⟨λb o e h'=>absurd (cC e) (j0.mpr (ae h h'.1)),λx x h=>h.elim⟩
theorem dQ(F:FnAt X a fd body)(xs:List Str)
  (jI:∀g s vs,Sat X g σ s->RepL g l vs->∃dz,RepL g l' dz/\BindsTo s fd ⟨vs,[]⟩ (xs.zip dz))
  (hx:xs.all (λx=>fd.scope.names.lookup x==some .local||fd.scope.names.lookup x==some .cell)=true)
  (h:∀A L,Room A k->Exs X A (aC) (bg L (callEnvC fd L a)) (callEnvC fd L a) (g8 xs l' Mp.nil) body σ (jR Q))
  (hclo:fd.closure=[]:=by rfl)(hco:fd.scope.isCoroutine=false:=by rfl)(hgen:fd.scope.isGenerator=false:=by rfl)(hk:fd.scope.kind=.function:=by rfl):
  CallOk X (k+1) (.ref a) l σ Q:=λA g s fv vs hA S hf r=>by
 refine aaE hf<|ax (F.obj S) λo ho hd=>?_;refine ax (jI g s vs S r) λdz r' hb=>?_;refine Ay (by have:=hA.depth;exact wk this) ho hd hco hgen F.body (F.cdRec S) (hb _ _ _ _ ?_);refine aaE hclo<|r5 hk (λy hy=>?_) λenv he s' x=>?_
 ·have hm:=(uE hy).1
  have:=nR.mp hx y.1 hm;rw[qy,cM,cM]at this;rcases this with q|q
  ·exact .inl q
  ·exact .inr ⟨q,du (nU fd.scope.names (s.heap.objs.size+1) [] q) λc hc=>by refine aaE hc ?_;rfl⟩
 ·have fX:env=callEnvC fd s.heap.objs.size a:=he
  clear he;subst fX;have Fr:=qD (a:=a) S r' hk hx x;have G:=qM S x (P:=aL);refine⟨(F.noLimit S).keeps x.toInCall.keep,codeAny_func (aB (h (A.deeper _) s.heap.objs.size (Room.deeper hA) g s' G.sat Fr) (λf aU zz=>zz.rec λg' Fl m' ab G' _ rf q=>?_) λ_ _ x=>x.elim)⟩;have dX:Go X aL g σ s g' ab aU:=Go.weaken (Go.trans (G.any) G') (pj (bC _))
  cases Fl with
  |next=>(first|exact be rf|exact bZ rf|exact gy rf|exact gN rf|(refine aaE (aq (bq rf)) ?_)|clear zz;subst rf|cases rf);exact(aE _ rfl ⟨g',.none,ab,dX,by exact rfl,q⟩)
  |ret V=>refine ax rf λv bh rv=>?_;clear zz rf;exact aaE bh<|(aE v rfl ⟨g',V,ab,dX,rv,q⟩)
  |brk=>exact q.elim
  |cont=>exact q.elim
theorem c7(xs:List Str)(h:∀vs:List Value,vs.length=l.length->bindArgs fd ⟨vs,[]⟩=pure (xs.zip vs)):
  ∀g s vs,Sat X g σ s->RepL g l vs->∃dz,RepL g l dz/\BindsTo s fd ⟨vs,[]⟩ (xs.zip dz):=λg s vs S r=>(aE vs r (BindsTo.of_eq (h vs r.length)))
def fy(X:Cx)(A:Around)(E:VP)(f:AV)(l:List AV)(σ:St)(Q:AP):Prop:=
 ∀g s fv vs,Sat X g σ s->Rep g f fv->RepL g l vs->wpAny (model P0 X.w) A (call fv vs []) (Post X aL g σ s Q) E s
noncomputable def cQ(X:Cx)(σ:St):AV->Prop
 |.ref a=>(∃o fd,(X.B a=some o∨σ a=some (.obj o))/\o.data=.func fd)∨∃K:Frag,(∀h:Heap,X.B.In h->K.In h)/\keepIn K (.ref a)=true
 |.blt _=>True
 |.typ _=>True
 |_=>False
theorem FnAt.keep{a fd body}(F:FnAt X a fd body):cQ X σ (.ref a):=ax (F.at_) λo e d=>.inl (ey o fd (.inl e) d)
abbrev Yl{κ:Type}(X:Cx)(R:AV->List AV->St->κ->Prop)(Q:κ)(F:AV)(l:List AV)(σ:St):Prop:=cQ X σ F/\R F l σ Q
abbrev DS{κ:Type}(X:Cx)(J:St->(List AV->St->Prop)->Prop)(R:AV->List AV->St->κ->Prop)(Q:κ)(F:AV)(σ:St):Prop:=J σ (Yl X R Q F)
abbrev Yn{κ:Type}(X:Cx)(R:AV->List AV->St->κ->Prop)(Q:κ)(V F:AV)(l:List AV)(σ:St):Prop:=cQ X σ F/\R F (V::l) σ Q
abbrev Yk{κ:Type}(X:Cx)(J:St->(List AV->St->Prop)->Prop)(R:AV->List AV->St->κ->Prop)(Q:κ)(V F:AV)(σ:St):Prop:=J σ (Yn X R Q V F)
abbrev Yj{κ:Type}(X:Cx)(M:AV->St->AP->Prop)(J:St->(List AV->St->Prop)->Prop)(R:AV->List AV->St->κ->Prop)(Q:κ)(V:AV)(σ:St):Prop:=M V σ (Yk X J R Q V)
section
variable {X:Cx} {A:Around} {E:Value->Shared->Prop} {env:Env} {m:Mp} {σ:St} {Q:AV->St->Prop}
theorem bc(h:CallOk X k f l σ Q)(hA:Room A k):fy X A E f l σ Q:=λg s fv vs S r rl=>
 sC (gU (h A g s fv vs hA S r rl) λx x aR=>ax aR λv e p=>by clear aR;exact aaE e<|p)
theorem xQ(r:Rep g f fv)(bP:args.any (·.1)=false)
  (h:wpAny (model P0 X.w) A (evalArgs fv true args []) (λa s₁=>(∃aJ ay,Sat X aJ ay s₁/\cQ X ay f)/\wpAny (model P0 X.w) A (call fv (first++a.pos) a.kw) R E s₁) E s):
  wpAny (model P0 X.w) A (callWith pos fv first args []) R E s:=by
 refine callWith_of (P:=λh=>∃k,(k=Keeper.frame∨k=Keeper.machine∨k=Keeper.boundFrame)/\Looks (model P0 X.w) h (keeperOf fv) k) (by refine aaE bP ?_;rfl) (λ_ x=>x) (aB h (λa s₁ ⟨⟨aJ,ay,S,K⟩,c⟩=>⟨?_,c⟩) i2)
 cases f with
 |ref a=>
  clear c h;refine aaE r ?_;rcases K with ⟨o,fd,e,d⟩|⟨Kf,hK,hk⟩
  case inr=>
   obtain⟨k,h1,h2⟩:=looks_keep hk (hK _ (S.in_.le S.le));exact(aE k (h1.elim .inl λq=>.inr (.inl q)) h2)
  have ho:s₁.heap.get? a=some o:=by
   rcases e with e|e
   ·exact S.in_ a o (S.le a o e)
   ·exact(S.trk a _ e).2
  obtain⟨c0,d0,dt,sl⟩:=o;clear e;subst d;exact(aE .frame (.inl rfl) ((Looks.ld (part:=none) ho).andThen .now))
 |blt n=>clear c h;obtain rfl:=r;exact(aE .machine (.inr (.inl rfl)) .now)
 |typ n=>clear c h;exact aaE r<|(aE .machine (.inr (.inl rfl)) .now)
 |none=>exact K.elim
 |bool _=>exact K.elim
 |int _=>exact K.elim
 |str _=>exact K.elim
 |bytes _=>exact K.elim
 |tup _=>exact K.elim
 |lst _=>exact K.elim
 |slc _ _=>exact K.elim
 |rng _ _ _=>exact K.elim
theorem sv:∀{l:List (Bool×Sem Value)},(backTo pos l).any (·.1)=l.any (·.1)
 |[]=>rfl
 |x::r=>by
  have ih:=sv (pos:=pos) (l:=r);cases r<;>first|rfl|(show(x.1||_)=(x.1||_);refine aaE (aq ih) ?_;rfl)
theorem Gl(S:Sat X g σ s)(F:Frm X env m g σ s)(r:Rep g f fv)(rf:RepL g first fvs)
  (h:iR X A E env m args pos σ λl aS=>cQ X aS f/\fy X A E f (first++l) aS Q)
  (hst:(starEach args env).all (λx=> !x.1)=true):wpAny (model P0 X.w) A (callWith pos fv fvs (backTo pos (starEach args env)) []) (Post X aL g σ s Q) E s:=by
 have bP:(backTo pos (starEach args env)).any (·.1)=false:=by
  (refine aaE sv<|aaE xo ?_);simp only[hst];rfl
 refine xQ (args:=backTo pos (starEach args env)) r bP ?_
 have fin:wpAny (model P0 X.w) A (spliced (backTo pos (starEach args env))) (λvs s₁=>(∃aJ ay,Sat X aJ ay s₁/\cQ X ay f)/\wpAny (model P0 X.w) A (call fv (fvs++vs) []) (Post X aL g σ s Q) E s₁) E s:=
  aB (h g s S F) (λvs s₁ zz=>zz.rec λaJ l ay ai aX bN=>bY bN λK c=>⟨⟨aJ,ay,ai.sat,K⟩,aB (c aJ s₁ fv (fvs++vs) ai.sat (r.le ai.le) ((rf.le ai.le).append aX)) (λy y x=>x.after ai) i2⟩) i2
 cases hl:backTo pos (starEach args env)with
 |nil=>
  rw[hl]at fin;unfold evalArgs;refine ag (aB fin (λvs s₁ aF=>ag (aO ?_)) i2);exact eL<|ag (aO (ag (aO (aO aF))))
 |cons x rest=>
  obtain⟨b,t⟩:=x;rw[hl]at fin bP
  have:b=false:=by
   clear fin hl;cases b
   ·rfl
   ·simp at bP
  clear bP hl;subst this;exact uv fin
theorem aV(h:Ev X A E env m fe σ (DS X (iR X A E env m args pos) (fy X A E) Q))
  (he:eval (.Call fe args [] pos) env=(do callWith pos (←eval fe env) [] (backTo pos (starEach args env)) (backToKw pos (keywordEach [] env))):=by rfl)
  (hst:(starEach args env).all (λx=> !x.1)=true:=by rfl):Ev X A E env m (.Call fe args [] pos) σ Q:=λg s S F=>
 Call_ (aB (h g s S F) (λfv s₁ zz=>zz.rec λaJ f ay ai aX aF=>aB (Gl (first:=[]) (fvs:=[]) ai.sat (F.go ai) aX .nil aF hst) (λy y x=>x.after ai) i2) i2) he
def pz(X:Cx)(A:Around)(E:VP)(name:Str)(V:AV)(σ:St)(Q:AP):Prop:=
 ∀g s v pl,Sat X g σ s->Rep g V v->wpAny (model P0 X.w) A (getMethod v name pl) (λfx s'=>∃g' f ab,Go X aL g σ s g' ab s'/\Rep g' f fx.1/\fx.2=[v]/\Q f ab) E s
theorem fT
  (h:Ev X A E env m o σ (Yj X (pz X A E name) (iR X A E env m args pos) (fy X A E) Q))
  (he:eval (.Call (.Attribute o name apos) args [] pos) env=(do
   let ov ←eval o env
   standAt apos.atName
   let (f,first) ←holding [ov] (getMethod ov name pl)
   callWith pos f first (backTo pos (starEach args env)) []))
  (hst:(starEach args env).all (λx=> !x.1)=true:=by rfl):Ev X A E env m (.Call (.Attribute o name apos) args [] pos) σ Q:=λg s S F=>
 MethodCall_ (pl:=pl) (aB (h g s S F) (λov s₁ ⟨aJ,V,ay,ai,aX,aF⟩=>aB (aF aJ s₁ ov pl ai.sat aX) (λfx s₂ c5=>sP c5 λbj f aS aN dJ e bA=>by
  exact aaE e<|aB (Gl (first:=[V]) (fvs:=[ov]) aN.sat (F.go (ai.trans aN)) dJ (.cons (aX.le aN.le) .nil) bA hst) (λy y x=>x.after (ai.trans aN)) i2) i2) i2) he
end
section
variable {X:Cx} {A:Around} {E:Value->Shared->Prop} {env:Env} {m:Mp} {σ:St} {Q:AV->St->Prop}
theorem Post.tok{V v}{k}(S:Sat X g σ s)(r:Rep g V v)(h:Q V σ):Post X P g σ s Q v {s with toks:=k}:=Post.to (Go.keeps S λx x e=>e) (aE V r h)
theorem PostB.tok{P:Pv}{g:View}{s:Shared}{b:Bool}{Q:Bool->St->Prop}{k}(S:Sat X g σ s)(h:Q b σ):PostB X P g σ s Q b {s with toks:=k}:=⟨g,σ,Go.keeps S λx x e=>e,h⟩
theorem Rep.int{i t}:Rep g (.int i) (.int i t):=by exact⟨t,rfl⟩
theorem Rep.bool{b}:Rep g (.bool b) (.bool b):=by exact rfl
theorem Rep.bytes{t}:Rep g (.bytes l) (.bytes l.toArray t):=by exact⟨t,rfl⟩
end
section
variable {X:Cx} {A:Around} {E:Value->Shared->Prop} {env:Env} {m:Mp} {σ:St} {Q:AV->St->Prop} {a b:Int}
theorem mK(h:Q (.int (a+b)) σ):cU X A E (binaryOp .Add) (.int a) (.int b) σ Q:=λg s v u S r r'=>by
 obtain⟨_,rfl⟩:=r;obtain⟨_,rfl⟩:=r';exact P.add_int (Post.tok S .int h)
theorem NV(h:Q (.int (a+b)) σ):cU X A E (inplaceOp .Add) (.int a) (.int b) σ Q:=λg s v u S r r'=>by
 obtain⟨_,rfl⟩:=r;obtain⟨_,rfl⟩:=r';exact P.iadd_int (Post.tok S .int h)
theorem xY(h:Q (.int (a - b)) σ):cU X A E (binaryOp .Sub) (.int a) (.int b) σ Q:=λg s v u S r r'=>by
 obtain⟨_,rfl⟩:=r;obtain⟨_,rfl⟩:=r';exact P.sub_int (Post.tok S .int h)
theorem FY(h:Q (.int (a*b)) σ)(hm:IntMulOk a b):cU X A E (binaryOp .Mult) (.int a) (.int b) σ Q:=λg s v u S r r'=>by
 obtain⟨_,rfl⟩:=r;obtain⟨_,rfl⟩:=r';exact P.mul_int (Post.tok S .int h) hm
theorem jB(hb:b≠0)(h:Q (.int (a.fmod b)) σ):cU X A E (binaryOp .Mod) (.int a) (.int b) σ Q:=λg s v u S r r'=>by
 obtain⟨_,rfl⟩:=r;obtain⟨_,rfl⟩:=r';exact PyProof.Rows.mod_int' hb (Post.tok S .int h)
theorem uU(hb:b≠0)(hs:b.natAbs<1073741824)(h:Q (.int (a.fdiv b)) σ):cU X A E (binaryOp .FloorDiv) (.int a) (.int b) σ Q:=λg s v u S r r'=>by
 obtain⟨_,rfl⟩:=r;obtain⟨_,rfl⟩:=r';exact PyProof.Rows.floordiv_int hb (Post.tok S .int h) (.inl (EX hs))
theorem Ot(h:Q (.int (Builtin.bitAnd a b)) σ):cU X A E (binaryOp .BitAnd) (.int a) (.int b) σ Q:=λg s v u S r r'=>by
 obtain⟨_,rfl⟩:=r;obtain⟨_,rfl⟩:=r';exact PyProof.Rows.and_int (Post.tok S .int h)
theorem cu(h:Q (.bool (a==b)) σ):cU X A E (compareOp .Eq) (.int a) (.int b) σ Q:=λg s v u S r r'=>by
 obtain⟨_,rfl⟩:=r;obtain⟨_,rfl⟩:=r';exact P.eq_int (Post.here S .bool h)
theorem x9(h:Q (.bool (a !=b)) σ):cU X A E (compareOp .NotEq) (.int a) (.int b) σ Q:=λg s v u S r r'=>by
 obtain⟨_,rfl⟩:=r;obtain⟨_,rfl⟩:=r';exact P.ne_int (Post.here S .bool h)
theorem BA(h:Q (.bool (decide (a<b))) σ):cU X A E (compareOp .Lt) (.int a) (.int b) σ Q:=λg s v u S r r'=>by
 obtain⟨_,rfl⟩:=r;obtain⟨_,rfl⟩:=r';exact P.lt_int (Post.here S .bool h)
theorem Gn(h:Q (.bool (decide (a<=b))) σ):cU X A E (compareOp .LtE) (.int a) (.int b) σ Q:=λg s v u S r r'=>by
 obtain⟨_,rfl⟩:=r;obtain⟨_,rfl⟩:=r';exact P.le_int (Post.here S .bool h)
theorem Gm(h:Q (.bool (decide (a>b))) σ):cU X A E (compareOp .Gt) (.int a) (.int b) σ Q:=λg s v u S r r'=>by
 obtain⟨_,rfl⟩:=r;obtain⟨_,rfl⟩:=r';exact P.gt_int (Post.here S .bool h)
theorem Bt(h:Q (.int (-a)) σ):LL X A E (unaryOp .USub) (.int a) σ Q:=λg s v S r=>by
 obtain⟨_,rfl⟩:=r;exact P.neg_int (Post.tok S .int h)
theorem Fi{Q:Bool->St->Prop}(h:Q (a !=0) σ):wH X A E truthy (.int a) σ Q:=λg s v S r=>by
 obtain⟨_,rfl⟩:=r;exact P.truthy_int ⟨g,σ,.refl S,h⟩
theorem sh{b:Bool}{Q:Bool->St->Prop}(h:Q b σ):wH X A E truthy (.bool b) σ Q:=λg s v S r=>by
 exact aaE r<|wpAny_truthy_bool ⟨g,σ,.refl S,h⟩
theorem Oo{a b:Bool}(h:Q (.bool (a==b)) σ):cU X A E (compareOp .Eq) (.bool a) (.bool b) σ Q:=λg s v u S r r'=>by
 subst r r';exact PyProof.Rows.eq_bool (Post.here S .bool h)
noncomputable def AV.isNone:AV->Bool|.none=>true|_=>false
theorem FW(r:Rep g V v):(v==Value.none)=V.isNone:=by
 cases V
 ·obtain rfl:=r;rfl
 ·obtain rfl:=r;rfl
 ·obtain⟨_,rfl⟩:=r;rfl
 ·obtain⟨_,rfl⟩:=r;rfl
 ·obtain⟨_,rfl⟩:=r;rfl
 ·refine iF r λx x bN x=>?_;clear r;subst bN;rfl
 ·refine iF r λx x cI x=>?_;clear r;subst cI;rfl
 ·obtain rfl:=r;rfl
 ·obtain rfl:=r;rfl
 ·obtain rfl:=r;rfl
 ·obtain⟨_,_,_,_,_,c5,_⟩:=r;subst c5;rfl
 ·refine yB r λx x x x dY x=>?_;clear r;subst dY;rfl
theorem uX(h:Q (.bool V.isNone) σ):cU X A E (compareOp .Is) V .none σ Q:=λg s v u S r r'=>by
 exact aaE r'<|PyProof.Rows.is_none_gen (Post.here S (by exact aaE (FW r)<|.bool) h)
theorem Nk(h:Q (.bool (!V.isNone)) σ):cU X A E (compareOp .IsNot) V .none σ Q:=λg s v u S r r'=>by
 exact aaE r'<|PyProof.Rows.isnot_none_gen (Post.here S (by exact aaE (FW r)<|.bool) h)
end
section
variable {X:Cx} {A:Around} {E:Value->Shared->Prop} {env:Env} {m:Mp} {σ:St} {Q:AV->St->Prop} {a b:List UInt8}
theorem dU(h:Q (.bool (a==b)) σ):cU X A E (compareOp .Eq) (.bytes a) (.bytes b) σ Q:=λg s v u S r r'=>by
 obtain⟨_,rfl⟩:=r;obtain⟨_,rfl⟩:=r';exact eq_bytes (Post.here S .bool h)
theorem oZ(h:Q (.bool (a !=b)) σ):cU X A E (compareOp .NotEq) (.bytes a) (.bytes b) σ Q:=λg s v u S r r'=>by
 obtain⟨_,rfl⟩:=r;obtain⟨_,rfl⟩:=r';exact ne_bytes (Post.here S .bool h)
theorem f5(hz:a.length+b.length<=16777216)(h:Q (.bytes (a++b)) σ):cU X A E (binaryOp .Add) (.bytes a) (.bytes b) σ Q:=λg s v u S r r'=>by
 obtain⟨_,rfl⟩:=r;obtain⟨_,rfl⟩:=r';exact bytes_add_K (by simpa using hz) rfl λt' k=>Post.tok S .bytes h
theorem nV(hz:a.length<=16777216)(h:Q (.int a.length) σ):fy X A E (.blt "len") [.bytes a] σ Q:=λg s fv vs S r rl=>by
 obtain rfl:=r;obtain⟨v,us,rfl,r,rl⟩:=rl;refine aaE rl ?_;obtain⟨_,rfl⟩:=r;exact len_bytes (by simp;exact Dj hz) (Post.tok S .int h)
theorem jv{Q:Bool->St->Prop}(hz:a.length<=16777216)(h:Q (!a.isEmpty) σ):wH X A E truthy (.bytes a) σ Q:=λg s v S r=>by
 obtain⟨_,rfl⟩:=r;refine truthy_bytes (by simp;exact Dj hz) ?_
 have e:((a.toArray.size:Int) !=0)= !a.isEmpty:=by
  clear h;cases a with
  |nil=>rfl
  |cons x l=>simp;exact Uo hz
 exact aaE e<|PostB.tok S h
theorem nW{value slice:Expr}{i:Int}(hz:a.length<=16777216)(h0:0<=i)(h1:i<a.length)(h:Q (.int (a.getD i.toNat 0).toNat) σ):cU X A E (subscriptTail value slice) (.bytes a) (.int i) σ Q:=λg s v u S r r'=>by
 obtain⟨_,rfl⟩:=r;obtain⟨_,rfl⟩:=r';exact qU (jy _ _ _) E2.lookup (getItem_bytes (Dj hz) h0 h1 (Post.tok S .int h))
noncomputable def eM{α:Type}(lo hi:Option Int)(l:List α):List α:=(l.drop (lo.elim 0 (clipAt l.length))).take (hi.elim l.length (clipAt l.length) - lo.elim 0 (clipAt l.length))
theorem iK{α:Type}{l:List α}(n:Nat):eM (some (n:Int)) none l=l.drop n:=by
 unfold eM;simp only[Option.elim,clipAt_nat];rcases qF n l.length with h|h
 ·(exact aaE (gS h)<|aaE (qr (by simp)) rfl)
 ·refine aaE (uA h) ?_;simp[EY h]
theorem mJ{α:Type}{l:List α}(n:Nat):eM none (some (n:Int)) l=l.take n:=by
 unfold eM;simp only[Option.elim,clipAt_nat,List.drop_zero,Nat.sub_zero];rcases qF n l.length with h|h
 ·exact aaE (gS h) rfl
 ·(exact aaE (uA h)<|aaE (qr (bC _))<|aaE (qr h) rfl)
theorem vg{α:Type}{l:List α}(n k:Nat):eM (some (n:Int)) (some (k:Int)) l=(l.drop n).take (k - n):=by
 unfold eM;simp only[Option.elim,clipAt_nat];rcases qF n l.length with h|h
 ·refine aaE (gS h) ?_
  rcases qF k l.length with h'|h'
  ·exact aaE (gS h') rfl
  ·(exact aaE (uA h')<|aaE (qr (by simp))<|aaE (qr (by simp;exact ae h' (Nat.le_add_of_sub_le (bC _)))) rfl)
 ·refine aaE (uA h) ?_;simp[EY h]
theorem Oq{α:Type}{l:List α}(n:Nat)(hn:1<=n):eM (some (-(n:Int))) none l=l.drop (l.length - n):=by
 unfold eM;simp only[Option.elim,clipAt_neg _ n hn];exact aaE (qr (by simp)) rfl
theorem NU{α:Type}{l:List α}(k n:Nat)(hn:1<=n):eM (some (k:Int)) (some (-(n:Int))) l=(l.drop k).take (l.length - n - k):=by
 unfold eM;simp only[Option.elim,clipAt_neg _ n hn,clipAt_nat];rcases qF k l.length with h|h
 ·exact aaE (gS h) rfl
 ·refine aaE (uA h) ?_;simp[EY h]
theorem FX{g:View}{lo hi:Option Int}{v:Value}{s:Shared}(r:Rep g (.slc lo hi) v)(k:g.In s.heap):∃a l u,v=.ref a/\s.heap.IsSliceOf a l u .none/\IsPart l lo/\IsPart u hi:=by
 obtain⟨a,o,n,l,u,jl,e,hc,hd,jL,hl,hu⟩:=r;subst jl;refine aaE (aq jL) ?_;exact(gZ a l u rfl (dh o (k a o e) hc hd) hl hu)
theorem fG{value slice:Expr}{lo hi:Option Int}(hz:a.length<=16777216)(h:Q (.bytes (eM lo hi a)) σ):cU X A E (subscriptTail value slice) (.bytes a) (.slc lo hi) σ Q:=λg s v u S r r'=>by
 refine sP (FX r' S.in_) λa' l u' jM hs hl hu=>?_;clear r';refine aaE jM ?_;obtain⟨t,rfl⟩:=r
 refine qU (jy _ _ _) E2.lookup (getItem_meets (jy _ _ _) (aI rfl) E2 FB.entry_bytes_getitem (FB.args_bytes_getitem_2 _ _) (KBc.meets_slice2 a.toArray t _ hl hu)
  ⟨hs,ae (KBc.size_picked_le _ lo hi) (by(refine aaE df<|aaE f3 ?_);exact hz),λt' k=>?_⟩)
 refine aaE (KBc.picked_eq ..) ?_;have e:(List.take (hi.elim a.toArray.size (clipAt a.toArray.size) - lo.elim 0 (clipAt a.toArray.size)) (List.drop (lo.elim 0 (clipAt a.toArray.size)) a.toArray.toList))=eM lo hi a:=by unfold eM;simp
 exact aaE e<|Post.tok S .bytes h
theorem o3{value slice:Expr}{lo hi:Option Int}{l:List AV}(hz:l.length<=16777216)(h:Q (.lst (eM lo hi l)) σ):cU X A E (subscriptTail value slice) (.lst l) (.slc lo hi) σ Q:=λg s v u S r r'=>by
 refine sP (FX r' S.in_) λa' lv u' jN hs hl hu=>?_;clear r';subst jN;refine cP r λc vs jj hq rl=>?_;clear r;refine aaE jj ?_;have hL:=gY hq S.in_;refine qU hL.typeIs slot_list_getitem.lookup (wpAny_getItem_list_slice hL hs hl hu .none (by simp) ?_ (by(refine aaE df<|aaE f3<|aaE rl.length ?_);exact hz));have e:slicePick vs.toArray lo hi none=(eM lo hi vs).toArray:=by refine aaE (slicePick_plain ..) ?_;unfold eM;simp
 have hn:=View.none_of S.in_ iJ;refine Post.to (Go.keeps_add S (λb o e=>bJ _ e) iJ (cB _ rfl)) (aE (.lst (eM lo hi l)) ?_ h);refine(cy _ (eM lo hi vs) rfl (qL rfl (by exact aaE e rfl)) (RepL.le (View.le_add _ hn) ?_));unfold eM;exact aaE rl.length<|(rl.drop _).take _
theorem O3(r:Rep g V v)(h:(∃i,V=.int i/\k=some i)):IsPart v k:=by
 obtain⟨i,rfl,rfl⟩:=h;obtain⟨t,rfl⟩:=r;exact .int i t
abbrev JQ(Q:Option Int->St->Prop)(V:AV)(σ:St):Prop:=∃i,V=.int i/\Q (some i) σ
theorem ki{Q:Option Int->St->Prop}{i:Int}{σ:St}(h:Q (some i) σ):JQ Q (.int i) σ:=⟨i,rfl,h⟩
abbrev Yo(Q:AP)(lo hi:Option Int)(σ:St):Prop:=Q (.slc lo hi) σ
abbrev Yp(J:Option Expr->St->(Option Int->St->Prop)->Prop)(u:Option Expr)(Q:AP)(lo:Option Int)(σ:St):Prop:=J u σ (Yo Q lo)
def DT(X:Cx)(A:Around)(E:VP)(env:Env)(m:Mp)(e:Option Expr)(σ:St)(Q:Option Int->St->Prop):Prop:=match e with
 |none=>Q none σ
 |some e=>Ev X A E env m e σ (JQ Q)
theorem LP{e:Option Expr}{Q:Option Int->St->Prop}(h:DT X A E env m e σ Q){g:View}{s:Shared}(S:Sat X g σ s)(F:Frm X env m g σ s):
  wpAny (model P0 X.w) A (evalPart e env) (λv s₁=>∃aJ ay k,Go X aL g σ s aJ ay s₁/\IsPart v k/\Q k ay) E s:=by
 cases e with
 |none=>exact aO (pg g σ none (.refl S) .none h)
 |some e=>exact aB (h g s S F) (λv s₁ zz=>zz.rec λaJ V ay ai r aR=>ax aR λi hv q=>(pg aJ ay (some i) ai (O3 r (aE i hv rfl)) q)) i2
theorem ee(h:DT X A E env m lower σ (Yp (DT X A E env m) upper Q)):Ev X A E env m (.Slice lower upper none p) σ Q:=λg s S F=>
 wpAny_Slice (aB (LP h S F) (λl s₁ ba=>jc ba λaJ ay lo ai hl aF=>aB (LP aF ai.sat (F.go ai)) (λu s₂ bh=>jc bh λbj aS hi aN hu bA=>by
  refine aO ?_;have hn:=View.none_of aN.sat.in_ iJ;refine Post.to ((ai.trans aN).trans (Go.keeps_add aN.sat (λb o e=>bJ _ e) iJ (cB _ rfl))) (aE (.slc lo hi) ?_ bA)
  exact⟨_,_,_,l,u,rfl,by unfold View.add;exact aaE (aA rfl) rfl,rfl,rfl,rfl,hl,hu⟩) i2) i2)
end
theorem Pv.Le.refl(s:Shared)(P:Pv):P.Le s P:=⟨λx x x h=>h,λx x h=>h⟩
theorem Pv.Le.back{X:Cx}{σ:St}{aj s:Shared}{P P' Q:Pv}{R:Pv}(x:Rn X R σ aj s)(h:P'.Le s P)(k:P.Le aj Q)(hR:∀a,R.a a->∃o,s.heap.get? a=some o):P'.Le aj Q:=
 ⟨λa o e p=>by
   by_cases hp:R.a a
   ·obtain⟨o',e'⟩:=hR a hp;exact k.1 a o e (h.1 a o' e' p)
   ·obtain⟨o',e'⟩:=x.dom a o e hp;exact k.1 a o e (h.1 a o' e' p),λi hi p=>k.2 i hi (h.2 i (bT hi x.gsize) p)⟩
theorem Pv.Le.back'{X:Cx}{σ:St}{aj s:Shared}{P P' Q:Pv}(x:Rn X Q σ aj s)(h:P'.Le s P)(k:P.Le aj Q):P'.Le aj Q:=
 ⟨λa o e p=>by
   by_cases hp:Q.a a
   ·exact hp
   ·obtain⟨o',e'⟩:=x.dom a o e hp;exact k.1 a o e (h.1 a o' e' p),
  λi hi p=>k.2 i hi (h.2 i (bT hi x.gsize) p)⟩
def Pv.Apart(P Q:Pv):Prop:=(∀a,P.a a->¬Q.a a)/\(∀i,P.n i->¬Q.n i)
theorem Pv.Apart.symm{P Q:Pv}(h:P.Apart Q):Q.Apart P:=⟨λa x y=>h.1 a y x,λa x y=>h.2 a y x⟩
theorem Pv.Apart.noP{P:Pv}:P.Apart aL:=⟨λx x h=>h,λx x h=>h⟩
theorem Rn.comp(x:Rn X P σ s s₁)(y:Rn X DE ay s₁ s₂)(hst:∀a o,s.heap.get? a=some o->¬P.a a->(ay a=none↔σ a=none))(h:DE.Le s P):Rn X P σ s s₂:=by
 refine⟨y.os.trans x.os,λa o e hp=>du (x.dom a o e hp) λo' e'=>y.dom a o' e' λq=>hp (h.1 a o e q),λa o e hn ht hp=>?_,λp hp o vs e hd=>?_,ae x.gsize y.gsize,λi g e hp=>y.gold i g (x.gold i g e hp) λq=>hp (h.2 i ?_ q),λi g e=>?_⟩
 ·have k:=x.keep a o e hn ht hp
  have eO:=(hst a o e hp).mpr hn;rcases k with k|⟨hc,sl,k⟩
  ·exact y.keep a o k eO ht λq=>hp (h.1 a o e q)
  ·exact KeptAs.trans (.inr ⟨hc,sl,k⟩) k (y.keep a _ k eO ht λq=>hp (h.1 a o e q))
 ·obtain⟨more,e1⟩:=x.tab p hp o vs e hd
  obtain⟨CD,e2⟩:=y.tab p hp _ _ e1 rfl;exact⟨more++CD,by refine aaE e2 ?_;simp⟩
 ·rcases uR i s.gens.size with k|k
  ·exact k
  ·rw[EW k]at e;exact be e
 ·rcases y.gbare i g e with h|h
  ·exact x.gbare i g h
  ·exact .inr h
theorem Go.comp(x:Go X P g σ s aJ ay s₁)(y:Go X DE aJ ay s₁ bj aS s₂)(h:DE.Le s P):Go X P g σ s bj aS s₂:=
 ⟨y.sat,x.le.trans y.le,λa o e hp=>(let ⟨o',e'⟩:=x.dom e hp;y.new a o' e' λq=>hp (h.1 a o e q)).trans (x.new a o e hp),
  λa o e hp=>(du (x.dom e hp) λo' e'=>y.st a o' e' λq=>hp (h.1 a o e q)).trans (x.st a o e hp),x.run.comp y.run x.st h⟩
theorem Frm.atL(F:Frm X env m g σ s):∃o,s.heap.get? env.locals=some o:=let ⟨_,⟨o,_,_,e,_⟩,_⟩:=F.ns;⟨o,e⟩
theorem Frm.goN(F:Frm X env m g σ s)(G:Go X P g σ s g' ab s')(pJ:Frm X env Lj av fL aj)(h:P.Le aj aL):Frm X env m g' ab s':=
 F.goP G (λq=>let ⟨o,e⟩:=pJ.atL;h.1 _ o e q) λx c hc q=>du (pJ.csz x c hc) λo e=>h.1 _ o e q
noncomputable abbrev l9:=Pv->List AV->View->St->Shared->Prop
noncomputable def ya(tgt:Option Expr)(it v:Value):Sem Unit:=match tgt with|some t=>letOwnedTupleGo t it v|none=>pure ()
inductive ItN(X:Cx)(It:l9)(own:Pv)(V:AV)(l:List AV)(g:View)(σ:St)(s:Shared)(v:Value)(s':Shared):Prop
 |mk (g':View) (bU:Pv) (ho:bU.Le s own) (G:Go X own g σ s g' σ s') (r:Rep g' V v) (hit:It bU l g' σ s')
structure Itr(X:Cx)(k:Nat)(tgt:Option Expr)(it:Value)(Dep:St->St->Prop)(It:l9):Prop where
 next:∀{A own V l g σ s},Room A k->Sat X g σ s->It own (V::l) g σ s->wpAny (model P0 X.w) A (pyNext it) (λr s₁=>∃v,r=some v/\wpAny (model P0 X.w) A (ya tgt it v) (λ_ s'=>ItN X It own V l g σ s v s') aC s₁) aC s
 stop:∀{A own g σ s},Room A k->Sat X g σ s->It own [] g σ s->wpAny (model P0 X.w) A (pyNext it) (λr s'=>r=none/\∃g',Go X own g σ s g' σ s') aC s
 dep:∀σ,Dep σ σ
 ex:∀{own l g σ s},It own l g σ s->(∀a,own.a a->∃o,s.heap.get? a=some o)/\(∀i,own.n i->i<s.gens.size)
 self:∀{A own l g σ s} {Q:Value->Shared->Prop},Room A k->Sat X g σ s->It own l g σ s->Q it s->wpAny (model P0 X.w) A (pyIter it) Q aC s
 keep:∀{own l P g σ s g' ab s'},It own l g σ s->Go X P g σ s g' ab s'->own.Apart P->Dep σ ab->It own l g' ab s'
inductive PostI(X:Cx)(k:Nat)(tgt:Option Expr)(g:View)(σ:St)(s:Shared)(Q:(St->St->Prop)->List AV->St->Prop)(it:Value)(s':Shared):Prop
 |mk (g':View) (ab:St) (Dep:St->St->Prop) (It:l9) (own:Pv) (l:List AV) (G:Go X aL g σ s g' ab s') (ho:own.Le s aL) (I:Itr X k tgt it Dep It) (hit:It own l g' ab s') (q:Q Dep l ab)
def rp(X:Cx)(A:Around)(E:VP)(k:Nat)(tgt:Option Expr)(V:AV)(σ:St)(Q:(St->St->Prop)->List AV->St->Prop):Prop:=
 ∀g s v,Sat X g σ s->Rep g V v->wpAny (model P0 X.w) A (pyIter v) (PostI X k tgt g σ s Q) E s
def lz(X:Cx)(A:Around)(E:VP)(k:Nat)(env:Env)(m:Mp)(tgt:Option Expr)(e:Expr)(σ:St)(Q:(St->St->Prop)->List AV->St->Prop):Prop:=
 ∀g s,Sat X g σ s->Frm X env m g σ s->wpAny (model P0 X.w) A (eval e env) (λv s₁=>wpAny (model P0 X.w) A (pyIter v) (PostI X k tgt g σ s Q) E s₁) E s
theorem g7(h:Ev X A E env m e σ (KU (rp X A E k tgt) Q)):lz X A E k env m tgt e σ Q:=λg s S F=>
 aB (h g s S F) (λv s₁ zz=>zz.rec λaJ V ay ai aX aF=>aB (aF aJ s₁ v ai.sat aX) (λit s₂ zz=>zz.rec λbj aS Dep It own l aN ho I hit bA=>
  ⟨bj,aS,Dep,It,own,l,ai.trans aN,⟨λa o e q=>du (ai.dom e id) λo' e'=>ho.1 a o' e' q,λi hi q=>ho.2 i (bT hi ai.run.gsize) q⟩,I,hit,bA⟩) i2) i2
abbrev Ww(D:St->Prop)(R:Mp->St->Prop)(Q:AFl->Mp->St->Prop)(F:AFl)(m:Mp)(σ:St):Prop:=match F with
  |.next|.cont=>D σ/\R m σ
  |.brk=>Q .next m σ
  |.ret V=>Q (.ret V) m σ
abbrev Yq(J:Mp->List Stmt->St->(AFl->Mp->St->Prop)->Prop)(b:List Stmt)(Q:AFl->Mp->St->Prop)(m:Mp)(σ:St):Prop:=J m b σ Q
noncomputable def pH(X:Cx)(A:Around)(Dep:St->St->Prop)(P:Pv)(env:Env)(target:Expr)(body:List Stmt)(Q:AFl->Mp->St->Prop):List AV->Mp->St->Prop
 |[],m,σ=>Q .next m σ
 |V::l,m,σ=>As X A aC P env m target V σ (Yq (Exs X A aC P env) body (Ww (Dep σ) (pH X A Dep P env target body Q l) Q))
section
variable {X:Cx} {A:Around} {E:Value->Shared->Prop} {env:Env} {m:Mp} {σ:St} {Q:AFl->Mp->St->Prop}
structure LoopI(X:Cx)(N:Addr)(env:Env)(Dep:St->St->Prop)(It:l9)(av:View)(fL:St)(aj:Shared)(own:Pv)(l:List AV)(m:Mp)(g:View)(σ:St)(s:Shared):Prop where
 go:Go X (bg N env) av fL aj g σ s
 frm:Frm X env m g σ s
 ownNew:own.Le aj aL
 it:It own l g σ s
theorem O4{X:Cx}{N:Addr}{env:Env}{m:Mp}{g:View}{σ:St}{s:Shared}{own:Pv}(F:Frm X env m g σ s)(h:own.Le s aL):own.Apart (bg N env):=by
 refine⟨λa h1 h2=>?_,λy y h=>h.elim⟩;rcases h2.2 with rfl|⟨x,hx⟩
 ·obtain⟨o,e⟩:=F.atL;exact h.1 _ o e h1
 ·obtain⟨o,e⟩:=F.csz x a hx;exact h.1 _ o e h1
theorem pq(F:Frm X env m g σ s):∀a,(bg N env).a a->∃o,s.heap.get? a=some o:=λa h=>by
 rcases h.2 with rfl|⟨x,hx⟩
 ·exact F.atL
 ·exact F.csz x a hx
theorem FZ{k:Nat}{N:Addr}{target:Expr}{body:List Stmt}{it:Value}{Dep:St->St->Prop}{It:l9}{av:View}{fL:St}{aj:Shared}{Lj:Mp}(hA:Room A k)(I:Itr X k (some target) it Dep It)(pJ:Frm X env Lj av fL aj)
  {own:Pv}{l:List AV}{g:View}{s:Shared}(L:LoopI X N env Dep It av fL aj own l m g σ s)(h:pH X A Dep (bg N env) env target body Q l m σ):
  codeAny (model P0 X.w) A (.forLoop target it body [] env) (λr s'=>match r with|.ok f=>PostX X (bg N env) env av fL aj Q f s'|.error e=>False) s:=by
 refine codeAny_forLoop_any (λn s=>∃own l m g σ,l.length=n/\LoopI X N env Dep It av fL aj own l m g σ s/\pH X A Dep (bg N env) env target body Q l m σ) (λn s hI=>?_) l.length ⟨own,l,m,g,σ,rfl,L,h⟩;refine az λkk=>?_;clear L h;obtain⟨own,l,m,g,σ,bN,L,h⟩:=hI;subst bN;refine kk ?_
 clear kk;cases l with
 |nil=>
  refine aB (I.stop hA L.go.sat L.it) (λr s₁ aR=>rg aR λhr g' G=>?_) λ_ _ x=>x.elim;clear aR;refine aaE hr ?_;have lh:=L.ownNew;exact wpAny_execs_nil ⟨g',.next,m,σ,L.go.comp G ⟨λa o e q=>(lh.1 a o e q).elim,λi e q=>(lh.2 i e q).elim⟩,L.frm.goN G pJ lh,rfl,h⟩
 |cons V l=>
  refine aB (I.next hA L.go.sat L.it) (λr s₁ ba=>ax ba λv hr aF=>?_) λ_ _ x=>x.elim;clear ba;subst hr;refine aB aF (λ_ s₂ bh=>bh.rec λbj bU ho G rv hit=>?_) λ_ _ x=>x.elim;have lh:=ho.back L.go.run L.ownNew (pq L.frm);have zZ:bU.Le aj (bg N env):=⟨λa o e q=>(lh.1 a o e q).elim,λi e q=>(lh.2 i e q).elim⟩;have aZ:bU.Apart (bg N env):=O4 pJ lh;have SQ:own.Le aj (bg N env):=⟨λa o e q=>(L.ownNew.1 a o e q).elim,λi e q=>(L.ownNew.2 i e q).elim⟩;refine aB (h bj s₂ v G.sat (L.frm.goN G pJ L.ownNew) rv) (λ_ a8 zz=>zz.rec λeG lp dZ bL eN bW=>?_) λ_ _ x=>x.elim;refine aB (bW eG a8 bL.sat eN) (λf zy zz=>zz.rec λow Fl zA pC fV tN rf ir=>?_) λ_ _ x=>x.elim;have Gs:=(L.go.comp G SQ).trans (bL.trans fV)
  clear zz;cases Fl with
  |next=>(first|exact be rf|exact bZ rf|exact gy rf|exact gN rf|(clear zz;refine aaE (bq rf) ?_)|clear zz;subst rf|cases rf);exact⟨l.length,lN _,bU,l,zA,ow,pC,rfl,⟨Gs,tN,lh,I.keep hit (bL.trans fV) aZ ir.1⟩,ir.2⟩
  |cont=>(first|exact be rf|exact bZ rf|exact gy rf|exact gN rf|(clear zz;obtain rfl:=bq rf)|clear zz;subst rf|cases rf);exact⟨l.length,lN _,bU,l,zA,ow,pC,rfl,⟨Gs,tN,lh,I.keep hit (bL.trans fV) aZ ir.1⟩,ir.2⟩
  |brk=>(first|exact be rf|exact bZ rf|exact gy rf|exact gN rf|(clear zz;refine aaE (aq (bq rf)) ?_)|clear zz;subst rf|cases rf);exact⟨ow,.next,zA,pC,Gs,tN,rfl,ir⟩
  |ret V=>refine ax rf λu cI ru=>?_;clear zz rf;exact aaE cI<|⟨ow,.ret V,zA,pC,Gs,tN,(aE u rfl ru),ir⟩
theorem yL{pos}(hA:Room A k)(h:lz X A E k env m (some target) iter σ λDep l aS=>pH X A Dep (bg N env) env target body Q l m aS)
  (hs:∀x,foldedSetIterable iter env x=pure x:=by intro y;rfl):Ex X A E (bg N env) env m (.For target iter body [] pos) σ Q:=λg s S F=>
 wpAny_For (aB (h g s S F) (λv s₁ aF=>aB aF (λit s₂ zz=>zz.rec λbj aS Dep It own l G ho I hit bA=>by
  refine gU (FZ hA I F ⟨G.any,F.go G,ho,hit⟩ bA) λr s' hr=>?_
  cases r with
  |ok f=>exact hr
  |error e=>exact hr.elim) i2) i2) hs
theorem PZ{pos}(Inv:Nat->Mp->St->Prop)(n:Nat)(h₀:Inv n m σ)
  (h:∀n m σ,Inv n m σ->EvB X A aC env m test σ λb ay=>if b then Exs X A aC (bg N env) env m body ay (λF m₂ aS=>match F with
   |.next|.cont=>∃n',n'<n/\Inv n' m₂ aS
   |.brk=>Q .next m₂ aS
   |.ret V=>Q (.ret V) m₂ aS)else Q .next m ay):Ex X A E (bg N env) env m (.While test body [] pos) σ Q:=λav aj WY pJ=>by
 refine wpAny_While (gU (codeAny_whileLoop (R:=λr s'=>match r with|.ok f=>PostX X (bg N env) env av σ aj Q f s'|.error e=>False) (λn s=>∃m' g' ab,Go X (bg N env) av σ aj g' ab s/\Frm X env m' g' ab s/\Inv n m' ab) (λn s hI=>?_) n (pg m av σ (.refl WY) pJ h₀)) λr s' hr=>?_)
 ·refine az λkk=>?_
  refine jc hI λm' g' ab G F hI=>?_;refine kk<|aB (h n m' ab hI g' s G.sat F) (λb s₂ zz=>zz.rec λbj aS aN bA=>?_) λ_ _ x=>x.elim
  cases b with
  |true=>
   refine aB (bA bj s₂ aN.sat (F.go aN)) (λf a8 zz=>zz.rec λeG Fl lp dZ bL eN rf bW=>?_) λ_ _ x=>x.elim;have Gs:=G.trans (aN.any.trans bL)
   cases Fl with
   |next=>subst rf;refine ax bW λn' hn wQ=>?_;exact⟨n',hn,lp,eG,dZ,Gs,eN,wQ⟩
   |cont=>subst rf;refine ax bW λn' hn wQ=>?_;exact⟨n',hn,lp,eG,dZ,Gs,eN,wQ⟩
   |brk=>subst rf;exact⟨eG,.next,lp,dZ,Gs,eN,rfl,bW⟩
   |ret V=>refine ax rf λu c5 ru=>?_;clear zz rf;exact aaE c5<|⟨eG,.ret V,lp,dZ,Gs,eN,(aE u rfl ru),bW⟩
  |false=>exact wpAny_execs_nil ⟨bj,.next,m',aS,G.trans aN.any,F.go aN,rfl,bA⟩
 ·cases r with
  |ok f=>exact hr
  |error e=>exact hr.elim
end
set_option backward.match.sparseCases true
noncomputable def cH(I:Addr):Pv:=⟨λa=>a=I,λx=>False⟩
noncomputable def aae:List String:=["enumerate","zip","dict_itemiterator","dict_reverseitemiterator","odict_iterator","itertools.zip_longest","itertools.pairwise"]
set_option tactic.hygienic true in
theorem A5{X:Cx}{A:Around}{tgt:Option Expr}{I:Addr}{v:Value}{o:Obj}{n:String}{s:Shared}{Q:Unit->Shared->Prop}(ho:s.heap.get? I=some o)(hc:o.cls=.type n)(hn:aae.contains n=false)(h:Q () s):
  wpAny (model P0 X.w) A (ya tgt (.ref I) v) Q aC s:=by
 cases tgt with
 |none=>exact aO h
 |some t=>
  have fin:wpAny (model P0 X.w) A (do
    let (.ref r,.ref a):=(Value.ref I,v)|return
    let o ←load r
    match o.cls,o.data with
    |.type n,.fields vs=>
     if ["enumerate","zip","dict_itemiterator","dict_reverseitemiterator","odict_iterator","itertools.zip_longest","itertools.pairwise"].contains n&&vs[0]?==some (rawInt a)then
      rule "for.unpacks-the-owned-tuple"
      updateField r 0 .none
    |_,_=>pure ()) Q aC s:=by
   cases v<;>try exact aO h
   refine ag (sD ho ?_);refine aaE hc ?_;cases o.data<;>try exact aO h
   rename_i vs;have:(["enumerate","zip","dict_itemiterator","dict_reverseitemiterator","odict_iterator","itertools.zip_longest","itertools.pairwise"]:List String).contains n=false:=hn;simp only[this,Bool.false_and,nO,j7];exact aO h
  cases t<;>first|exact fin|exact aO h
structure OneIt(X:Cx)(I:Addr)(n:String)(J:List AV->View->Heap->Prop):Prop where
 obj:∀l g h,J l g h->∃o,h.get? I=some o/\o.cls=.type n/\∀es ep,o.data≠.dict es ep
 keep:∀l g h g' h',J l g h->g.Le g'->g'.In h'->h'.get? I=h.get? I->J l g' h'
 self:∀{A l g s} {Q:Value->Shared->Prop},A.handled=none->J l g s.heap->Q (.ref I) s->wpAny (model P0 X.w) A (pyIter (.ref I)) Q aC s
 next:∀{A V l g s},A.handled=none->g.In s.heap->J (V::l) g s.heap->wpAny (model P0 X.w) A (pyNext (.ref I)) (λr s₁=>∃v h' t',r=some v/\s₁={s with heap:=h',toks:=t'}/\Heap.SameBut I s.heap h'/\Rep g V v/\(g I=none->J l g h')) aC s
 stop:∀{A g s},A.handled=none->g.In s.heap->J [] g s.heap->wpAny (model P0 X.w) A (pyNext (.ref I)) (λr s₁=>∃h',r=none/\s₁={s with heap:=h'}/\Heap.ExtBut I s.heap h') aC s
theorem Go.extBut(S:Sat X g σ s)(hb:Free X g σ I)(k:Heap.ExtBut I s.heap h')(hP:P.a I):Go X P g σ s g σ {s with heap:=h'}:=by
 have ne:∀a o,g a=some o->a≠I:=λa o e q=>by rw[q,hb.1]at e;exact be e
 have tk:∀{a t},TrkAt X.w g s.heap a t->a≠I->TrkAt X.w g h' a t:=λ{a t} x dK=>by
  cases t with
  |dict l=>refine ax x λkvs d r=>?_;exact(aE kvs (d.at λo e=>k a o dK e) r)
  |ns l=>refine ax x λm d r=>?_;exact(aE m (d.at λo e=>k a o dK e) r)
  |obj o=>exact k a o dK x
 refine⟨⟨S.le,λa o e=>k a o (ne a o e) (S.in_ a o e),λa t e=>⟨(S.trk a t e).1,tk (S.trk a t e).2 λq=>?_⟩,λp hp=>?_⟩,.refl g,λy y y y=>rfl,λy y y y=>kb,rfl,λa o e hp=>⟨o,k a o (λq=>hp (q▸hP)) e⟩,λa o e y y hp=>.inl (k a o (λq=>hp (q▸hP)) e),λp hp o vs e hd=>⟨#[],?_⟩,bC _,λi x e y=>e,λi x e=>.inl e⟩
 ·rw[q,hb.2.1]at e;exact be e
 ·refine az λkk=>?_
  refine iE (S.tab p hp) λe1 e2 e3 ps e4=>?_;refine kk<|(mT e1 e2 e3 ps (qT e4 (λo=>k _ o ?_) (λo=>k _ o (hb.2.2 p hp))))
  cases q:g p.1 with
  |none=>exact absurd q e3
  |some o=>exact ne _ o q
 ·refine aaE (k _ _ (hb.2.2 p hp) e) ?_;congr 1;obtain⟨c,d,dt,sl⟩:=o;clear e;refine aaE (aq hd) ?_;simp
theorem OneIt.itr{X:Cx}{I:Addr}{n:String}{J}(O:OneIt X I n J)(k:Nat)(tgt:Option Expr)(hn:aae.contains n=false:=by decide)(hf:n≠"frame":=by decide):
  Itr X k tgt (.ref I) (λx x=>True) (λown l g σ s=>own=cH I/\Free X g σ I/\J l g s.heap):=by
 refine⟨λ{A own V l g σ s} hA S zq1=>ei zq1 λe hf hj=>?_,λ{A own g σ s} hA S zq2=>ei zq2 λe hf hj=>?_,λx=>trivial,λ{own l g σ s} zq3=>ei zq3 λe hf hj=>?_,λ{A own l g σ s Q} hA S zq4 q=>ei zq4 λe hf hj=>O.self hA.handled hj q,λ{own l P g σ s g' ab s'} zq5 G aZ x=>ei zq5 λe eH hj=>?_⟩
 ·refine aB (O.next hA.handled S.in_ hj) (λr s₁ c5=>mM c5 λv h' t' hr hs hb rv jm=>(aE v hr ?_)) i2
  clear c5;refine aaE hs ?_;have jm:=jm hf.1;refine dp (O.obj _ _ _ jm) λo ho hc x=>?_;refine A5 ho hc hn ⟨g,own,.refl _ _,?_,rv,e,hf,jm⟩;clear zq1;subst e;exact(Go.sameBut S hb hf rfl).trans (Go.keeps (S.sameBut (s':={s with heap:=h'}) hb hf) λx x e=>e)
 ·refine aB (O.stop hA.handled S.in_ hj) (λr s₁ dY=>dp dY λh' hr hs hb=>(q9 hr g ?_)) i2
  clear dY;refine aaE hs ?_;clear zq2;subst e;exact Go.extBut S hf hb rfl
 ·refine aaE e<|dp (O.obj _ _ _ hj) λo ho hc x=>?_
  exact⟨λa q=>⟨o,by exact aaE (show a=I from q)<|ho⟩,λx q=>q.elim⟩
 ·clear zq5;subst e
  refine dp (O.obj _ _ _ hj) λo ho hc hnd=>?_;have hp:=aZ.1 I rfl;refine(cA rfl (eH.go G ho hp) (O.keep _ _ _ _ _ hj G.le G.sat.in_ ?_));rcases G.run.keep I o ho eH.2.1 eH.2.2 hp with q|⟨q,_⟩
  ·(exact aaE q<|aaE ho rfl)
  ·refine bk q λx x q=>?_;exact absurd q (hnd _ _)
theorem uY:(cH s.heap.objs.size).Le s aL:=⟨λa o e q=>by have:=cC e;rw[show a=s.heap.objs.size from q]at this;exact de _ this,λx x h=>h.elim⟩
theorem qN{α:Type}{l:List α}{i:Nat}{x:α}{r:List α}(h:l.drop i=x::r):l[i]?=some x/\l.drop (i+1)=r:=by
 constructor
 ·have:(l.drop i)[0]?=some x:=by refine aaE h ?_;rfl
  simpa using this
 ·have:(l.drop i).drop 1=r:=by refine aaE h ?_;rfl
  rwa [kN]at this
theorem sG{α:Type}{l:List α}{i:Nat}(h:l.drop i=[]):l[i]?=none:=by
 have:=List.drop_eq_nil_iff.mp h;exact Az this
def Vj(a:Addr)(vs:List Value)(L:List AV)(I:Addr)(l:List AV)(g:View)(h:Heap):Prop:=SeqAt g "list" a vs/\RepL g L vs/\∃i,h.IsListIter I a i/\L.drop i=l
theorem Ou{X:Cx}{a:Addr}{vs:List Value}{L:List AV}{I:Addr}:OneIt X I "list_iterator" (Vj a vs L I):=by
 refine⟨λl g h iV=>jF iV λx x i zq6 x=>dp zq6 λo ho hc hd=>(dh o ho hc (λx x q=>by rw[hd]at q;cases q)),λl g h g' h' jL hle hO he=>jF jL λh1 h2 i zp h4=>ax zp λo ho r=>(pn (h1.le hle) (h2.le hle) i (aE o (he.trans ho) r) h4),λ{A l g s Q} hh zq7 q=>jF zq7 λh1 h2 i h3 h4=>wpAny_pyIter_listiter h3 q,λ{A V l g s} hh hO zq8=>jF zq8 λh1 h2 i h3 h4=>?_,λ{A g s} hh hO zq9=>jF zq9 λh1 h2 i h3 h4=>?_⟩
 ·refine az λkk=>?_
  obtain⟨e1,e2⟩:=qN h4;refine ax (h2.get e1) λv hv rv=>?_;exact kk<|wpAny_pyNext_list_item h3 (gY h1 hO) (by simpa using hv) λh' hi hs=>(o9 v h' _ rfl rfl hs rv (λx=>(pn h1 h2 (i+1) hi e2)))
 ·have hn:=sG h4
  have:vs[i]?=none:=by rw[qp]at hn ⊢;rw[h2.length];exact hn
  exact wpAny_pyNext_list_end hh h3 (gY h1 hO) (by simpa using this) λh' hs=>(dh h' rfl rfl hs)
theorem mN(h:Q (λx x=>True) l σ):rp X A E k tgt (.lst l) σ Q:=λg s v S r=>by
 refine az λkk=>?_;obtain⟨a,vs,rfl,hq,rl⟩:=r;have G:Go X aL g σ s g σ {s with heap:=s.heap.push {cls:=.type "list_iterator",data:=.fields #[.ref a,.int 0 0]}}:=Go.keeps S λb o e=>bJ _ e;exact kk<|wpAny_pyIter_list (gY hq S.in_) ⟨g,σ,_,_,_,l,G,uY,(Ou (a:=a) (vs:=vs) (L:=l)).itr k tgt,(GI rfl (dG S (bC _)) hq rl 0 (dh _ (cB _ rfl) rfl rfl) rfl),h⟩
def Wz(a:Addr)(vs:List Value)(L:List AV)(I:Addr)(l:List AV)(g:View)(h:Heap):Prop:=SeqAt g "tuple" a vs/\RepL g L vs/\∃i,h.IsTupleIter I a i/\L.drop i=l
theorem o5(x:SeqAt g "tuple" a vs)(k:g.In h):h.IsTuple a vs.toArray:=let ⟨o,n,e,hc,hd⟩:=x;(kY o (k a o e) hc n hd)
theorem O5{X:Cx}{a:Addr}{vs:List Value}{L:List AV}{I:Addr}:OneIt X I "tuple_iterator" (Wz a vs L I):=by
 refine⟨λl g h DF=>jF DF λx x i zq10 x=>dp zq10 λo ho hc hd=>(dh o ho hc (λx x q=>by rw[hd]at q;cases q)),λl g h g' h' DG hle hO he=>jF DG λh1 h2 i zp h4=>ax zp λo ho r=>(pn (h1.le hle) (h2.le hle) i (aE o (he.trans ho) r) h4),λ{A l g s Q} hh zq11 q=>jF zq11 λh1 h2 i h3 h4=>wpAny_pyIter_tupleiter h3 q,λ{A V l g s} hh hO zq12=>jF zq12 λh1 h2 i h3 h4=>?_,λ{A g s} hh hO zq13=>jF zq13 λh1 h2 i h3 h4=>?_⟩
 ·refine az λkk=>?_
  obtain⟨e1,e2⟩:=qN h4;refine ax (h2.get e1) λv hv rv=>?_;exact kk<|wpAny_pyNext_tuple_item h3 (o5 h1 hO) (by simpa using hv) λh' hi hs=>(o9 v h' _ rfl rfl hs rv (λx=>(pn h1 h2 (i+1) hi e2)))
 ·have hn:=sG h4
  have:vs[i]?=none:=by rw[qp]at hn ⊢;rw[h2.length];exact hn
  exact wpAny_pyNext_tuple_end hh h3 (o5 h1 hO) (by simpa using this) λh' hs=>(dh h' rfl rfl hs)
theorem BZ(h:Q (λx x=>True) l σ):rp X A E k tgt (.tup l) σ Q:=λg s v S r=>by
 refine az λkk=>?_;obtain⟨a,vs,rfl,hq,rl⟩:=r;have G:Go X aL g σ s g σ {s with heap:=s.heap.push {cls:=.type "tuple_iterator",data:=.fields #[.ref a,.int 0 0]}}:=Go.keeps S λb o e=>bJ _ e;exact kk<|wpAny_pyIter_tuple (o5 hq S.in_) ⟨g,σ,_,_,_,l,G,uY,(O5 (a:=a) (vs:=vs) (L:=l)).itr k tgt,(GI rfl (dG S (bC _)) hq rl 0 (dh _ (cB _ rfl) rfl rfl) rfl),h⟩
noncomputable def bl(b:List UInt8):List AV:=b.map λc=>.int (c.toNat:Int)
def Wy(b:List UInt8)(t:Tok)(I:Addr)(l:List AV)(g:View)(h:Heap):Prop:=∃i,KBw.IsBytesIter h I b.toArray t i/\(bl b).drop i=l
theorem Gu{X:Cx}{b:List UInt8}{t:Tok}{I:Addr}:OneIt X I "bytes_iterator" (Wy b t I):=by
 refine⟨λl g h WZ=>ax WZ λi zq14 x=>dp zq14 λo ho hc hd=>(dh o ho hc (λx x q=>by rw[hd]at q;cases q)),λl g h g' h' W0 hle hO he=>ax W0 λi zp h4=>ax zp λo ho r=>(aE i (aE o (he.trans ho) r) h4),λ{A l g s Q} hh zq15 q=>ax zq15 λi h3 h4=>KBw.pyIter_self h3 q,λ{A V l g s} hh hO zq16=>ax zq16 λi h3 h4=>?_,λ{A g s} hh hO zq17=>ax zq17 λi h3 h4=>?_⟩
 ·refine az λkk=>?_
  obtain⟨e1,e2⟩:=qN h4;unfold bl at e1;rw[kL,EZ]at e1;clear h4;obtain⟨c,hc,rfl⟩:=e1;exact kk<|KBw.next_item h3 (c:=c) (by simpa using hc) λh' hi hs=>(o9 _ h' _ rfl rfl hs .int (λx=>(aE (i+1) hi e2)))
 ·have hn:=sG h4
  have:b[i]?=none:=by rw[qp]at hn ⊢;simpa [bl]using hn
  exact KBw.next_end hh h3 (by simpa using this) λh' hs=>(dh h' rfl rfl hs)
theorem Gq(h:Q (λx x=>True) (bl b) σ):rp X A E k tgt (.bytes b) σ Q:=λg s v S r=>by
 obtain⟨t,rfl⟩:=r;have G:Go X aL g σ s g σ {s with heap:=s.heap.push {cls:=.type "bytes_iterator",data:=.fields #[.bytes b.toArray t,.int 0 0]}}:=Go.keeps S λb o e=>bJ _ e;exact A0 ⟨g,σ,_,_,_,_,G,uY,(Gu (b:=b) (t:=t)).itr k tgt,(pn rfl (dG S (bC _)) 0 (dh _ (cB _ rfl) rfl rfl) rfl),h⟩
noncomputable def fK(a c:Int)(n:Nat):List AV:=(List.range n).map λ(i:Nat)=>.int (a+(i:Int)*c)
theorem F0(a c:Int)(n:Nat):fK a c (n+1)=.int a::fK (a+c) c n:=by
 unfold fK
 (refine aaE List.range_succ_eq_map<|aaE eB<|aaE fS ?_)
 congr 1
 ·simp
 ·apply r9
  intro i x;simp only[Function.comp]
  congr 1
  push_cast
  (refine aaE (Int.add_mul ..)<|aaE (Int.one_mul ..) ?_);exact(Bh _ _ _).symm.trans (Int.add_right_comm _ _ _)
def Wx(c:Int)(I:Addr)(l:List AV)(g:View)(h:Heap):Prop:=∃x n,IsRangeIter h I x ((n:Nat):Int) c/\l=fK x c n
theorem O6:OneIt X I "range_iterator" (Wx c I):=by
 refine⟨λl g h W3=>iF W3 λx n ho y=>(dh _ ho rfl (λy y q=>by cases q)),λl g h g' h' W4 hle hO he=>iF W4 λx n ho r=>(ey x n (he.trans ho) r),λ{A l g s Q} hh zq18 q=>iF zq18 λx n h3 h4=>wpAny_pyIter_rangeiter h3 q,λ{A V l g s} hh hO zq19=>iF zq19 λx n h3 h4=>?_,λ{A g s} hh hO zq20=>iF zq20 λx n h3 h4=>?_⟩
 ·cases n with
  |zero=>cases h4
  |succ n=>
   rw[F0]at h4;cases h4;exact wpAny_pyNext_range_item h3 (U4) λh' hi hs=>(o9 _ h' _ rfl rfl hs .int (λy=>(ey (x+c) n (by rw[show((n+1:Nat):Int) - 1=(n:Int) by exact US]at hi;exact hi) rfl)))
 ·cases n with
  |zero=>exact wpAny_pyNext_range_end hh h3 (by simp) λh' hs=>(dh h' rfl rfl hs)
  |succ n=>rw[F0]at h4;cases h4
theorem yb{X:Cx}{A:Around}{E:VP}{k:Nat}{tgt:Option Expr}{a b c:Int}{n:Nat}{σ:St}{Q:(St->St->Prop)->List AV->St->Prop}(jT:Builtin.Range.small a b c=true)(hn:Builtin.Range.rangeSize a b c=n)
  (h:Q (λx x=>True) (fK a c n) σ):rp X A E k tgt (.rng a b c) σ Q:=λg s v S r=>by
 refine az λkk=>?_;refine yB r λq t u y W5 e=>?_;clear r;subst W5;have G:Go X aL g σ s g σ {s with heap:=s.heap.push {cls:=.type "range_iterator",data:=.fields #[rawInt a,rawInt (Builtin.Range.rangeSize a b c),rawInt c]}}:=Go.keeps S λb o e=>bJ _ e;exact kk<|wpAny_pyIter_range (S.in_ q _ e) jT ⟨g,σ,_,_,_,_,G,uY,(O6 (c:=c)).itr k tgt,(BX rfl (dG S (bC _)) a n (by exact aaE (aq hn)<|cB _ rfl) rfl),h⟩
set_option backward.match.sparseCases false
theorem uL:∀(names:List (Str×NameKind)) (h:Heap) (acc:List (Str×Addr)) (p:Str×Addr),p∈cellsFrom h.objs.size names acc->
  p∈acc∨(h.objs.size<=p.2/\(pushCells h names).IsCell p.2 none/\(p.1,NameKind.cell)∈names)
 |[],h,acc,p,hp=>.inl hp
 |(x,k)::r,h,acc,p,hp=>by
  unfold cellsFrom at hp;unfold pushCells
  by_cases hk:(k==NameKind.cell)=true
  ·rw[aA hk]at hp ⊢
   have e:=uL r (h.push {cls:=.type "cell",data:=.cell none}) ((x,h.objs.size)::acc) p (by exact aaE (iA ..)<|hp);rcases e with e|⟨e1,e2,e3⟩
   ·rcases dm.mp e with e|e
    ·clear hp;refine aaE e ?_
     refine .inr (cA (bC _) (aE _ (pushCells_keeps _ _ _ _ (cB _ rfl)) rfl) ?_);refine aaE (show k=.cell from by simpa using hk) ?_;exact cV
    ·exact .inl e
   ·rw[iA]at e1
    exact .inr (cA (Nat.le_of_succ_le e1) e2 (cj _ e3))
  ·rw[ar hk]at hp ⊢
   rcases uL r h acc p hp with e|⟨e1,e2,e3⟩
   ·exact .inl e
   ·exact .inr (cA e1 e2 (cj _ e3))
theorem Bm:∀(names:List (Str×NameKind)) (n:Nat) (acc:List (Str×Addr)),acc.Pairwise (λx y=>x.2≠y.2)->(∀p∈acc,p.2<n)->(cellsFrom n names acc).Pairwise (λx y=>x.2≠y.2)
 |[],n,acc,hp,_=>hp
 |(x,k)::r,n,acc,hp,hl=>by
  unfold cellsFrom
  split
  ·exact Bm r (n+1) _ (List.pairwise_cons.mpr ⟨λy hy e=>de _ (e▸hl y hy),hp⟩) λp hq=>by
    rcases dm.mp hq with e|e
    ·clear hq;exact aaE e<|lN _
    ·exact xu (hl p e)
  ·exact Bm r n acc hp hl
noncomputable def iS(env:Env):List (Str×NameKind)->List (Str×Addr)->List (Str×Addr)
 |[],acc=>acc
 |(x,k)::r,acc=>if k==.free then iS env r ((x,(env.cells.lookup x).getD 0)::acc)else iS env r acc
noncomputable def k9(env:Env)(names:List (Str×NameKind)):Bool:=names.all λp=>p.2 !=.free||((env.cells.lookup p.1).isSome&&(env.kindOf p.1==some .cell||env.kindOf p.1==some .free))
theorem yc{env:Env}{x:Str}{k:NameKind}(h:(k !=.free||((env.cells.lookup x).isSome&&(env.kindOf x==some .cell||env.kindOf x==some .free)))=true)(hk:k=.free):
  (∃c,env.cells.lookup x=some c)/\(env.kindOf x=some .cell∨env.kindOf x=some .free):=by
 subst hk;rw[show((NameKind.free !=NameKind.free)=false)from rfl,Bool.false_or,mF,qy,cM,cM]at h;exact⟨Ax.mp h.1,h.2⟩
theorem Nl{scope:Scope}{env:Env}(h:k9 env scope.names=true):closureFor scope env=pure (iS env scope.names []):=by
 have go:∀(names:List (Str×NameKind)) (acc:List (Str×Addr)),k9 env names=true->(forIn names acc λ(x:Str×NameKind) (cs:List (Str×Addr))=>(if (x.2==.free)=true then do
   let a ←cellOf env x.1
   pure (ForInStep.yield ((x.1,a)::cs))else pure (ForInStep.yield cs):Sem (ForInStep (List (Str×Addr)))))=pure (iS env names acc):=by
  intro names
  induction names with
  |nil=>intro acc y;rfl
  |cons p r ih=>
   obtain⟨x,k⟩:=p;intro acc hf;unfold k9 at hf;rw[List.all_cons,mF]at hf;refine aaE (qz ..) ?_;dsimp only[iS]
   by_cases hk:(k==NameKind.free)=true
   ·refine aaE (aA hk) ?_
    have hU:k=.free:=by simpa using hk
    obtain⟨⟨c,hc⟩,_⟩:=yc hf.1 hU;clear hk;subst hU;have ec:cellOf env x=pure c:=by unfold cellOf;exact aaE hc rfl
    (refine aaE (aA rfl)<|aaE ec<|aaE hc ?_)
    exact ih _ hf.2
   ·refine aaE (ar hk) ?_
    simp only[hk,nO,j7,pure_bind];exact ih _ hf.2
 unfold closureFor;have:=go scope.names [] h;simp only[bind_pure]at this ⊢;exact this
theorem sW{env:Env}:∀(names:List (Str×NameKind)) (acc:List (Str×Addr)) (p:Str×Addr),k9 env names=true->p∈iS env names acc->p∈acc∨((p.1,NameKind.free)∈names/\env.cells.lookup p.1=some p.2/\(env.kindOf p.1=some .cell∨env.kindOf p.1=some .free))
 |[],acc,p,_,hp=>.inl hp
 |(x,k)::r,acc,p,hf,hp=>by
  unfold k9 at hf;rw[List.all_cons,mF]at hf;dsimp only[iS]at hp
  by_cases hk:(k==NameKind.free)=true
  ·rw[aA hk]at hp
   have hU:k=.free:=by simpa using hk
   clear hk;subst hU;rcases sW r _ p hf.2 hp with e|⟨e1,e2⟩
   ·rcases dm.mp e with e|e
    ·clear hp;subst e
     obtain⟨⟨c,hc⟩,h1⟩:=yc hf.1 rfl;exact .inr ⟨cV,by simp[hc],h1⟩
    ·exact .inl e
   ·exact .inr ⟨cj _ e1,e2⟩
  ·rw[ar hk]at hp
   rcases sW r _ p hf.2 hp with e|⟨e1,e2⟩
   ·exact .inl e
   ·exact .inr ⟨cj _ e1,e2⟩
theorem Cb{env:Env}(wx:env.cells.Pairwise λx y=>x.2≠y.2):∀(names:List (Str×NameKind)) (acc:List (Str×Addr)),k9 env names=true->(names.map (·.1)).Nodup->acc.Pairwise (λx y=>x.2≠y.2)->
  (∀p∈acc,env.cells.lookup p.1=some p.2/\p.1 ∉ names.map (·.1))->(iS env names acc).Pairwise (λx y=>x.2≠y.2)
 |[],acc,_,_,hp,_=>hp
 |(x,k)::r,acc,hf,hn,hp,ha=>by
  unfold k9 at hf;rw[List.all_cons,mF]at hf;rw[eB,sf]at hn;dsimp only[iS]
  by_cases hk:(k==NameKind.free)=true
  ·refine aaE (aA hk) ?_
   have hU:k=.free:=by simpa using hk
   clear hk;subst hU;obtain⟨⟨c,hc⟩,h1⟩:=yc hf.1 rfl;refine Cb wx r _ hf.2 hn.2 (List.pairwise_cons.mpr ⟨λy hy e=>?_,hp⟩) λp hq=>?_
   ·obtain⟨e1,e2⟩:=ha y hy
    have:=name_of_addr wx (mem_of_lookup hc) (mem_of_lookup (by(refine aaE e1<|aaE (aq e)<|aaE hc ?_);rfl));exact e2 (by(refine aaE (aq this)<|aaE eB ?_);exact cV)
   ·rcases dm.mp hq with e|e
    ·clear hq;subst e;exact⟨by simp[hc],hn.1⟩
    ·exact⟨(ha p e).1,λq=>(ha p e).2 (by exact aaE eB<|cj _ q)⟩
  ·exact aaE (ar hk)<|Cb wx r _ hf.2 hn.2 hp λp hq=>⟨(ha p hq).1,λq=>(ha p hq).2 (by exact aaE eB<|cj _ q)⟩
theorem Be{β:Type}:∀{l:List (Str×β)} {x:Str} {k:β},(l.map (·.1)).Nodup->(x,k)∈l->l.lookup x=some k
 |(y,b)::r,x,k,hn,hm=>by
  rw[eB,sf]at hn;refine aaE cL ?_;rcases dm.mp hm with e|e
  ·clear hm;cases e;simp
  ·have:x≠y:=λq=>hn.1 (q▸cb.mpr ⟨_,e,rfl⟩)
   exact aaE (uD this)<|Be hn.2 e
theorem uH{env:Env}:∀(names:List (Str×NameKind)) (x:Str),
  (names.map λ(n,k)=>if (k==NameKind.free&&env.scope.kind==.function&&env.kindOf n==some .cell)then (n,NameKind.cell)else (n,k)).lookup x=
   (names.lookup x).map λk=>if (k==NameKind.free&&env.scope.kind==.function&&env.kindOf x==some .cell)then NameKind.cell else k
 |[],x=>rfl
 |(y,k)::r,x=>by
  refine aaE eB ?_
  by_cases hc:(k==NameKind.free&&env.scope.kind==.function&&env.kindOf y==some .cell)=true
  ·show List.lookup x ((if _ then (y,NameKind.cell)else (y,k))::_)=_
   refine aaE (aA hc) ?_
   by_cases q:x=y
   ·subst q
    (refine aaE cL<|aaE cL<|aaE (beq_self_eq_true ..) ?_)
    show some NameKind.cell=some (if _ then _ else _);exact aaE (aA hc) rfl
   ·(refine aaE cL<|aaE cL<|aaE (uD q) ?_)
    exact uH (env:=env) r x
  ·show List.lookup x ((if _ then (y,NameKind.cell)else (y,k))::_)=_
   refine aaE (ar hc) ?_
   by_cases q:x=y
   ·subst q
    (refine aaE cL<|aaE cL<|aaE (beq_self_eq_true ..) ?_)
    show some k=some (if _ then _ else _);exact aaE (ar hc) rfl
   ·(refine aaE cL<|aaE cL<|aaE (uD q) ?_)
    exact uH (env:=env) r x
noncomputable def cq(scope:Scope)(C:Addr)(env:Env):Env:=
 {scope:=relabel scope env,locals:=C,globals:=env.globals,cells:=cellsFrom (C+1) scope.names (iS env scope.names []),qual:=env.qual,func:=none,code:=env.code,frame:=env.frame,builtins:=env.builtins}
theorem NW
  (h:∀cenv:Env,{cenv with scope:=relabel scope env}=cq scope s.heap.objs.size env->cenv.locals=s.heap.objs.size->Q cenv {s with heap:=pushCells (s.heap.push {cls:=.type "dict",data:=.dict #[]}) scope.names}):
  wpAny M A (newFunctionEnv scope env.globals (iS env scope.names []) [] env.qual none .none (some env)) Q E s:=by
 simp only[newFunctionEnv,AN,if_true];refine ag (wpAny_alloc ?_);refine ag (wpAny_layCells _ (λname kind cells=>by cases pY:kind==NameKind.cell<;>simp[pY]) _ _ _ _ ?_);exact aaE (show({s with heap:=s.heap.push {cls:=.type "dict",data:=.dict #[]}}:Shared).heap.objs.size=s.heap.objs.size+1 from iA ..)<|ag<|aaE List.forIn_nil<|aO (aO (h _ rfl rfl))
noncomputable def oz(scope:Scope)(m:Mp):Mp:=λy=>if scope.names.lookup y=some .free then m y else none
theorem P1{X:Cx}{env:Env}{m:Mp}{g:View}{σ:St}{s:Shared}{scope:Scope}(S:Sat X g σ s)(F:Frm X env m g σ s)(hk:scope.kind=.function)(hf:k9 env scope.names=true)(hn:(scope.names.map (·.1)).Nodup):
  Frm X (cq scope s.heap.objs.size env) (oz scope m) g σ {s with heap:=pushCells (s.heap.push {cls:=.type "dict",data:=.dict #[]}) scope.names}/\
   Go X aL g σ s g σ {s with heap:=pushCells (s.heap.push {cls:=.type "dict",data:=.dict #[]}) scope.names}:=by
 have keep:∀b o,s.heap.get? b=some o->(pushCells (s.heap.push {cls:=.type "dict",data:=.dict #[]}) scope.names).get? b=some o:=λb o e=>pushCells_keeps _ _ _ _ (bJ _ e);have G:Go X aL g σ s g σ {s with heap:=pushCells (s.heap.push {cls:=.type "dict",data:=.dict #[]}) scope.names}:=Go.keeps S keep
 have src:∀y c,(cq scope s.heap.objs.size env).cells.lookup y=some c->
   (scope.names.lookup y=some .free/\env.cells.lookup y=some c/\(env.kindOf y=some .cell∨env.kindOf y=some .free))∨
   (scope.names.lookup y=some .cell/\s.heap.objs.size<c/\(pushCells (s.heap.push {cls:=.type "dict",data:=.dict #[]}) scope.names).IsCell c none):=λy c hc=>by
  have hm:(y,c)∈cellsFrom (s.heap.objs.size+1) scope.names (iS env scope.names []):=mem_of_lookup hc;have rD:=uL scope.names (s.heap.push {cls:=.type "dict",data:=.dict #[]}) (iS env scope.names []) (y,c) (by exact aaE (iA ..)<|hm);rcases rD with h1|⟨h1,h2,h3⟩
  ·rcases sW scope.names [] (y,c) hf h1 with h1|⟨h1,h2,h3⟩
   ·cases h1
   ·exact .inl (cA (Be hn h1) h2 h3)
  ·rw[iA]at h1
   exact .inr (cA (Be hn h3) h1 h2)
 refine⟨⟨hk,dG S (bC _),(aE _ ((Heap.Ns.new s.heap (.type "dict")).keeps (pushCells_keeps _ _)) (λx V hm hl=>?_)),λy c hc pY bH=>?_,λy V hm=>?_,?_,λy c hc=>?_,λy c pY hx hc=>?_⟩,G⟩
 ·unfold oz at hm
  split at hm
  ·rename_i q
   have:(cq scope s.heap.objs.size env).kindOf x=(scope.names.lookup x).map _:=uH scope.names x;rw[this,q,Option.map_some]at hl
   split at hl<;>cases hl
  ·exact be hm
 ·rcases src y c hc with ⟨h1,h2,h3⟩|⟨h1,h2,h3⟩
  ·have SR:=bH
   refine fJ (F.cells y c h2 h3 SR) λbR v hi hr=>?_;obtain⟨o,ho⟩:=F.csz y c h2;refine(dP (λe=>?_) v (hi.keeps keep) (λV hm=>?_))
   ·have:=cC ho;rw[e]at this;exact de _ this
   ·unfold oz at hm;rw[aA h1]at hm;exact hr V hm
  ·refine(dP (qE h2) none h3 (λV hm=>?_))
   unfold oz at hm;rw[h1,ar (by decide)]at hm;exact be hm
 ·unfold oz at hm
  split at hm
  ·rename_i q
   have YQ:(cq scope s.heap.objs.size env).kindOf y=some .cell∨(cq scope s.heap.objs.size env).kindOf y=some .free:=by
    have:(cq scope s.heap.objs.size env).kindOf y=(scope.names.lookup y).map _:=uH scope.names y
    (refine aaE this<|aaE q ?_)
    simp only[Option.map_some]
    split
    ·exact .inl rfl
    ·exact .inr rfl
   obtain⟨⟨c,hc⟩,t6⟩:=yc (nR.mp hf (y,.free) (mem_of_lookup q)) rfl
   have bH:Free X g σ c:=by
    rcases F.var y V hm with h|⟨h,c',h1,h2⟩
    ·rcases t6 with h'|h'<;>rw[h']at h<;>cases h
    ·rw[hc]at h1;obtain rfl:=bq h1;exact h2
   have iW:∃c',(cq scope s.heap.objs.size env).cells.lookup y=some c':=by
    have go:∀(names:List (Str×NameKind)) (acc:List (Str×Addr)),(y,NameKind.free)∈names∨(∃c,acc.lookup y=some c)->∃c,(iS env names acc).lookup y=some c:=by
     intro names
     induction names with
     |nil=>intro acc h;rcases h with h|h;cases h;exact h
     |cons p r ih=>
      intro acc h;obtain⟨x,k⟩:=p;dsimp only[iS]
      split
      ·rename_i L6
       refine ih _ ?_;rcases h with h|⟨c,h⟩
       ·rcases dm.mp h with e|e
        ·cases e;exact .inr ⟨(env.cells.lookup y).getD 0,by refine aaE cL ?_;simp⟩
        ·exact .inl e
       ·by_cases q:y=x
        ·exact .inr ⟨(env.cells.lookup x).getD 0,by refine aaE cL ?_;simp[q]⟩
        ·exact .inr ⟨c,by(refine aaE cL<|aaE (uD q) ?_);exact h⟩
      ·rename_i L6
       refine ih _ ?_;rcases h with h|h
       ·rcases dm.mp h with e|e
        ·cases e;exact absurd rfl L6
        ·exact .inl e
       ·exact .inr h
    obtain⟨c',dA⟩:=go scope.names [] (.inl (mem_of_lookup q));exact uK scope.names (s.heap.objs.size+1) (iS env scope.names []) dA
   obtain⟨c',dA⟩:=iW;refine .inr (dP YQ c' dA ?_);rcases src y c' dA with ⟨_,h2,_⟩|⟨h1,_⟩
   ·rw[hc]at h2;obtain rfl:=bq h2;exact bH
   ·rw[q]at h1;cases h1
  ·exact be hm
 ·refine Bm scope.names _ _ (Cb F.inj scope.names [] hf hn List.Pairwise.nil (λp hp=>(nomatch hp))) λp hp=>?_
  rcases sW scope.names [] p hf hp with h1|⟨_,h2,_⟩
  ·cases h1
  ·obtain⟨o,ho⟩:=F.csz p.1 p.2 h2
   exact xu (cC ho)
 ·rcases src y c hc with ⟨h1,h2,h3⟩|⟨h1,h2,o,h3,_⟩
  ·obtain⟨o,ho⟩:=F.csz y c h2;exact⟨o,keep _ _ ho⟩
  ·exact⟨o,h3⟩
 ·rcases src y c hc with ⟨h1,h2,h3⟩|⟨h1,h2,_⟩
  ·rcases h3 with h3|h3
   ·exact F.own y c h3 hx h2
   ·have:(cq scope s.heap.objs.size env).kindOf y=(scope.names.lookup y).map _:=uH scope.names y
    rw[this,h1,h3,Option.map_some]at pY
    split at pY
    ·rename_i q;simp at q
    ·cases pY
  ·exact dG S (dS h2)
noncomputable def PvD(N:Addr)(env:Env)(D:Addr):Pv:=⟨λb=>(bg N env).a b∨b=D,λx=>False⟩
theorem PvD.le:(bg N env).Le s (PvD N env D):=⟨λx x x h=>.inl h,λx x h=>h⟩
def Dst(X:Cx)(D:Addr)(out:List AV)(g:View)(σ:St)(s:Shared):Prop:=Free X g σ D/\∃ys,s.heap.IsList D ys.toArray/\RepL g out ys
theorem Dst.go(h:Dst X D out g σ s)(G:Go X P g σ s g' ab s')(hp:¬P.a D):Dst X D out g' ab s':=by
 refine az λkk=>?_;refine fJ h λhf ys cI r=>?_;obtain⟨o,ho,hc,n,hd⟩:=cI;refine kk<|(dP (hf.go G ho hp) ys ?_ (r.le G.le));refine az λkk=>?_;rcases G.run.keep D o ho hf.2.1 hf.2.2 hp with q|⟨q,_⟩
 ·exact kk<|(kY o q hc n hd)
 ·refine bk q λx x q=>?_;rw[hd]at q;cases q
theorem Dst.at(h:Dst X D out g σ s):∃o,s.heap.get? D=some o:=let ⟨_,_,⟨o,ho,_⟩,_⟩:=h;⟨o,ho⟩
noncomputable def wI(X:Cx)(A:Around)(env:Env)(m:Mp):List Expr->St->(Bool->St->Prop)->Prop
 |[],σ,Q=>Q true σ
 |[c],σ,Q=>EvB X A aC env m c σ Q
 |_,_,_=>False
theorem RC(h:wI X A env m ifs σ Q)(S:Sat X g σ s)(F:Frm X env m g σ s):
  wpAny (model P0 X.w) A (forIn ifs true λc r=>if r=true then do let ok ←isTrue c env (eval c env);pure (ForInStep.yield ok)else pure (ForInStep.yield r)) (PostB X aL g σ s Q) aC s:=by
 match ifs,h with
 |[],h=>exact wpAny_tests_nil ⟨g,σ,.refl S,h⟩
 |[c],h=>exact wpAny_tests_one (h g s S F)
noncomputable def nD:=Mp->St->List AV->(Mp->St->List AV->Prop)->Prop
noncomputable def la(X:Cx)(A:Around)(Dep:St->St->Prop)(P:Pv)(env:Env)(target:Expr)(ifs:List Expr)(J:nD)(K:Mp->St->List AV->Prop):List AV->Mp->St->List AV->Prop
 |[],m,σ,out=>K m σ out
 |V::l,m,σ,out=>As X A aC P env m target V σ λm₁ ay=>wI X A env m₁ ifs ay λb aS=>
   if b then J m₁ aS out (λm₂ dZ Cp=>Dep σ dZ/\la X A Dep P env target ifs J K l m₂ dZ Cp)else Dep σ aS/\la X A Dep P env target ifs J K l m₁ aS out
noncomputable def pA(e:Expr)(depth:Nat)(target iter:Expr)(ifs:List Expr)(it acc:Value)(env:Env)(T:Sem Unit):Sem Fin:=do
 standAt iter.pos
 match ←pyNext it with
 |none=>pure (.done .next)
 |some v=>
  letOwnedTupleGo target it v
  assign target env v
  let mut ok:=true
  for c in ifs do
   if ok then ok ←isTrue c env (eval c env)
  if ok then T
  again (.compLoop e depth it acc env)
def tX(X:Cx)(A:Around)(N:Addr)(env:Env)(D:Addr)(T:Sem Unit)(J:nD):Prop:=
 ∀m σ out K g s,J m σ out K->Sat X g σ s->Frm X env m g σ s->Dst X D out g σ s->wpAny (model P0 X.w) A T (λx s'=>∃m' ab wy g',Go X (PvD N env D) g σ s g' ab s'/\Frm X env m' g' ab s'/\Dst X D wy g' ab s'/\K m' ab wy) aC s
noncomputable def pW(env:Env)(D:Addr):Pv:=⟨λb=>b=env.locals∨(∃x,env.cells.lookup x=some b)∨b=D,λy=>False⟩
theorem QL{own:Pv}{N:Addr}{env:Env}{D:Addr}(h:own.Apart (pW env D)):own.Apart (PvD N env D):=
 ⟨λa h1 h2=>h.1 a h1 (by rcases h2 with ⟨_,h2|h2⟩|h2;exact .inl h2;exact .inr (.inl h2);exact .inr (.inr h2)),λx x h=>h.elim⟩
theorem P2{X:Cx}{own bU:Pv}{env:Env}{D:Addr}{m:Mp}{out:List AV}{g:View}{σ:St}{s:Shared}(h:own.Apart (pW env D))(k:bU.Le s own)(F:Frm X env m g σ s)(hd:Dst X D out g σ s):bU.Apart (pW env D):=by
 refine⟨λa h1 h2=>?_,λy y h=>h.elim⟩
 have:∃o,s.heap.get? a=some o:=by
  clear h h1;rcases h2 with rfl|⟨x,hx⟩|rfl
  ·exact F.atL
  ·exact F.csz x a hx
  ·exact hd.at
 obtain⟨o,e⟩:=this;exact h.1 a (k.1 a o e h1) h2
inductive CLI(X:Cx)(A:Around)(N D:Addr)(env:Env)(target:Expr)(ifs:List Expr)(Dep:St->St->Prop)(It:l9)(Pb:Pv)(av:View)(fL:St)(aj:Shared)(J:nD)(K:Mp->St->List AV->Prop)(n:Nat)(s:Shared):Prop
 |mk (own:Pv) (l:List AV) (m:Mp) (out:List AV) (g:View) (σ:St) (e:l.length=n) (G:Go X Pb av fL aj g σ s) (F:Frm X env m g σ s) (hd:Dst X D out g σ s) (ho:own.Le aj Pb) (aZ:own.Apart (pW env D)) (hit:It own l g σ s) (h:la X A Dep (bg N env) env target ifs J K l m σ out)
theorem FH{X:Cx}{A:Around}{k depth:Nat}{N:Addr}{e target iter:Expr}{ifs:List Expr}{it:Value}{D:Addr}{env:Env}{T:Sem Unit}{J:nD}{K:Mp->St->List AV->Prop}{Dep:St->St->Prop}{It:l9}{Pb:Pv}
  {av:View}{fL:St}{aj:Shared}(hA:Room A k)(rE:compTurn e depth it (.ref D) env=pA e depth target iter ifs it (.ref D) env T)
  (bH:(Code.compLoop e depth it (.ref D) env).isFrame=false)(kx:A.under (.compLoop e depth it (.ref D) env)=A)(gB:(Code.compLoop e depth it (.ref D) env).quiet=true)
  (I:Itr X k (some target) it Dep It)(t7:(PvD N env D).Le aj Pb)(z0:D<N)(hJ:tX X A N env D T J)
  {own:Pv}{l:List AV}{m:Mp}{out:List AV}{g:View}{σ:St}{s:Shared}(G:Go X Pb av fL aj g σ s)(F:Frm X env m g σ s)(hd:Dst X D out g σ s)(ho:own.Le aj Pb)(aZ:own.Apart (pW env D))(hit:It own l g σ s)
  (h:la X A Dep (bg N env) env target ifs J K l m σ out):
  codeAny (model P0 X.w) A (.compLoop e depth it (.ref D) env) (λr s'=>r=.ok .next/\∃m' ab wy g',Go X Pb av fL aj g' ab s'/\Frm X env m' g' ab s'/\Dst X D wy g' ab s'/\K m' ab wy) s:=by
 refine codeAny_loop gB (CLI X A N D env target ifs Dep It Pb av fL aj J K) (λn s hI=>?_) l.length ⟨own,l,m,out,g,σ,rfl,G,F,hd,ho,aZ,hit,h⟩;refine az λkk=>?_;clear G F hd ho aZ hit h;obtain⟨own,l,m,out,g,σ,c5,G,F,hd,ho,aZ,hit,h⟩:=hI;subst c5;refine kk<|aaE kx ?_
 as_aux_lemma=>
 have rk:(model P0 X.w).den (.compLoop e depth it (.ref D) env)=(compTurn e depth it (.ref D) env).onRaise (λx=>do noteFrame x env;theTreesLotGoes x):=by
  show(if (Code.compLoop e depth it (.ref D) env).isFrame=true then _ else _)=_;refine aaE bH ?_;rfl
 refine aaE rk<|wpAny_noted (aB (E:=aC) ?_ i2 λy y x=>x.elim);refine aaE rE ?_;have FgoN:∀{bU:Pv} {m:Mp} {g g':View} {σ ab:St} {s s':Shared},bU.Apart (pW env D)->Frm X env m g σ s->Go X bU g σ s g' ab s'->Frm X env m g' ab s':=λha F G=>F.goP G (λq=>ha.1 _ q (.inl rfl)) λx c hc q=>ha.1 _ q (.inr (.inl ⟨x,hc⟩));refine ag (d7 ?_)
 clear kk;cases l with
 |nil=>
  refine ag (aB (I.stop hA G.sat hit) (λr s₁ aR=>rg aR λhr g' G'=>?_) i2);clear aR;subst hr;exact aO ⟨rfl,m,σ,out,g',G.comp G' ho,FgoN aZ F G',hd.go G' (λq=>aZ.1 _ q (.inr (.inr rfl))),h⟩
 |cons V l=>
  refine ag (aB (I.next hA G.sat hit) (λr s₁ ba=>ax ba λv hr aF=>?_) i2);clear ba;refine aaE hr ?_;refine ag (aB aF (λy s₂ bh=>bh.rec λbj bU dj G' rv iu=>?_) i2);have lh:=dj.back' G.run ho;have oE:=P2 aZ dj F hd;have jk:bU.Apart (PvD N env D):=QL oE;have jK:=FgoN aZ F G';have md:=hd.go G' (λq=>aZ.1 _ q (.inr (.inr rfl)));refine ag (aB (h bj s₂ v G'.sat jK rv) (λy a8 zz=>zz.rec λeG lp dZ bL eN bW=>?_) i2);have YR:¬(bg N env).a D:=λq=>Nat.not_le.mpr z0 q.1;have tu:=md.go bL YR;refine ag (aB (RC bW bL.sat eN) (λb zy zz=>zz.rec λow pC fV ir=>?_) i2);have Ca:Go X (PvD N env D) bj σ s₂ ow pC zy:=(bL.weaken PvD.le).trans fV.any;have Gs:=(G.comp G' ho).comp Ca t7
  clear zz;cases b with
  |false=>
   exact aO<|⟨rfl,l.length,lN _,bU,l,lp,out,ow,pC,rfl,Gs,eN.go fV,tu.go fV id,lh,oE,I.keep iu Ca jk ir.1,ir.2⟩
  |true=>
   refine ag (aB (hJ _ _ _ _ ow zy ir fV.sat (eN.go fV) (tu.go fV id)) (λy aal bN=>sr bN λW6 VI SS W7 wz W8 VJ W9 jO=>?_) i2);exact aO<|⟨rfl,l.length,lN _,bU,l,W6,SS,W7,VI,rfl,Gs.comp wz t7,W8,VJ,lh,oE,I.keep iu (Ca.trans wz) jk W9,jO⟩
theorem Fv{X:Cx}{A:Around}{e:Expr}{depth:Nat}{it acc:Value}{env:Env}{R:Result->Shared->Prop}{s:Shared}
  (bH:(Code.compStart e depth it acc env).isFrame=false)(kx:A.under (.compStart e depth it acc env)=A)(gB:(Code.compLoop e depth it acc env).quiet=true)
  (has:((clausesOf e)[depth]?).elim false (·.is_async !=0)=false)
  (tv:wpAny (model P0 X.w) A (pyIter it) (λr s'=>r=it/\s'=s) aC s)(h:codeAny (model P0 X.w) A (.compLoop e depth it acc env) R s):codeAny (model P0 X.w) A (.compStart e depth it acc env) R s:=by
 refine codeAny_of_tree<|aaE kx ?_
 have rk:(model P0 X.w).den (.compStart e depth it acc env)=(compStart e depth it acc env).onRaise (λx=>do noteFrame x env;standAt theWindowsPlace):=by
  show(if (Code.compStart e depth it acc env).isFrame=true then _ else _)=_;refine aaE bH ?_;rfl
 refine aaE rk<|wpAny_notedAt (aB (E:=aC) ?_ i2 λy y x=>x.elim)
 have fin:wpAny (model P0 X.w) A (do
   let x ←pyIter it
   again (.compLoop e depth x acc env)) (λfin s'=>match fin with|.done f=>R (.ok f) s'|.again c'=>c'.quiet=true/\codeAny (model P0 X.w) A c' R s') aC s:=
  ag (aB tv (λr s' aR=>bY aR λe1 e2=>by clear bH kx tv rk aR;subst e1 e2;exact aO ⟨gB,h⟩) i2)
 unfold compStart;simp only[has,nO,j7];refine ag (wpAny_askSetting (wpAny_ite ?_))
 split
 ·exact aO ⟨gB,h⟩
 ·refine ag (gX ?_)
  split
  ·exact ag (d7 fin)
  ·exact fin
section
variable {X:Cx} {A:Around} {k:Nat} {N:Addr} {env:Env} {D:Addr}
noncomputable def J1(X:Cx)(A:Around)(env:Env)(elt:Expr):nD:=λm σ out K=>Ev X A aC env m elt σ λW ab=>out.length<=65536/\K m ab (out++[W])
noncomputable def T1(D:Addr)(env:Env)(elt:Expr):Sem Unit:=do let _ ←call (.builtin "list.append") [.ref D,←eval elt env]
theorem kj(hD:D≠env.locals/\∀x c,env.cells.lookup x=some c->c≠D):tX X A N env D (T1 D env elt) (J1 X A env elt):=λm σ out K g s h S F hd=>by
 refine ag (aB (h g s S F) (λv s₁ zz=>zz.rec λaJ W ay ai aX ba=>bY ba λhz aF=>?_) i2);refine az λkk=>?_;refine fJ (hd.go ai id) λhf ys hl r=>?_;refine kk<|ag (wpAny_list_append hl (λh' eU hs=>aO ?_) (by(refine aaE df<|aaE f3<|aaE r.length ?_);exact kA hz));have aN:Go X (PvD N env D) aJ ay s₁ aJ ay {s₁ with heap:=h'}:=Go.sameBut ai.sat hs hf (.inr rfl);have fh:=F.go ai;exact(lU m ay (out++[W]) aJ (ai.any.trans aN) (fh.sameBut hs hD.1 hD.2) (dP hf (ys++[v]) (by simpa using eU) (r.append (.cons aX .nil))) aF)
noncomputable def J2(X:Cx)(A:Around)(k:Nat)(N:Addr)(env:Env)(elt i9 fj:Expr)(yW:List Expr):nD:=λm σ out K=>lz X A aC k env m (some i9) fj σ λDep l aS=>
 la X A Dep (bg N env) env i9 yW (J1 X A env elt) K l m aS out
noncomputable def T2(e:Expr)(D:Addr)(env:Env)(fj:Expr):Sem Unit:=do
 let x ←eval fj env
 standAt fj.pos
 let x ←foldedSetIterable fj env x;let _ ←runOwn (.compStart e 1 (←holding [x] (pyIter x)) (.ref D) env) env
theorem Vk{e elt i9 fj:Expr}{yW:List Expr}(hA:Room A k)(hD:D≠env.locals/\∀x c,env.cells.lookup x=some c->c≠D)(z0:D<N)
  (hT:∀it,compTurn e 1 it (.ref D) env=pA e 1 i9 fj yW it (.ref D) env (T1 D env elt))
  (bH:∀it,(Code.compLoop e 1 it (.ref D) env).isFrame=false)(kx:∀it,A.under (.compLoop e 1 it (.ref D) env)=A)(gB:∀it,(Code.compLoop e 1 it (.ref D) env).quiet=true)
  (ky:∀it,(Code.compStart e 1 it (.ref D) env).isFrame=false)(pD:∀it,A.under (.compStart e 1 it (.ref D) env)=A)(has:((clausesOf e)[1]?).elim false (·.is_async !=0)=false)
  (hs:∀x,foldedSetIterable fj env x=pure x):tX X A N env D (T2 e D env fj) (J2 X A k N env elt i9 fj yW):=λm σ out K g s h S F hd=>by
 refine ag (aB (h g s S F) (λv s₁ aF=>?_) i2);refine ag (d7 (ag (dn (hs v) ?_)));refine ag (eL (aB aF (λit s₂ zz=>zz.rec λbj aS Dep It own l G dj I hit bA=>?_) i2));refine ag (wpAny_runOwn ?_);refine Fv (ky it) (pD it) (gB it) has (I.self hA G.sat hit ⟨rfl,rfl⟩) ?_
 have aZ:own.Apart (pW env D):=by
  refine⟨λa h1 h2=>?_,λy y h=>h.elim⟩
  have:∃o,s.heap.get? a=some o:=by
   clear hD z0 hT bH kx gB ky pD h1;rcases h2 with rfl|⟨x,hx⟩|rfl
   ·exact F.atL
   ·exact F.csz x a hx
   ·exact hd.at
  obtain⟨o,e⟩:=this;exact dj.1 a o e h1
 refine gU (FH (J:=J1 X A env elt) (K:=K) hA (hT it) (bH it) (kx it) (gB it) I (Pv.Le.refl s _) z0 (kj hD) G.any (F.go G) (hd.go G id) ⟨λa o e q=>(dj.1 a o e q).elim,λi e q=>(dj.2 i e q).elim⟩ aZ hit bA) λr s' bh=>bY bh λhr bW=>?_;clear bh;refine aaE hr ?_;exact aO bW
end
theorem Go.freeze(S:Sat X g σ s)(hf:Free X g σ D)(ho:s.heap.get? D=some o):Go X (cH D) g σ s (g.add D o) σ s:=by
 have hle:=View.le_add o hf.1;refine⟨⟨S.le.trans hle,λb o' e=>?_,λb t e=>?_,λp hp=>?_⟩,hle,λb o' e hp=>?_,λ_ _ _ _=>kb,.refl X _ σ s⟩
 ·unfold View.add at e
  split at e
  ·rename_i q;(refine aaE (aq (bq e)) ?_);exact aaE q<|ho
  ·exact S.in_ b o' e
 ·obtain⟨e1,e2⟩:=S.trk b t e
  have:b≠D:=λq=>by rw[q,hf.2.1]at e;exact be e
  exact⟨by unfold View.add;exact aaE (ar this)<|e1,e2.le hle⟩
 ·refine az λkk=>?_
  refine iE (S.tab p hp) λe1 e2 e4 ps e3=>?_;exact kk<|(mT (by unfold View.add;exact aaE (ar (hf.2.2 p hp))<|e1) e2 (by unfold View.add;split;simp;exact e4) ps e3)
 ·unfold View.add;exact aaE (ar (show ¬b=D from λq=>hp q)) rfl
theorem Gv{X:Cx}{A:Around}{E:VP}{k:Nat}{env:Env}{m:Mp}{σ:St}{Q:AP}{use:Option (Value->Sem Unit)}{QQ:VP}{ppos:Pos}{g:View}{s:Shared}(S:Sat X g σ s)(F:Frm X env m g σ s){elt target iter:Expr}{ifs:List Expr}{rest:List Comprehension}{scope:Scope}{pos:Pos}(T:Addr->Env->Sem Unit)(J:Addr->Env->nD)
  (hA:Room A k)
  (rE:∀C D it,compTurn (.ListComp elt (⟨target,iter,ifs,0⟩::rest) scope pos) 0 it (.ref D) (cq scope C env)=pA (.ListComp elt (⟨target,iter,ifs,0⟩::rest) scope pos) 0 target iter ifs it (.ref D) (cq scope C env) (T D (cq scope C env)))
  (hJ:∀D C,D<C->(D≠(cq scope C env).locals/\∀x c,(cq scope C env).cells.lookup x=some c->c≠D)->tX X A C (cq scope C env) D (T D (cq scope C env)) (J C (cq scope C env)))
  (hk:scope.kind=.function)(hf:k9 env scope.names=true)(hn:(scope.names.map (·.1)).Nodup)(qZ:∀x∈scope.names,x.2=.local->scope.names.lookup x.1=some .local)
  (h:lz X A E k env m (some target) iter σ λDep l aS=>∀C,la X A Dep (bg C (cq scope C env)) (cq scope C env) target ifs (J C (cq scope C env)) (λy ab out=>Q (.lst out) ab) l (oz scope m) aS [])
  (fin:∀(D C:Addr) (g':View) (ab:St) (s':Shared) (m':Mp) (out:List AV),D≠C->s.heap.get? D=none->s.heap.get? C=none->Go X aL g σ s g' ab s'->Frm X (cq scope C env) m' g' ab s'->Dst X D out g' ab s'->Q (.lst out) ab->compPost (model P0 X.w) A E use QQ (.ref D) C (.ok .next) s')
  (hs:∀x,foldedSetIterable iter env x=pure x)
  (bH:∀it D cenv,(Code.compLoop (.ListComp elt (⟨target,iter,ifs,0⟩::rest) scope pos) 0 it (.ref D) cenv).isFrame=false)(kx:∀it D cenv,A.under (.compLoop (.ListComp elt (⟨target,iter,ifs,0⟩::rest) scope pos) 0 it (.ref D) cenv)=A)
  (gB:∀it D cenv,(Code.compLoop (.ListComp elt (⟨target,iter,ifs,0⟩::rest) scope pos) 0 it (.ref D) cenv).quiet=true)
  (ky:∀it D cenv,(Code.compStart (.ListComp elt (⟨target,iter,ifs,0⟩::rest) scope pos) 0 it (.ref D) cenv).isFrame=false)(pD:∀it D cenv,A.under (.compStart (.ListComp elt (⟨target,iter,ifs,0⟩::rest) scope pos) 0 it (.ref D) cenv)=A):
  wpAny (model P0 X.w) A (comprehension (.ListComp elt (⟨target,iter,ifs,0⟩::rest) scope pos) scope env ppos (newList []) false (eval iter env) use) QQ E s:=by
 refine wpAny_comprehension_free (use:=use) (g:=⟨target,iter,ifs,0⟩) (gs:=rest) rfl hs (Nl hf) hk qZ (aB (h g s S F) (λv s₁ aF=>aB aF (λit s₂ zz=>zz.rec λbj aS Dep It own l l6 dj I hit bA=>?_) i2) i2);have jK:=F.go l6;refine iz ?_ (by size_fits);have kp:∀b o,s₂.heap.get? b=some o->(s₂.heap.push {cls:=.type "list",data:=.seq ([]:List Value).toArray}).get? b=some o:=λb o e=>bJ _ e;have bL:Go X aL bj aS s₂ bj aS {s₂ with heap:=s₂.heap.push {cls:=.type "list",data:=.seq ([]:List Value).toArray}}:=Go.keeps l6.sat kp;have eN:=jK.go bL
 have VK:Dst X s₂.heap.objs.size [] bj aS {s₂ with heap:=s₂.heap.push {cls:=.type "list",data:=.seq ([]:List Value).toArray}}:=
  (dP (dG l6.sat (bC _)) ([]) (kY _ (cB _ rfl) rfl 0 rfl) .nil)
 have fY:s₂.heap.objs.size<(s₂.heap.push {cls:=.type "list",data:=.seq ([]:List Value).toArray}).objs.size:=by exact aaE (iA ..)<|lN _
 refine NW λcenv rG iW=>?_;refine aaE rG ?_;obtain⟨tN,fV⟩:=P1 bL.sat eN hk hf hn
 have YT:s₂.heap.objs.size≠(cq scope (s₂.heap.push {cls:=.type "list",data:=.seq ([]:List Value).toArray}).objs.size env).locals/\∀x c,(cq scope (s₂.heap.push {cls:=.type "list",data:=.seq ([]:List Value).toArray}).objs.size env).cells.lookup x=some c->c≠s₂.heap.objs.size:=by
  refine⟨kP fY,λx c hc=>?_⟩;have hm:=mem_of_lookup hc;rcases uL scope.names ((s₂.heap.push {cls:=.type "list",data:=.seq ([]:List Value).toArray}).push {cls:=.type "dict",data:=.dict #[]}) _ (x,c) (by exact aaE (iA ..)<|hm)with h1|⟨h1,_⟩
  ·rcases sW scope.names [] (x,c) hf h1 with h1|⟨_,h1,_⟩
   ·cases h1
   ·obtain⟨o,ho⟩:=jK.csz x c h1
    exact kP (cC ho)
  ·rw[iA]at h1
   exact qE (uS fY h1)
 have HO:=I.keep hit (bL.trans fV) Pv.Apart.noP (I.dep aS);refine Fv (ky _ _ _) (pD _ _ _) (gB _ _ _) rfl (I.self hA fV.sat HO ⟨rfl,rfl⟩) ?_
 have big:∀a o,s₂.heap.objs.size<=a->s.heap.get? a=some o->False:=λa o ha e=>by
  obtain⟨o',e'⟩:=l6.dom e id;exact absurd (cC e') (j0.mpr ha)
 have t7:(PvD (s₂.heap.push {cls:=.type "list",data:=.seq ([]:List Value).toArray}).objs.size (cq scope (s₂.heap.push {cls:=.type "list",data:=.seq ([]:List Value).toArray}).objs.size env) s₂.heap.objs.size).Le s aL:=by
  refine⟨λa o e q=>?_,λy y h=>h⟩
  have:s₂.heap.objs.size<=a:=by
   rcases q with q|q
   ·exact ae (dS fY) q.1
   ·exact aK q.symm
  exact big a o this e
 have aZ:own.Apart (pW (cq scope (s₂.heap.push {cls:=.type "list",data:=.seq ([]:List Value).toArray}).objs.size env) s₂.heap.objs.size):=by
  refine⟨λa h1 h2=>?_,λy y h=>h.elim⟩;obtain⟨o,e⟩:=(I.ex hit).1 a h1;have cG:=cC e;rcases h2 with h2|⟨x,hx⟩|h2
  ·rw[h2]at cG;exact de _ (uS cG fY)
  ·have hm:=mem_of_lookup hx
   rcases uL scope.names ((s₂.heap.push {cls:=.type "list",data:=.seq ([]:List Value).toArray}).push {cls:=.type "dict",data:=.dict #[]}) _ (x,a) (by exact aaE (iA ..)<|hm)with ej|⟨ej,_⟩
   ·rcases sW scope.names [] (x,a) hf ej with ej|⟨_,ej,_⟩
    ·cases ej
    ·obtain⟨o',rH⟩:=F.csz x a ej
     exact dj.1 a o' rH h1
   ·rw[iA]at ej
    exact de _ (uS cG (uS fY ej))
  ·rw[h2]at cG;exact de _ cG
 refine gU (FH (K:=λy ab out=>Q (.lst out) ab) hA (rE _ _ it) (bH _ _ _) (kx _ _ _) (gB _ _ _) I t7 fY (hJ _ _ fY YT) (l6.trans (bL.trans fV)) tN (VK.go fV id)
  dj aZ HO (bA _)) λr s' bN=>su bN λhr m' ab out g' G' F' cZ hq=>?_
 clear bN;refine aaE hr ?_;exact aaE iW<|fin _ _ g' ab s' m' out (kP fY) (fresh_big big _ (bC _)) (fresh_big big _ (dS fY)) G' F' cZ hq
where
 fresh_big {s₂ s:Shared} (big:∀a o,s₂.heap.objs.size<=a->s.heap.get? a=some o->False) (a:Addr) (h:s₂.heap.objs.size<=a):s.heap.get? a=none:=by
  cases e:s.heap.get? a with
  |none=>rfl
  |some o=>exact(big a o h e).elim
theorem mH{X:Cx}{A:Around}{E:VP}{k:Nat}{env:Env}{m:Mp}{σ:St}{Q:AP}{elt target iter:Expr}{ifs:List Expr}{rest:List Comprehension}{scope:Scope}{pos:Pos}(T:Addr->Env->Sem Unit)(J:Addr->Env->nD)
  (hA:Room A k)
  (rE:∀C D it,compTurn (.ListComp elt (⟨target,iter,ifs,0⟩::rest) scope pos) 0 it (.ref D) (cq scope C env)=pA (.ListComp elt (⟨target,iter,ifs,0⟩::rest) scope pos) 0 target iter ifs it (.ref D) (cq scope C env) (T D (cq scope C env)))
  (hJ:∀D C,D<C->(D≠(cq scope C env).locals/\∀x c,(cq scope C env).cells.lookup x=some c->c≠D)->tX X A C (cq scope C env) D (T D (cq scope C env)) (J C (cq scope C env)))
  (hk:scope.kind=.function)(hf:k9 env scope.names=true)(hn:(scope.names.map (·.1)).Nodup)(qZ:∀x∈scope.names,x.2=.local->scope.names.lookup x.1=some .local)
  (h:lz X A E k env m (some target) iter σ λDep l aS=>∀C,la X A Dep (bg C (cq scope C env)) (cq scope C env) target ifs (J C (cq scope C env)) (λy ab out=>Q (.lst out) ab) l (oz scope m) aS [])
  (hs:∀x,foldedSetIterable iter env x=pure x:=by intro y;rfl)
  (bH:∀it D cenv,(Code.compLoop (.ListComp elt (⟨target,iter,ifs,0⟩::rest) scope pos) 0 it (.ref D) cenv).isFrame=false:=by intro y y y;rfl)(kx:∀it D cenv,A.under (.compLoop (.ListComp elt (⟨target,iter,ifs,0⟩::rest) scope pos) 0 it (.ref D) cenv)=A:=by intro y y y;rfl)
  (gB:∀it D cenv,(Code.compLoop (.ListComp elt (⟨target,iter,ifs,0⟩::rest) scope pos) 0 it (.ref D) cenv).quiet=true:=by intro y y y;rfl)
  (ky:∀it D cenv,(Code.compStart (.ListComp elt (⟨target,iter,ifs,0⟩::rest) scope pos) 0 it (.ref D) cenv).isFrame=false:=by intro y y y;rfl)(pD:∀it D cenv,A.under (.compStart (.ListComp elt (⟨target,iter,ifs,0⟩::rest) scope pos) 0 it (.ref D) cenv)=A:=by intro y y y;rfl):
  Ev X A E env m (.ListComp elt (⟨target,iter,ifs,0⟩::rest) scope pos) σ Q:=λg s S F=>by
 refine aaE (eval_ListComp ..)<|Gv S F T J hA rE hJ hk hf hn qZ h (λD C g' ab s' m' out DH D7 rI G' F' cZ hq=>?_) hs bH kx gB ky pD;refine ax F'.ns λmC oF y=>?_;refine(aE mC oF (λh' dM=>?_));refine az λkk=>?_;refine fJ cZ λwR ys cI ro=>?_;obtain⟨o,ho,hc,n,jn⟩:=cI;have wz:Go X (cH C) g' ab s' g' ab {s' with heap:=h'}:=Go.sameBut G'.sat dM F'.free rfl;have dj:=(dM.2 _ DH).trans ho;have Xa:=Go.freeze wz.sat wR dj;refine kk<|⟨g'.add D o,.lst out,ab,(G'.comp wz ⟨λa o e q=>(by rw[show a=C from q,rI]at e;exact be e),λy y h=>h⟩).comp Xa ⟨λa o e q=>(by rw[show a=D from q,D7]at e;exact be e),λy y h=>h⟩,?_,hq⟩;exact(cy _ ys rfl (cy o n (by unfold View.add;exact aaE (aA rfl) rfl) hc jn) (ro.le (View.le_add o wR.1)))
theorem Bb{X:Cx}{A:Around}{k:Nat}{env:Env}{m:Mp}{σ:St}{Q:AFl->Mp->St->Prop}{N:Addr}{t:Expr}{elt target iter:Expr}{ifs:List Expr}{rest:List Comprehension}{scope:Scope}{pos apos:Pos}(T:Addr->Env->Sem Unit)(J:Addr->Env->nD)
  (hA:Room A k)
  (rE:∀C D it,compTurn (.ListComp elt (⟨target,iter,ifs,0⟩::rest) scope pos) 0 it (.ref D) (cq scope C env)=pA (.ListComp elt (⟨target,iter,ifs,0⟩::rest) scope pos) 0 target iter ifs it (.ref D) (cq scope C env) (T D (cq scope C env)))
  (hJ:∀D C,D<C->(D≠(cq scope C env).locals/\∀x c,(cq scope C env).cells.lookup x=some c->c≠D)->tX X A C (cq scope C env) D (T D (cq scope C env)) (J C (cq scope C env)))
  (hk:scope.kind=.function)(hf:k9 env scope.names=true)(hn:(scope.names.map (·.1)).Nodup)(qZ:∀x∈scope.names,x.2=.local->scope.names.lookup x.1=some .local)
  (h:lz X A aC k env m (some target) iter σ λDep l aS=>∀C,la X A Dep (bg C (cq scope C env)) (cq scope C env) target ifs (J C (cq scope C env)) (λy ab out=>As X A aC (bg N env) env m t (.lst out) ab λm₁ aS=>Q .next m₁ aS) l (oz scope m) aS [])
  (hsw:swapsWithSole [t] (.ListComp elt (⟨target,iter,ifs,0⟩::rest) scope pos) apos.line env=pure true)(he:assignEach [t] env=[(false,assign t env)])
  (hfa:firstAsync (⟨target,iter,ifs,0⟩::rest)=false)
  (hs:∀x,foldedSetIterable iter env x=pure x:=by intro y;rfl)
  (bH:∀it D cenv,(Code.compLoop (.ListComp elt (⟨target,iter,ifs,0⟩::rest) scope pos) 0 it (.ref D) cenv).isFrame=false:=by intro y y y;rfl)(kx:∀it D cenv,A.under (.compLoop (.ListComp elt (⟨target,iter,ifs,0⟩::rest) scope pos) 0 it (.ref D) cenv)=A:=by intro y y y;rfl)
  (gB:∀it D cenv,(Code.compLoop (.ListComp elt (⟨target,iter,ifs,0⟩::rest) scope pos) 0 it (.ref D) cenv).quiet=true:=by intro y y y;rfl)
  (ky:∀it D cenv,(Code.compStart (.ListComp elt (⟨target,iter,ifs,0⟩::rest) scope pos) 0 it (.ref D) cenv).isFrame=false:=by intro y y y;rfl)(pD:∀it D cenv,A.under (.compStart (.ListComp elt (⟨target,iter,ifs,0⟩::rest) scope pos) 0 it (.ref D) cenv)=A:=by intro y y y;rfl):
  Ex X A aC (bg N env) env m (.Assign [t] (.ListComp elt (⟨target,iter,ifs,0⟩::rest) scope pos) apos) σ Q:=λg s S F=>by
 refine aaE (exec_Assign ..)<|ag (d7 ?_);refine aaE hsw<|ag (aO ?_)
 (refine aaE (aA rfl)<|aaE he ?_)
 refine ag ?_;refine aaE hfa<|ag (Gv (Q:=λV ab=>As X A aC (bg N env) env m t V ab λm₁ aS=>Q .next m₁ aS) S F T J hA rE hJ hk hf hn qZ h (λD C g' ab s' m' out DH D7 rI G' F' cZ hq=>?_) hs bH kx gB ky pD);refine az λkk=>?_;refine fJ cZ λwR ys c5 ro=>?_;obtain⟨o,ho,hc,n,jn⟩:=c5;have G1:Go X aL g σ s (g'.add D o) ab s':=G'.comp (Go.freeze G'.sat wR ho) ⟨λa o e q=>(by rw[show a=D from q,D7]at e;exact be e),λy y h=>h⟩
 have rep:Rep (g'.add D o) (.lst out) (.ref D):=by
  exact(cy _ ys rfl (cy o n (by unfold View.add;exact aaE (aA rfl) rfl) hc jn) (ro.le (View.le_add o wR.1)))
 refine kk<|aB (hq _ s' _ G1.sat (F.go G1) rep) (λy s₂ zz=>zz.rec λbj m₂ aS aN jK bA=>?_) i2;refine az λkk=>?_
 have nP:¬(bg N env).a C:=λq=>by
  refine az λkk=>?_;rcases q.2 with q|⟨x,q⟩
  ·obtain⟨o,e⟩:=F.atL;rw[←q,rI]at e;exact be e
  ·obtain⟨o,e⟩:=F.csz x C q;rw[rI]at e;exact be e
 refine ax F'.ns λmC oF y=>?_;obtain⟨oC,YU⟩:=F'.atL;have wU:Free X (g'.add D o) ab C:=(cA (by unfold View.add;exact aaE (ar DH.symm)<|F'.free.1) F'.free.2.1 F'.free.2.2);refine kk<|(aE mC (Hy oF λo' e=>aN.run.keep C o' e wU.2.1 wU.2.2 nP) (λh' dM=>?_));have bL:Go X (cH C) bj aS s₂ bj aS {s₂ with heap:=h'}:=Go.sameBut aN.sat dM (wU.go aN YU nP) rfl;have fV:=(G1.any.trans aN).comp bL ⟨λa o e q=>(by rw[show a=C from q,rI]at e;exact be e),λy y h=>h.elim⟩
 have eN:=jK.goP bL (λq=>by
  obtain⟨o,e⟩:=F.atL;rw[show env.locals=C from q,rI]at e;exact be e) λx c hc q=>by
  obtain⟨o,e⟩:=F.csz x c hc;rw[show c=C from q,rI]at e;exact be e
 exact aO (aO ⟨bj,.next,m₂,aS,fV,eN,rfl,bA⟩)
section
open PySem.W.X
theorem xR(s:Shared)(i:Nat)(x:GenState):(s.setGen i x).heap=s.heap:=rfl
theorem gW{s:Shared}{i j:Nat}{x:GenState}:(s.setGen i x).gens[j]?=if j=i/\i<s.gens.size then some x else s.gens[j]?:=by
 refine aaE (EP) ?_
 by_cases h:i=j
 ·subst h
  by_cases h2:i<s.gens.size
  ·simp[h2]
  ·simp[h2]
 ·have:¬j=i:=λq=>h q.symm
  simp[h,this]
theorem jz{s:Shared}{i:Nat}{x:GenState}:(s.setGen i x).gens.size=s.gens.size:=by
 show(s.gens.setIfInBounds i x).size=_;simp
theorem Sat.heap(S:Sat X g σ s)(h:s'.heap=s.heap):Sat X g σ s':=S.keeps λb o e=>by exact aaE h<|e
theorem Go.setGen{X:Cx}{P:Pv}{g:View}{σ:St}{s:Shared}{i:Nat}{x:GenState}(S:Sat X g σ s)(hP:P.n i)(hx:x.bare=true):Go X P g σ s g σ (s.setGen i x):=by
 refine⟨S.heap rfl,.refl g,λz z z z=>rfl,λz z z z=>kb,rfl,λa o e z=>⟨o,e⟩,λa o e z z z=>.inl e,λp z o vs e hd=>⟨#[],by(refine aaE (xR ..)<|aaE e ?_);congr 1;obtain⟨c,d,dt,sl⟩:=o;clear e;subst hd;simp⟩,by exact aaE jz<|bC _,λj y e hp=>?_,λj y e=>?_⟩
 ·rw[gW,ar];exact e
  rintro⟨rfl,_⟩;exact hp hP
 ·rw[gW]at e
  split at e
  ·(refine aaE (aq (bq e)) ?_);exact .inr (.inl hx)
  ·exact .inl e
theorem Go.underGen{X:Cx}{P:Pv}{g g':View}{σ ab:St}{s s':Shared}{i:Nat}{x y:GenState}(G:Go X P g σ (s.setGen i x) g' ab s')(hi:i<s.gens.size)(hP:¬P.n i)(hy:y.bare=true):Go X P g σ (s.setGen i y) g' ab (s'.setGen i y):=by
 have hs:=bT (by exact aaE jz<|hi) G.run.gsize;refine⟨G.sat.heap rfl,G.le,G.new,G.st,G.run.os,G.run.dom,G.run.keep,G.run.tab,?_,λj z e hp=>?_,λj z e=>?_⟩
 ·(refine aaE jz<|aaE jz ?_);have:=G.run.gsize;rwa [jz]at this
 ·rw[gW]at e ⊢
  by_cases hj:j=i
  ·clear G hP;subst hj;rw[aA ⟨rfl,hi⟩]at e;exact aaE (aA ⟨rfl,hs⟩)<|e
  ·rw[ar (λq=>hj q.1)]at e ⊢
   exact G.run.gold j z (by(refine aaE gW<|aaE (ar (λq=>hj q.1)) ?_);exact e) hp
 ·rw[gW]at e
  by_cases hj:j=i
  ·clear G hi hP;subst hj;rw[aA ⟨rfl,hs⟩]at e;obtain rfl:=bq e;exact .inr (.inl hy)
  ·rw[ar (λq=>hj q.1)]at e
   rcases G.run.gbare j z e with h|h
   ·left;rw[gW,ar (λq=>hj q.1)]at h ⊢;exact h
   ·exact .inr h
def Pv.Ex(P:Pv)(s:Shared):Prop:=(∀a,P.a a->∃o,s.heap.get? a=some o)/\(∀i,P.n i->i<s.gens.size)
noncomputable def DU(X:Cx)(k:Nat)(σ:St):List AV->Pv->View->Shared->End->Shared->Prop
 |[],own,av,aj,e,s'=>(∃f,e=.ret (.ok f)/\(f=.next∨f=.ret .none))/\∃g',Go X own av σ aj g' σ s'
 |V::l,own,av,aj,e,s'=>∃v lv kk c' p gQ g' bU,e=.susp v false lv kk c' p gQ/\gQ.any Frame.guarded=false/\bU.Le aj own/\bU.Ex s'/\Go X own av σ aj g' σ s'/\Rep g' V v/\
   ∀P b8 aU,Go X P g' σ s' b8 σ aU->bU.Apart P->∀A,Room A (k+1)->SegX (model P0 X.w) A c' (kk (.send .none)) gQ aU (DU X k σ l bU b8 aU)
def Ready(X:Cx)(k:Nat)(σ:St)(gi:Nat)(l:List AV)(own:Pv)(g:View)(s:Shared):Prop:=
 ∃gs c₀ t₀ fs₀,s.gens[gi]?=some gs/\gs.bare=true/\((gs=.fresh c₀/\t₀=denote table c₀/\fs₀=[])∨(∃jP mq lq cl,gs=.suspended jP mq c₀ lq fs₀ cl/\t₀=jP (.send .none)))/\
  ∀P b8 aU,Go X P g σ s b8 σ aU->own.Apart P->¬P.n gi->∀A,Room A (k+1)->SegX (model P0 X.w) A c₀ t₀ fs₀ (aU.setGen gi .running) (DU X k σ l own b8 (aU.setGen gi .running))
noncomputable def Pv.gen(P:Pv)(a:Addr)(gi:Nat):Pv:=⟨λb=>P.a b∨b=a,λi=>P.n i∨i=gi⟩
noncomputable def Pv.gn(P:Pv)(gi:Nat):Pv:=⟨P.a,λi=>P.n i∨i=gi⟩
noncomputable def kl(X:Cx)(k:Nat)(σ:St)(a:Addr)(gi:Nat):l9:=λown l g ab s=>ab=σ/\s.heap.IsGen a gi/\Free X g σ a/\∃ob:Pv,own=ob.gen a gi/\¬ob.a a/\¬ob.n gi/\ob.Ex s/\gi<s.gens.size/\Ready X k σ gi l ob g s
theorem GO{X:Cx}{k:Nat}{σ:St}{a:Addr}{gi:Nat}{A:Around}{ob:Pv}{l:List AV}{g:View}{s:Shared}{Q:Option Value->Shared->Prop}(c9:s.heap.NoLimit)(hA:Room A (k+2))(hG:s.heap.IsGen a gi)(hn:¬ob.n gi)(dN:gi<s.gens.size)(S:Sat X g σ s)
  (R:Ready X k σ gi l ob g s)
  (hY:∀V l',l=V::l'->∀v g' cg s',cg.Le s ob->cg.Ex s'->Go X (ob.gn gi) g σ s g' σ s'->Rep g' V v->Ready X k σ gi l' cg g' s'->Q (some v) s')
  (hE:l=[]->∀g' s',Go X (ob.gn gi) g σ s g' σ s'->Q none s'):wpAny (model P0 X.w) A (pyNext (.ref a)) Q aC s:=by
 refine az λkk=>?_;refine lT R λgs c₀ t₀ fs₀ lA hb me kz=>?_;have tP:=kz aL g s (.refl S) Pv.Apart.noP id A.in1 ⟨hA.handled,by have:=hA.depth;show A.depth+_<_;exact Jp this,by have:=hA.units;exact IZ this⟩;have hgen:∀s',ob.Le s' (ob.gn gi):=λs'=>⟨λ_ _ _ h=>h,λ_ _ h=>.inl h⟩;have Grun:Go X (ob.gn gi) g σ s g σ (s.setGen gi .running):=Go.setGen S (.inr rfl) rfl;refine kk ?_;unfold pyNext
 refine ag (uN (mE (name:=Str.ofString "__next__") hG.typeIs sm
  (i7 sm hG.typeIs entry_gen_next ?_ (args_gen_next _))))
 show wpAny _ A.in1 (Builtin.Generator.genWake (.ref a) (.send .none)) _ _ s;unfold Builtin.Generator.genWake;refine ag (eL (wpAny_genNumber hG (ag (wpAny_genState lA ?_))))
 have wake:∀{α:Type} {kk:GenResult->Sem α} {Q':α->Shared->Prop} {E':VP} {lv:List Value},
   (∀v g' cg s',(∃V l',l=V::l'/\cg.Le s ob/\cg.Ex s'/\Go X (ob.gn gi) g σ s g' σ s'/\Rep g' V v/\Ready X k σ gi l' cg g' s')->wpAny (model P0 X.w) A.in1 (kk (.yielded v)) Q' E' s')->
   (∀g' s',l=[]->Go X (ob.gn gi) g σ s g' σ s'->wpAny (model P0 X.w) A.in1 (kk (.returned .none)) Q' E' s')->
   wpAny (model P0 X.w) A.in1 (.resume gi (.send .none) lv kk) Q' E' s:=by
  intro α kk Q' E' lv hy he Γ p cJ;refine wake_any α P0 X.w (A:=A.in1) (c₀:=c₀) (t₀:=t₀) (fs₀:=fs₀) lA ?_ (λΓ=>Γ.In A.in1) (λ_ h=>h) ?_ Γ p cJ
  ·refine az λkk=>?_
   rcases me with ⟨h1,h2,h3⟩|⟨jP,mq,lq,cl,h1,h2⟩
   ·exact kk<|.inl (k7 h1 rfl h2 h3)
   ·exact kk<|.inr (sU jP mq lq cl h1 h2)
  ·refine SegX.mono tP λe s₁ hp=>?_
   clear R hY hE kz tP;cases l with
   |nil=>
    refine rg hp λdY g' G=>?_;obtain⟨f,rfl,hf⟩:=dY;have ai:=Grun.trans (G.weaken (hgen _));have aN:Go X (ob.gn gi) g σ s g' σ (s₁.setGen gi .finished):=ai.trans (Go.setGen ai.sat (.inr rfl) rfl);have hr:(End.ret (.ok f)).result=.returned .none:=by rcases hf with rfl|rfl<;>rfl
    intro Γ p cJ;exact aaE hr<|he g' _ rfl aN Γ p cJ
   |cons V l'=>
    obtain⟨v,nG,k',c',p',gQ,g',cg,iV,pZ,hle,lu,jl⟩:=hp;refine aaE iV ?_;obtain⟨G,rv,CF⟩:=jl;intro Γ p cJ;have ai:=Grun.trans (G.weaken (hgen _));have gx:cg.Le s ob:=⟨λb o e q=>hle.1 b o (by exact aaE (xR ..)<|e) q,λi hi q=>hle.2 i (by exact aaE jz<|hi) q⟩;have q6:=bT dN ai.run.gsize;have eO:¬cg.n gi:=λq=>hn (gx.2 gi dN q);have vK:=G.run.gold gi _ (by(exact aaE gW<|aaE (aA ⟨rfl,dN⟩) rfl)) hn;have L7:(GenState.suspended k' nG c' p' gQ (false||gQ.any Frame.guarded)).bare=true:=by refine aaE pZ ?_;rfl
    have aN:=ai.trans (Go.setGen ai.sat (.inr rfl) L7);refine hy v g' cg (s₁.setGen gi (.suspended k' nG c' p' gQ (false||gQ.any Frame.guarded))) ⟨V,l',rfl,gx,⟨lu.1,λi q=>by exact aaE jz<|lu.2 i q⟩,aN,rv,?_⟩ Γ p cJ;refine(lU _ c' (k' (.send .none)) gQ (by(exact aaE gW<|aaE (aA ⟨rfl,q6⟩) rfl)) L7 (.inr (sU k' nG p' _ rfl rfl)) (λP b8 aU G' aZ D8 A' cp=>?_));refine CF P b8 (aU.setGen gi .running) ?_ aZ A' cp
    have oh:s₁=s₁.setGen gi .running:=by
     show s₁={s₁ with gens:=s₁.gens.setIfInBounds gi .running}
     have:s₁.gens.setIfInBounds gi .running=s₁.gens:=by
      apply Array.ext_getElem?;intro j;refine aaE (EP) ?_
      split
      ·rename_i q;subst q;first|exact vK.symm|(rw[aA q6];exact vK.symm)
      ·rfl
     exact aaE this rfl
    exact aaE oh<|Go.underGen G' q6 D8 rfl
 clear lA hb;cases gs with
 |running=>rcases me with ⟨h,_⟩|⟨_,_,_,_,h,_⟩<;>cases h
 |finished=>rcases me with ⟨h,_⟩|⟨_,_,_,_,h,_⟩<;>cases h
 |_=>
  refine ag (wpAny_roomToWake c9 (by have:=hA.depth;exact zk this) ?_);refine wake (λv g' cg s' aR=>O0 aR λV l' hl h1 h2 h3 h4 h5=>aO (aE v rfl (aO (hY V l' hl v g' cg s' h1 h2 h3 h4 h5)))) λg' s' hl G=>?_;show wpAny _ A.in1 (newExc (.type "StopIteration") []>>= _) _ _ _;refine ag ?_;simp only[newExc,newTuple];refine ag (iz ?_ (by size_fits));refine ag (m:=firstArgMember _ _) (dn (a:=Value.none) (by first|rfl|(simp only[firstArgMember];rfl)) ?_);refine iz ?_ (by size_fits);simp only[raiseNew];refine ag (ag (xK ?_));refine aaE (show A.in1.handled=none from hA.handled)<|xV<|ag (lO (T:="StopIteration") (b:=true) (aE _ (cB _ rfl) rfl) Bd ?_);exact aO (hE hl g' _ (G.trans (Go.keeps G.sat λb o e=>bJ _ (bJ _ e))))
theorem Pv.gn_gen{P:Pv}{a:Addr}{gi:Nat}{s:Shared}:(P.gn gi).Le s (P.gen a gi):=⟨λx x x h=>.inl h,λx x h=>h⟩
noncomputable def Pv.sup(P Q:Pv):Pv:=⟨λa=>P.a a∨Q.a a,λi=>P.n i∨Q.n i⟩
theorem Pv.le_left{P Q:Pv}{s:Shared}:P.Le s (P.sup Q):=⟨λx x x h=>.inl h,λx x h=>.inl h⟩
theorem Pv.le_right{P Q:Pv}{s:Shared}:Q.Le s (P.sup Q):=⟨λx x x h=>.inr h,λx x h=>.inr h⟩
theorem Ready.go(R:Ready X k σ gi l ob g s)(G:Go X P g σ s g' σ s')(ha:ob.Apart P)(hn:¬P.n gi):Ready X k σ gi l ob g' s':=by
 refine az λkk=>?_;refine lT R λgs c₀ t₀ fs₀ lA hb me kz=>?_;refine kk<|(lU gs c₀ t₀ fs₀ (G.run.gold gi gs lA hn) hb me (λP' b8 aU G' oE eO A hA=>?_));refine kz (P.sup P') b8 aU ((G.weaken Pv.le_left).trans (G'.weaken Pv.le_right)) ⟨λa h1 h2=>?_,λi h1 h2=>?_⟩ (λq=>?_) A hA
 ·rcases h2 with h2|h2;exact ha.1 a h1 h2;exact oE.1 a h1 h2
 ·rcases h2 with h2|h2;exact ha.2 i h1 h2;exact oE.2 i h1 h2
 ·rcases q with q|q;exact hn q;exact eO q
theorem vA(c9:∀h:Heap,X.B.In h->h.NoLimit):Itr X (k+2) tgt (.ref a) (λσ ab=>ab=σ) (kl X k σ a gi):=by
 have kept:∀{P:Pv} {g g':View} {ay:St} {s s':Shared},s.heap.IsGen a gi->Free X g σ a->Go X P g σ s g' ay s'->¬P.a a->s'.heap.IsGen a gi:=λhG hf G hp=>by
  refine az λkk=>?_;refine jc hG λo nm qn ho hc r=>?_;rcases G.run.keep a o ho hf.2.1 hf.2.2 hp with q|⟨q,_⟩
  ·exact kk<|(pg o nm qn q hc r)
  ·refine bk q λx x q=>?_;rw[r.1]at q;cases q
 refine⟨λ{A own V l g ab s} hA S zq26=>iE zq26 λe hG hf ob zq26a=>pk zq26a λho gc hn hex zq26b=>bY zq26b λdN R=>?_,λ{A own g ab s} hA S zq27=>iE zq27 λe hG hf ob zq27a=>pk zq27a λho gc hn hex zq27b=>bY zq27b λdN R=>?_,λx=>rfl,λ{own l g ab s} zq28=>iE zq28 λe hG hf ob zq28a=>pk zq28a λho gc hn hex zq28b=>bY zq28b λdN R=>?_,λ{A own l g ab s Q} hA S zq29 q=>ei zq29 λe hG x=>A1 hG q,
  λ{own l P g ab s g' nz s'} zp G aZ hd=>iE zp λe hG hf ob D9=>pk D9 λho gc hn hex YV=>bY YV λdN R=>?_⟩
 ·subst e
  refine GO (c9 _ (S.in_.le S.le)) hA hG hn dN S R (λV' l' hl v g' cg s' h1 h2 h3 h4 h5=>?_) λh=>(by cases h);refine az λkk=>?_;cases hl;refine jc (id hG) λoa x x nH wV x=>?_;have rJ:=kept hG hf h3 gc;refine jc (id rJ) λoa' x x Xb rm x=>?_;have Xc:¬cg.a a:=λq=>gc (h1.1 a _ nH q);refine kk<|(aE v rfl (A5 Xb rm (by decide) ⟨g',cg.gen a gi,?_,ho▸h3.weaken Pv.gn_gen,h4,rfl,rJ,hf.go h3 nH gc,cg,rfl,Xc,λq=>hn (h1.2 gi dN q),h2,bT dN h3.run.gsize,h5⟩));clear kk;refine aaE ho ?_;refine⟨λb o e q=>?_,λi hi q=>?_⟩
  ·rcases q with q|q;exact .inl (h1.1 b o e q);exact .inr q
  ·rcases q with q|q;exact .inl (h1.2 i hi q);exact .inr q
 ·clear kept hf;subst e
  exact GO (c9 _ (S.in_.le S.le)) hA hG hn dN S R (λV' l' hl=>by cases hl) λx g' s' G=>(q9 rfl g' (ho▸G.weaken Pv.gn_gen))
 ·refine az λkk=>?_
  subst ho;refine mU hG λoa x x nH x=>?_;refine kk<|⟨λb q=>?_,λi q=>?_⟩
  ·clear kept hG hf gc kk;rcases q with q|rfl;exact hex.1 b q;exact⟨oa,nH⟩
  ·clear kept hG hn R kk;rcases q with q|rfl;exact hex.2 i q;exact dN
 ·refine az λkk=>?_
  subst ho;subst e;subst hd;refine mU (id hG) λoa x x nH x=>?_;have p0:=aZ.1 a (.inr rfl);have t9:=aZ.2 gi (.inr rfl);have eW:ob.Apart P:=⟨λb h1=>aZ.1 b (.inl h1),λi h1=>aZ.2 i (.inl h1)⟩;exact kk<|⟨rfl,kept hG hf G p0,hf.go G nH p0,ob,rfl,gc,hn,⟨λb q=>du (hex.1 b q) λo e=>G.dom e (eW.1 b q),λi q=>bT (hex.2 i q) G.run.gsize⟩,bT dN G.run.gsize,R.go G eW t9⟩
structure Mach(X:Cx)(k:Nat)(σ:St)where
 Z:Around->List AV->Pv->View->Shared->Code->Sem Fin->List Frame->Shared->Prop
 okY:Code->Bool->Shared->Prop
 wrap:∀{α:Type} {A l aM av aj c fs s} {m:Sem α} {K:α->Sem Fin} {H:Value->Sem Fin} {gd:Bool->Bool} {lv:List Value->List Value},
  wpAny (model P0 X.w) (A.over c fs) m (λa s'=>Z A l aM av aj c (K a) fs s') aC s->Z A l aM av aj c (m.wrap K H gd lv) fs s
 call:∀{A l aM av aj c fs s c' h g lv} {kk:Result->Sem Fin},(∀p,Z A l aM av aj c' (denote table c') (.ret kk h g lv c p []::fs) s)->Z A l aM av aj c (.call c' h g lv kk) fs s
 leaf:∀{A l aM av aj c c₁ fs s kk h g lv fN kp} (f:Flow),Z A l aM av aj c₁ (kk (.ok f)) fs s->Z A l aM av aj c (.pure (.done f)) (.ret kk h g lv c₁ fN kp::fs) s
 again:∀{A l aM av aj c c' fs s},c'.quiet=true->Z A l aM av aj c' (denote table c') fs s->Z A l aM av aj c (.pure (.again c')) fs s
 ok0:∀c s,okY c false s
 yld:∀{A l aM av aj c fs s V v gf lv own g} {kk:Resume->Sem Fin},splitAtGen fs=none->fs.any Frame.guarded=false->okY c gf s->Go X aM av σ aj g σ s->own.Le aj aM->own.Ex s->Rep g V v->
  (∀P b8 aU,Go X P g σ s b8 σ aU->own.Apart P->∀A',Room A' (k+1)->Z A' l own b8 aU c (kk (.send .none)) fs aU)->Z A (V::l) aM av aj c (.yield v gf lv kk) fs s
 fin:∀{A aM av aj c s g f},Go X aM av σ aj g σ s->(f=.next∨f=.ret .none)->Z A [] aM av aj c (.pure (.done f)) [] s
theorem O7{M:Model}{A:Around}{c:Code}{fs:List Frame}{P:End->Shared->Prop}{α:Type}{s:Shared}{m:Sem α}{K:α->Sem Fin}{H:Value->Sem Fin}{gd:Bool->Bool}{lv:List Value->List Value}
  (h:wpAny M (A.over c fs) m (λa s'=>SegX M A c (K a) fs s' P) aC s):SegX M A c (m.wrap K H gd lv) fs s P:=by
 rintro Γ p rfl cJ;refine az λkk=>?_;refine iF (runs_wrap_of_wp (Φ:=λe s'=>e.quiet=true/\P e s') K H gd lv m (h (Γ.over fs) p (cJ.over fs)) (λa p' s' h'=>h' Γ p' rfl cJ) (λx p' s' h'=>h'.elim)) λe s' hr hq=>?_;exact kk<|(ey e s' hr hq)
noncomputable def Cc(X:Cx)(k:Nat)(σ:St):Mach X k σ where
 Z A l aM av aj c t fs s:=SegX (model P0 X.w) A c t fs s (DU X k σ l aM av aj)
 okY _ gf _:=gf=false
 wrap h:=O7 h
 call h:=s_call P0 X.w _ _ _ _ _ _ _ _ _ _ h
 leaf f h:=s_pop P0 X.w _ _ _ _ _ (.ok f) _ rfl _ _ _ _ _ _ _ h
 again hq h:=s_again P0 X.w _ _ _ _ _ _ hq h
 ok0 _ _:=rfl
 yld {A l aM av aj c fs s V v gf lv own g kk} rK pZ hg G hle hex r h:=by
  subst hg;exact s_yield P0 X.w _ _ _ _ s v lv kk rK pZ λp=>⟨v,lv,kk,c,p,fs,g,own,rfl,pZ,hle,hex,G,r,h⟩
 fin {A aM av aj c s g f} G hf:=s_end P0 X.w _ _ _ s (.ok f) _ rfl ⟨⟨f,rfl,hf⟩,g,G⟩
structure GC(k:Nat)(c:Code)(fs:List Frame):Prop where
 split:splitAtGen fs=none
 guard:fs.any Frame.guarded=false
 hnd:∀A:Around,(A.over c fs).handled=A.handled
 dep:∀A:Around,(A.over c fs).depth<=A.depth+1
 uni:∀A:Around,(A.over c fs).units<=A.units+3
theorem GC.room(h:GC k c fs)(hA:Room A (k+1)):Room (A.over c fs) k:=
 ⟨(h.hnd A).trans hA.handled,dw (ae (dD (h.dep A) k) (aK (fq A.depth 1 k))) hA.depth,dw (dD (h.uni A) _) (tV hA.units (lb rfl))⟩
def j9(X:Cx)(σ:St)(jo:Pv)(J:View->Shared->Prop):Prop:=∀{P:Pv} {g g':View} {s s':Shared},Go X P g σ s g' σ s'->jo.Apart P->J g s->J g' s'
structure YS(X:Cx)(σ:St)(N:Addr)(env:Env)(jo:Pv)(J:View->Shared->Prop)(m:Mp)(aM:Pv)(av:View)(aj:Shared)(own:Pv)(g:View)(s:Shared):Prop where
 go:Go X aM av σ aj g σ s
 le:own.Le aj aM
 ex:own.Ex s
 frm:Frm X env m g σ s
 foL:own.a env.locals
 foC:∀x c,env.cells.lookup x=some c->own.a c
 jex:jo.Ex s
 jap:jo.Apart (bg N env)
 jle:(∀a,jo.a a->own.a a)/\(∀i,jo.n i->own.n i)
 jh:J g s
theorem YS.prv(Y:YS X σ N env jo J m aM av aj own g s):(bg N env).Le s' own:=
 ⟨λa y y h=>by rcases h.2 with rfl|⟨x,hx⟩;exact Y.foL;exact Y.foC x a hx,λy y h=>h.elim⟩
theorem Pv.Le.trans{s:Shared}{P Q R:Pv}(x:P.Le s Q)(y:Q.Le s R):P.Le s R:=⟨λa o e h=>y.1 a o e (x.1 a o e h),λi hi h=>y.2 i hi (x.2 i hi h)⟩
theorem YS.step{X:Cx}{σ:St}{N:Addr}{env:Env}{jo:Pv}{J:View->Shared->Prop}{m m':Mp}{aM:Pv}{av:View}{aj:Shared}{own:Pv}{g g':View}{s s':Shared}(Y:YS X σ N env jo J m aM av aj own g s)(hJ:j9 X σ jo J)
  (G:Go X (bg N env) g σ s g' σ s')(F:Frm X env m' g' σ s'):YS X σ N env jo J m' aM av aj own g' s':=by
 have qa:∀{P:Pv},P.Ex s->P.Ex s':=λ{P} h=>⟨λa q=>by
   by_cases hp:(bg N env).a a
   ·exact pq F a hp
   ·obtain⟨o,e⟩:=h.1 a q;exact G.dom e hp,λi q=>bT (h.2 i q) G.run.gsize⟩
 exact⟨Y.go.comp G (Y.prv.trans Y.le),Y.le,qa Y.ex,F,Y.foL,Y.foC,qa Y.jex,Y.jap,Y.jle,hJ G Y.jap Y.jh⟩
section
variable {X:Cx} {k:Nat} {σ:St} (M:Mach X k σ) (N:Addr) (env:Env)
def Yr(c:Code)(fs:List Frame)(jo:Pv)(J:View->Shared->Prop)(K:Flow->Sem Fin)(Q:AFl->Mp->List AV->Prop):Prop:=
 ∀A f F m l aM av aj own g s,Room A (k+1)->YS X σ N env jo J m aM av aj own g s->zo g F f->Q F m l->M.Z A l aM av aj c (K f) fs s
def ExT(t:Sem Flow)(m:Mp)(l:List AV)(Q:AFl->Mp->List AV->Prop):Prop:=
 ∀c fs jo J,GC k c fs->j9 X σ jo J->∀A K H gd lv aM av aj own g s,Room A (k+1)->gd false=false->YS X σ N env jo J m aM av aj own g s->Yr M N env c fs jo J K Q->M.Z A l aM av aj c (t.wrap K H gd lv) fs s
def tY(m:Mp)(st:Stmt)(l:List AV)(Q:AFl->Mp->List AV->Prop):Prop:=ExT M N env (exec st env) m l Q
def nx(m:Mp)(st:List Stmt)(l:List AV)(Q:AFl->Mp->List AV->Prop):Prop:=ExT M N env (execs st env) m l Q
end
abbrev Iq(σ:St)(Q:AFl->Mp->List AV->Prop)(l:List AV)(F:AFl)(m:Mp)(ab:St):Prop:=ab=σ/\Q F m l
abbrev JR{κ:Type}(J:List Stmt->List AV->κ->Prop)(a b:List Stmt)(σ:St)(Q:κ)(l:List AV)(c:Bool)(ab:St):Prop:=ab=σ/\zO J a b Q c l
abbrev zq(σ:St)(m:Mp)(Q:AFl->Mp->List AV->Prop)(l:List AV)(V W:AV)(ab:St):Prop:=ab=σ/\W=V/\Q .next m l
abbrev WA{κ:Type}(J:Mp->List Stmt->List AV->κ->Prop)(b:List Stmt)(σ:St)(Q:κ)(l:List AV)(m:Mp)(ab:St):Prop:=ab=σ/\J m b l Q
abbrev Vl(R:Mp->List AV->Prop)(Q:AFl->Mp->List AV->Prop)(F:AFl)(m:Mp)(l:List AV):Prop:=match F with
  |.next|.cont=>R m l
  |.brk=>Q .next m l
  |.ret W=>Q (.ret W) m l
section
variable {X:Cx} {k:Nat} {σ:St} {M:Mach X k σ} {N:Addr} {env:Env} {m:Mp} {l:List AV} {Q:AFl->Mp->List AV->Prop}
theorem Mach.bind{α β:Type}{A:Around}{l:List AV}{aM:Pv}{av:View}{aj:Shared}{c:Code}{fs:List Frame}{s:Shared}{t:Sem α}{f:α->Sem β}{K:β->Sem Fin}{H:Value->Sem Fin}{gd:Bool->Bool}{lv:List Value->List Value}
  (h:wpAny (model P0 X.w) (A.over c fs) t (λa s'=>M.Z A l aM av aj c ((f a).wrap K H gd lv) fs s') aC s):M.Z A l aM av aj c ((t>>= f).wrap K H gd lv) fs s:=by
 (refine aaE (ju ..)<|aaE (jZ ..) ?_)
 exact M.wrap h
theorem qQ{st:Stmt}(h:∀A',Room A' k->Ex X A' aC (bg N env) env m st σ (Iq σ Q l)):tY M N env m st l Q:=λc fs jo J hc hJ A K H gd lv aM av aj own g s hA fD Y hK=>
 M.wrap (aB (h _ (hc.room hA) g s Y.go.sat Y.frm) (λf s' zz=>zz.rec λg' F m' ab G F' rf aR=>bY aR λe q=>by clear h zz aR;subst e;exact hK A f F m' l aM av aj own g' s' hA (Y.step hJ G F') rf q) i2)
theorem gq(h:Q .next m l):nx M N env m [] l Q:=λc fs jo J hc hJ A K H gd lv aM av aj own g s hA fD Y hK=>hK A .next .next m l aM av aj own g s hA Y rfl h
theorem eQ{st:Stmt}{rest:List Stmt}(h:tY M N env m st l (wm (nx M N env) rest Q)):nx M N env m (st::rest) l Q:=λc fs jo J hc hJ A K H gd lv aM av aj own g s hA fD Y hK=>by
 refine aaE (execs_cons_wrap ..)<|h c fs jo J hc hJ A _ H gd lv aM av aj own g s hA fD Y λA' f F m' l' eZ fk fg bU g' s' cp Y' rf q=>?_
 cases F with
 |next=>subst rf;exact q c fs jo J hc hJ A' K H gd lv eZ fk fg bU g' s' cp fD Y' hK
 |brk=>subst rf;exact hK A' .brk .brk m' l' eZ fk fg bU g' s' cp Y' rfl q
 |cont=>subst rf;exact hK A' .cont .cont m' l' eZ fk fg bU g' s' cp Y' rfl q
 |ret V=>refine ax rf λv bh r=>?_;clear rf;exact aaE bh<|hK A' (.ret v) (.ret V) m' l' eZ fk fg bU g' s' cp Y' (aE v rfl r) q
theorem mV{t:Expr}{a b:List Stmt}{pos}(h:∀A',Room A' k->EvB X A' aC env m t σ (JR (nx M N env m) a b σ Q l)):tY M N env m (.If t a b pos) l Q:=λc fs jo J hc hJ A K H gd lv aM av aj own g s hA fD Y hK=>by
 have e:exec (.If t a b pos) env=(do standAt pos;let r ←isTrue t env (eval t env);if r then execs a env else execs b env):=rfl;refine aaE e<|Mach.bind (d7 (Mach.bind (aB (h _ (hc.room hA) g s Y.go.sat Y.frm) (λr s' zz=>zz.rec λg' ab G ba=>bY ba λe q=>?_) i2)));subst e;have Y':=Y.step hJ G.any (Y.frm.go G)
 clear zz ba;cases r with
 |true=>exact q c fs jo J hc hJ A K H gd lv aM av aj own g' s' hA fD Y' hK
 |false=>exact q c fs jo J hc hJ A K H gd lv aM av aj own g' s' hA fD Y' hK
end
section
variable {X:Cx} {k:Nat} {σ:St} {M:Mach X k σ} {N:Addr} {env:Env} {m:Mp} {l:List AV} {Q:AFl->Mp->List AV->Prop}
theorem YS.woken(Y:YS X σ N env jo J m aM av aj own g s)(hJ:j9 X σ jo J)
  (G:Go X P g σ s g' σ s')(aZ:own.Apart P):YS X σ N env jo J m own g' s' own g' s':=by
 have qa:∀{R:Pv},(∀a,R.a a->own.a a)->R.Ex s->R.Ex s':=λ{R} hR h=>⟨λa q=>du (h.1 a q) λo e=>G.dom e (aZ.1 a (hR a q)),λi q=>bT (h.2 i q) G.run.gsize⟩;exact⟨.refl G.sat,Pv.Le.refl _ _,qa (λy h=>h) Y.ex,Y.frm.goP G (aZ.1 _ Y.foL) (λx c hc=>aZ.1 c (Y.foC x c hc)),Y.foL,Y.foC,qa Y.jle.1 Y.jex,Y.jap,Y.jle,hJ G ⟨λa h=>aZ.1 a (Y.jle.1 a h),λi h=>aZ.2 i (Y.jle.2 i h)⟩ Y.jh⟩
theorem YS.woken'(Y:YS X σ N env jo J m aM av aj own g s)(hJ:j9 X σ jo J)
  (G:Go X P g σ s g' σ s')(aZ:own.Apart P)(hb:own.Le s' ob):YS X σ N env jo J m ob g' s' own g' s':=
 let Y':=Y.woken hJ G aZ
 ⟨.refl G.sat,hb,Y'.ex,Y'.frm,Y'.foL,Y'.foC,Y'.jex,Y'.jap,Y'.jle,Y'.jh⟩
theorem qO(h:∀A',Room A' k->Ev X A' aC env m e σ (zq σ m Q l V))(hco:env.scope.isCoroutine=false:=by rfl)(hi:interactive env=false:=by rfl):
  tY M N env m (.Expr (.Yield (some e) ypos) pos) (V::l) Q:=λc fs jo J hc hJ A K H gd lv aM av aj own g s hA fD Y hK=>by
 refine aaE (exec_Expr env _ pos hi rfl) ?_;have hy:∀v,yieldOut env v=yieldValue v:=λv=>by simp only[yieldOut,hco,nO,j7]
 refine Mach.bind (d7 ?_);show M.Z A _ aM av aj c (((eval e env>>= λv=>(standAt ypos>>= λy=>yieldOut env v))>>= λx=>dropValue (.Yield (some e) ypos) pos x).wrap K H gd lv) fs s;simp only[hy]
 (refine aaE (ju ..)<|aaE (ju ..)<|aaE (jZ ..)<|aaE (jZ ..) ?_)
 refine M.wrap (aB (h _ (hc.room hA) g s Y.go.sat Y.frm) (λv s' zz=>zz.rec λg' W ab G r aR=>ei aR λe1 e2 q=>?_) i2);clear h zz aR;subst e1 e2;have Y':=Y.step hJ G.any (Y.frm.go G);refine M.wrap (m:=standAt ypos) (H:=.raise) (gd:=id) (lv:=id) (d7 ?_);refine M.yld hc.split hc.guard (by simp only[id,fD];exact M.ok0 c s') Y'.go Y'.le Y'.ex r λP b8 aU dX aZ A' cp=>?_;exact hK A' .next .next m l own b8 aU own b8 aU cp (Y'.woken hJ dX aZ) rfl q
noncomputable def zr(M:Mach X k σ)(N:Addr)(env:Env)(target:Expr)(body:List Stmt)(Q:AFl->Mp->List AV->Prop):List AV->Mp->List AV->Prop
 |[],m,l=>Q .next m l
 |V::it,m,l=>∀A',Room A' k->As X A' aC (bg N env) env m target V σ (WA (nx M N env) body σ (Vl (zr M N env target body Q it) Q) l)
theorem vh(A:Around)(c c':Code)(fs:List Frame)(kk:Result->Sem Fin)(g:Bool)(lv:List Value)(p:Pos)(kp:List Value):(A.over c' (.ret kk none g lv c p kp::fs)).handled=(A.over c fs).handled/\(A.over c' (.ret kk none g lv c p kp::fs)).depth=(A.over c fs).depth+c'.weight/\(A.over c' (.ret kk none g lv c p kp::fs)).units=(A.over c fs).units+c'.cUnits:=by
 refine⟨rfl,?_,?_⟩
 ·show A.depth+frameCount ((c,p)::fs.map Frame.where_)+c'.weight=A.depth+frameCount (fs.map Frame.where_)+c.weight+c'.weight
  exact aaE (frameCount_cons ..)<|JK
 ·show A.units+unitsOf ((c,p)::fs.map Frame.where_)+c'.cUnits=A.units+unitsOf (fs.map Frame.where_)+c.cUnits+c'.cUnits
  exact aaE (unitsOf_cons ..)<|JK
theorem QM(hc:GC k c fs)(hw:c'.weight=0)(hu:c'.cUnits=0):GC k c' (.ret kk none false lv c p kp::fs):=by
 refine⟨?_,?_,λA=>?_,λA=>?_,λA=>?_⟩
 ·show(splitAtGen fs).map _=none
  refine aaE hc.split ?_;rfl
 ·refine aaE hc.guard ?_;rfl
 ·exact(vh A c c' fs kk false lv p kp).1.trans (hc.hnd A)
 ·(refine aaE ((vh A c c' fs kk false lv p kp).2.1)<|aaE hw ?_);exact hc.dep A
 ·(refine aaE ((vh A c c' fs kk false lv p kp).2.2)<|aaE hu ?_);exact hc.uni A
theorem YS.inner(Y:YS X σ N env jo J m aM av aj own g s)(hJ:j9 X σ jo J)(G:Go X oi g σ s g' σ s')(aZ:oi.Apart own)(hle:oi.Le aj aM):
  YS X σ N env jo J m aM av aj own g' s':=by
 have qa:∀{R:Pv},(∀a,R.a a->own.a a)->R.Ex s->R.Ex s':=λ{R} hR h=>⟨λa q=>du (h.1 a q) λo e=>G.dom e (λz=>aZ.1 a z (hR a q)),λi q=>bT (h.2 i q) G.run.gsize⟩
 exact⟨Y.go.comp G hle,Y.le,qa (λy h=>h) Y.ex,Y.frm.goP G (λz=>aZ.1 _ z Y.foL) (λx c hc z=>aZ.1 c z (Y.foC x c hc)),Y.foL,Y.foC,qa Y.jle.1 Y.jex,Y.jap,Y.jle,
  hJ G ⟨λa h z=>aZ.1 a z (Y.jle.1 a h),λi h z=>aZ.2 i z (Y.jle.2 i h)⟩ Y.jh⟩
noncomputable def Pv.minus(P Q:Pv):Pv:=⟨λa=>P.a a/\¬Q.a a,λi=>P.n i/\¬Q.n i⟩
theorem YS.minus(Y:YS X σ N env wW J' m aM av aj own g s)(hL:¬oi.a env.locals)(hC:∀x c,env.cells.lookup x=some c->¬oi.a c)
  (hj:∀a,jo.a a->wW.a a/\¬oi.a a)(jm:∀i,jo.n i->wW.n i/\¬oi.n i)(hJ:J g s):YS X σ N env jo J m aM av aj (own.minus oi) g s:=
 ⟨Y.go,⟨λa o e h=>Y.le.1 a o e h.1,λi hi h=>Y.le.2 i hi h.1⟩,⟨λa h=>Y.ex.1 a h.1,λi h=>Y.ex.2 i h.1⟩,Y.frm,⟨Y.foL,hL⟩,λx c hc=>⟨Y.foC x c hc,hC x c hc⟩,
  ⟨λa h=>Y.jex.1 a (hj a h).1,λi h=>Y.jex.2 i (jm i h).1⟩,⟨λa h=>Y.jap.1 a (hj a h).1,λi h=>Y.jap.2 i (jm i h).1⟩,⟨λa h=>⟨Y.jle.1 a (hj a h).1,(hj a h).2⟩,λi h=>⟨Y.jle.2 i (jm i h).1,(jm i h).2⟩⟩,hJ⟩
theorem YS.weakJ(Y:YS X σ N env wW J' m aM av aj own g s)(hj:∀a,jo.a a->wW.a a)(jm:∀i,jo.n i->wW.n i)(hJ:J g s):YS X σ N env jo J m aM av aj own g s:=
 ⟨Y.go,Y.le,Y.ex,Y.frm,Y.foL,Y.foC,⟨λa h=>Y.jex.1 a (hj a h),λi h=>Y.jex.2 i (jm i h)⟩,⟨λa h=>Y.jap.1 a (hj a h),λi h=>Y.jap.2 i (jm i h)⟩,⟨λa h=>Y.jle.1 a (hj a h),λi h=>Y.jle.2 i (jm i h)⟩,hJ⟩
theorem F4{own oi eI:Pv}{s:Shared}(h:oi.Apart own)(k:eI.Le s oi)(hx:own.Ex s):eI.Apart own:=
 ⟨λa h1 h2=>du (hx.1 a h2) λo e=>h.1 a (k.1 a o e h1) h2,λi h1 h2=>h.2 i (k.2 i (hx.2 i h2) h1) h2⟩
theorem O8{target:Expr}{body:List Stmt}{it:Value}{Dep:St->St->Prop}{It:l9}{c:Code}{fs:List Frame}{jo:Pv}{J:View->Shared->Prop}{kk:Result->Sem Fin}{lv:List Value}{p:Pos}(I:Itr X k (some target) it Dep It)
  (hc:GC k c fs)(hJ:j9 X σ jo J)(hq:(Code.forLoop target it body [] env).quiet=true)(fp:(Code.block [] env).quiet=true)(hw:(Code.forLoop target it body [] env).weight=0)(hu:(Code.forLoop target it body [] env).cUnits=0)
  (iX:∀A f F m l aM av aj own g s,Room A (k+1)->YS X σ N env jo J m aM av aj own g s->zo g F f->Q F m l->M.Z A l aM av aj c (kk (.ok f)) fs s):
  ∀(L:List AV) A (m:Mp) (l:List AV) aM av aj own g s oi,Room A (k+1)->YS X σ N env jo J m aM av aj own g s->oi.Le aj aM->oi.Apart own->It oi L g σ s->zr M N env target body Q L m l->
   M.Z A l aM av aj (.forLoop target it body [] env) (denote table (.forLoop target it body [] env)) (.ret kk none false lv c p []::fs) s:=by
 have dA:GC k (.forLoop target it body [] env) (.ret kk none false lv c p []::fs):=QM hc hw hu;intro L
 induction L with
 |nil=>
  intro A m l aM av aj own g s oi hA Y hle aZ hit h;show M.Z A l aM av aj _ ((forTurn target it body [] env).onRaise _) _ s;refine aaE (qs ..) ?_;unfold forTurn;refine Mach.bind (d7 ?_);refine Mach.bind (uO (aB (I.stop (dA.room hA) Y.go.sat hit) (λr s₁ ba=>rg ba λhr g' G=>?_) λ_ _ x=>x.elim));clear ba;subst hr;refine M.again fp ?_;exact M.leaf .next (iX A .next .next m l aM av aj own g' s₁ hA (Y.inner hJ G aZ hle) rfl h)
 |cons V L ih=>
  intro A m l aM av aj own g s oi hA Y hle aZ hit h;show M.Z A l aM av aj _ ((forTurn target it body [] env).onRaise _) _ s;refine aaE (qs ..)<|Mach.bind (d7 ?_);refine Mach.bind (uO (aB (I.next (dA.room hA) Y.go.sat hit) (λr s₁ bh=>ax bh λv hr aF=>?_) λ_ _ x=>x.elim));refine aaE hr<|Mach.bind (aB aF (λ_ s₂ bN=>bN.rec λbj eI eU G rv iu=>?_) i2);have ox:=Y.inner hJ G aZ hle;have jk:=F4 aZ eU Y.ex;have gx:=eU.back' Y.go.run hle;refine Mach.bind (aB (h _ (dA.room hA) bj s₂ v ox.go.sat ox.frm rv) (λ_ a8 zz=>zz.rec λeG lp dZ bL eN cI=>bY cI λwA bW=>?_) i2);clear hit h aF bh bN G zz cI;subst wA;have fP:=ox.step hJ bL eN;have tQ:eI.Apart (bg N env):=⟨λa h1 h2=>jk.1 a h1 (by rcases h2.2 with rfl|⟨x,hx⟩;exact Y.foL;exact Y.foC x a hx),λ_ _ z=>z.elim⟩;have mZ:=I.keep iu bL tQ (I.dep _);have rC:¬eI.a env.locals:=λz=>jk.1 _ z Y.foL;have Ea:∀x c,env.cells.lookup x=some c->¬eI.a c:=λx c hc z=>jk.1 c z (Y.foC x c hc);have z6:j9 X dZ (jo.sup eI) (λg s=>J g s/\It eI L g dZ s):=λ{P g g' s s'} G ha ⟨a,b⟩=>⟨hJ G ⟨λa h=>ha.1 a (.inl h),λi h=>ha.2 i (.inl h)⟩ a,I.keep b G ⟨λa h=>ha.1 a (.inr h),λi h=>ha.2 i (.inr h)⟩ (I.dep _)⟩
  have Yb:YS X dZ N env (jo.sup eI) (λg s=>J g s/\It eI L g dZ s) lp aM av aj (own.sup eI) eG a8:=
   ⟨fP.go,⟨λa o e h=>by rcases h with h|h;exact fP.le.1 a o e h;exact gx.1 a o e h,λi hi h=>by rcases h with h|h;exact fP.le.2 i hi h;exact gx.2 i hi h⟩,
    ⟨λa h=>by rcases h with h|h;exact fP.ex.1 a h;exact(I.ex mZ).1 a h,λi h=>by rcases h with h|h;exact fP.ex.2 i h;exact(I.ex mZ).2 i h⟩,fP.frm,.inl fP.foL,λx c hc=>.inl (fP.foC x c hc),
    ⟨λa h=>by rcases h with h|h;exact fP.jex.1 a h;exact(I.ex mZ).1 a h,λi h=>by rcases h with h|h;exact fP.jex.2 i h;exact(I.ex mZ).2 i h⟩,
    ⟨λa h=>by rcases h with h|h;exact fP.jap.1 a h;exact tQ.1 a h,λi h=>by rcases h with h|h;exact fP.jap.2 i h;exact tQ.2 i h⟩,
    ⟨λa h=>by rcases h with h|h;exact .inl (fP.jle.1 a h);exact .inr h,λi h=>by rcases h with h|h;exact .inl (fP.jle.2 i h);exact .inr h⟩,fP.jh,mZ⟩
  have YW:∀a,jo.a a->(jo.sup eI).a a/\¬eI.a a:=λa h=>⟨.inl h,λz=>jk.1 a z (Y.jle.1 a h)⟩;have Xd:∀i,jo.n i->(jo.sup eI).n i/\¬eI.n i:=λi h=>⟨.inl h,λz=>jk.2 i z (Y.jle.2 i h)⟩
  (refine aaE (ju ..)<|aaE (jZ ..) ?_)
  refine bW _ _ _ _ dA z6 A _ _ _ _ aM av aj _ eG a8 hA rfl Yb λA' f F m' l' eZ fk fg bU g' s' cp Y' rf q=>?_;have again_:M.Z A' l' eZ fk fg (.forLoop target it body [] env) (denote table (.forLoop target it body [] env)) (.ret kk none false lv c p []::fs) s'->M.Z A' l' eZ fk fg (.forLoop target it body [] env) (.pure (.again (.forLoop target it body [] env))) (.ret kk none false lv c p []::fs) s':=M.again hq;have oiLe:eI.Le fg eZ:=⟨λa o e z=>Y'.le.1 a o e (Y'.jle.1 a (.inr z)),λi hi z=>Y'.le.2 i hi (Y'.jle.2 i (.inr z))⟩;have oiAp:eI.Apart (bU.minus eI):=⟨λa z1 z2=>z2.2 z1,λi z1 z2=>z2.2 z1⟩;have Ym:=Y'.minus (jo:=jo) (J:=J) rC Ea YW Xd Y'.jh.1
  cases F with
  |next=>subst rf;exact again_ (ih A' m' l' eZ fk fg _ g' s' eI cp Ym oiLe oiAp Y'.jh.2 q)
  |cont=>subst rf;exact again_ (ih A' m' l' eZ fk fg _ g' s' eI cp Ym oiLe oiAp Y'.jh.2 q)
  |brk=>subst rf;exact M.leaf .next (iX A' .next .next m' l' eZ fk fg _ g' s' cp (Y'.weakJ (λ_ h=>.inl h) (λ_ h=>.inl h) Y'.jh.1) rfl q)
  |ret W=>obtain⟨u,rfl,ru⟩:=rf;exact M.leaf (.ret u) (iX A' (.ret u) (.ret W) m' l' eZ fk fg _ g' s' cp (Y'.weakJ (λ_ h=>.inl h) (λ_ h=>.inl h) Y'.jh.1) ⟨u,rfl,ru⟩ q)
theorem B0{pos}(h:∀A',Room A' k->lz X A' aC k env m (some target) iter σ λDep L aS=>aS=σ/\zr M N env target body Q L m l)
  (hs:∀x,foldedSetIterable iter env x=pure x:=by intro y;rfl)(hq:∀it,(Code.forLoop target it body [] env).quiet=true:=by intro y;rfl)(fp:(Code.block [] env).quiet=true:=by rfl)
  (hw:∀it,(Code.forLoop target it body [] env).weight=0:=by intro y;rfl)(hu:∀it,(Code.forLoop target it body [] env).cUnits=0:=by intro y;rfl):tY M N env m (.For target iter body [] pos) l Q:=λc fs jo J hc hJ A K H gd lv aM av aj own g s hA fD Y hK=>by
 refine aaE (exec_For ..)<|Mach.bind (d7 (Mach.bind (aB (h _ (hc.room hA) g s Y.go.sat Y.frm) (λv s₁ aF=>?_) i2)));refine Mach.bind (dn (hs v) (Mach.bind (d7 (Mach.bind (eL (aB aF (λit s₂ zz=>zz.rec λbj aS Dep It oi L G ho I hit dY=>bY dY λe bA=>?_) i2))))));clear h aF zz dY;subst e;have ox:=Y.step hJ G.any (Y.frm.go G);have aZ:oi.Apart own:=⟨λa h1 h2=>du (Y.ex.1 a h2) λo e=>ho.1 a o e h1,λi h1 h2=>ho.2 i (Y.ex.2 i h2) h1⟩
 have hle:oi.Le aj aM:=by
  refine⟨λa o e q=>?_,λi hi q=>(ho.2 i (bT hi Y.go.run.gsize) q).elim⟩
  by_cases hp:aM.a a
  ·exact hp
  ·obtain⟨o',e'⟩:=Y.go.dom e hp;exact(ho.1 a o' e' q).elim
 refine M.call λp=>?_;refine aaE fD<|O8 I hc hJ (hq it) fp (hw it) (hu it) (λA' f F m' l' eZ fk fg bU g' s' cp Y' rf q=>?_) L A m l aM av aj own bj s₂ oi hA ox hle aZ hit bA;exact hK A' f F m' l' eZ fk fg bU g' s' cp Y' rf q
end
set_option backward.match.sparseCases true
def B1(e:Value)(s:Shared):Prop:=∃x ob vs,e=.ref x/\s.heap.get? x=some ob/\ob.cls=.type "StopIteration"/\ob.data=.fields vs/\vs[5]?=some .none
section
variable {X:Cx} {A:Around} {E:Value->Shared->Prop} {s:Shared}
theorem MN{items}(hit:s.heap.IsTupleIter it t i)(ht:s.heap.IsTuple t items)(hx:items[i]?=some x)
  (hQ:∀h',h'.IsTupleIter it t (i+1)->Heap.SameBut it s.heap h'->Q (some x) {s with heap:=h'}):wpAny (model P0 X.w) A (callSpecial? (.ref it) "__next__") Q E s:=by
 refine az λkk=>?_;refine dp (id hit) λo ho hc hd=>?_;refine yI ht λol nI y nl qc=>?_;refine kk<|mE (name:=Str.ofString "__next__") hit.typeIs Aw (i7 Aw hit.typeIs F.entry_tuple_iterator_next ?_ (F.args_tuple_iterator_next_1 _));refine ag (m:=field (.ref it) 0) (d9 ho hd (x:=.ref t) rfl ?_);refine aaE (ar (show ¬((Value.ref t==Value.none)=true)from kK))<|ag (m:=field (.ref it) 1) (d9 ho hd (x:=.int i 0) rfl ?_);refine ag (m:=seqItems? (.ref t)) (jY nI qc ?_);simp only[kM,hx];refine ag (xG ho hd (by simp) (aO (aE x rfl (hQ _ ?_ (i6 ..)))));exact(dh _ (lK _ ho (AA (ux hd _))) ((Obj.cls_mapFields ..).trans hc) (by refine aaE (ux hd ..) ?_;simp[rawInt]))
theorem MQ{items}(hh:A.handled=none)(hit:s.heap.IsTupleIter it t i)(ht:s.heap.IsTuple t items)(hx:items[i]?=none)
  (hE:∀e h',B1 e {s with heap:=h'}->Heap.ExtBut it s.heap h'->E e {s with heap:=h'}):wpAny (model P0 X.w) A (callSpecial? (.ref it) "__next__") Q E s:=by
 refine az λkk=>?_;refine dp (id hit) λo ho hc hd=>?_;refine yI ht λol nI y nl qc=>?_;refine kk<|mE (name:=Str.ofString "__next__") hit.typeIs Aw (i7 Aw hit.typeIs F.entry_tuple_iterator_next ?_ (F.args_tuple_iterator_next_1 _));refine ag (m:=field (.ref it) 0) (d9 ho hd (x:=.ref t) rfl ?_);refine aaE (ar (show ¬((Value.ref t==Value.none)=true)from kK))<|ag (m:=field (.ref it) 1) (d9 ho hd (x:=.int i 0) rfl ?_);refine ag (m:=seqItems? (.ref t)) (jY nI qc ?_);simp only[kM,hx];refine ag (gX (ag (xG ho hd (by simp) ?_)));refine ag (m:=newExc (.type "StopIteration") []) ?_;simp only[newExc,newTuple];refine ag (iz ?_ (by size_fits));refine ag (m:=firstArgMember _ _) (dn (a:=Value.none) (by first|rfl|(simp only[firstArgMember];rfl)) ?_);refine iz ?_ (by size_fits);simp only[raiseNew];refine ag (xK ?_)
 first|refine aaE (show A.in1.handled=none from hh) ?_|rw[hh]
 refine ag (aO (xV ?_));exact hE _ _ (o9 _ _ _ rfl (cB _ rfl) rfl rfl rfl) (((i6 ..).extBut.push _).push _)
end
noncomputable def fU(I:Addr):Code:=.builtin "proto.yield_from" ⟨[.ref I,.bool false,.none],[]⟩
theorem P5:entryFor table "proto.yield_from"=some Builtin.«proto.yield_from»:=entryFor_of_fast (by kernel_rfl)
noncomputable def HA(it:Value):Resume->Sem Fin
 |.send v=>do again (.builtin "proto.yield_from" ⟨[it,.bool false,←(match v with|.ref _=>newList [v]|_=>pure v)],[]⟩)
 |.throw e=>do again (.builtin "proto.yield_from" ⟨[it,.bool true,←(match e with|.ref _=>newList [e]|_=>pure e)],[]⟩)
noncomputable def Hz(it:Value):Sem Value:=holding [.none] (do
   rule "yield-from.next"
   match ←callSpecial? it "__next__" with
   |some v=>pure v
   |none=>do rule "yield-from.send-none";call (←getAttr it "send") [.none])
noncomputable def ta(it y:Value):Sem Fin:=do
  let quiet ←match ←typeOf it with
   |.type n=>do pure (←typeLookup (.type n) "close").isNone
   |_=>pure false
  Builtin.Generator.sleptOver it true
  let woken ←suspend y (cleanup:= !quiet)
  Builtin.Generator.sleptOver it false
  HA it woken
noncomputable def yM(e:Value):Sem Fin:=do
  if ←Builtin.Generator.endsTheTurnAsAValue false e then
   rule "yield-from.value";return ←ret (←field e 5)
  throw e
theorem QN(it:Value):Builtin.«proto.yield_from» ⟨[it,.bool false,.none],[]⟩=(do
 match ←(Hz it).attempt with
 |.error e=>yM e
 |.ok y=>ta it y):=by rfl
theorem NX{id:String}{args:Args}{b:Builtin}(hb:entryFor table id=some b):denote table (.builtin id args)=b args:=by
 show(match entryFor table id with|some b=>b args|none=>unsupported ((withoutEnding? id "#data").getD id))=_;exact aaE hb rfl
theorem yN(I:Addr):denote table (fU I)=(do
 match ←(Hz (.ref I)).attempt with
 |.error e=>yM e
 |.ok y=>ta (.ref I) y):=(NX P5).trans (QN _)
section
variable {X:Cx} {k:Nat} {σ:St} {M:Mach X k σ} {N:Addr} {env:Env} {m:Mp} {l:List AV} {Q:AFl->Mp->List AV->Prop}
theorem Mach.bind0{α:Type}{A:Around}{l:List AV}{aM:Pv}{av:View}{aj:Shared}{c:Code}{fs:List Frame}{s:Shared}{t:Sem α}{f:α->Sem Fin}
  (h:wpAny (model P0 X.w) (A.over c fs) t (λa s'=>M.Z A l aM av aj c (f a) fs s') aC s):M.Z A l aM av aj c (t>>= f) fs s:=by
 exact aaE (ju ..)<|M.wrap h
theorem Hl{A:Around}{e:Value}{s:Shared}{Q:Bool->Shared->Prop}(h:B1 e s)(hQ:Q true s):wpAny (model P0 X.w) A (Builtin.Generator.endsTheTurnAsAValue false e) Q aC s:=by
 refine az λkk=>?_;refine mM h λx ob vs ba ho hc hd h5=>?_;clear h;subst ba;have hT:s.TypeIs (.ref x) "StopIteration":=(aE ob ho hc);refine kk<|ag (ag (wpAny_typeOf hT ?_));refine ag (dn Bd ?_);refine ag (dn (a:=Value.type "type") rfl ?_);exact aO (aO hQ)
theorem P4:typeLookup (.type "tuple_iterator") "close"=pure none:=by(refine aaE (A6 ..)<|aaE AB ?_);kernel_rfl
theorem Gw{A:Around}{I:Addr}{o:Obj}{n:String}{b:Bool}{s:Shared}{Q:Unit->Shared->Prop}(ho:s.heap.get? I=some o)(hc:o.cls=.type n)(hn:n≠"generator")(hQ:Q () s):wpAny (model P0 X.w) A (Builtin.Generator.sleptOver (.ref I) b) Q aC s:=by
 refine ag (sD ho ?_);have:(o.cls !=.type "generator")=true:=by refine aaE hc ?_;simpa using hn
 exact aaE (aA this)<|aO hQ
theorem RD{a I:Addr}{vs:List Value}{L:List AV}{c:Code}{fs:List Frame}{jo:Pv}{J:View->Shared->Prop}{kk:Result->Sem Fin}{lv:List Value}{p:Pos}
  (hc:GC k c fs)(hJ:j9 X σ jo J)(hq:(fU I).quiet=true)
  (iX:∀A m l aM av aj own g s,Room A (k+1)->YS X σ N env jo J m aM av aj own g s->Q .next m l->M.Z A l aM av aj c (kk (.ok (.ret .none))) fs s):
  ∀(R:List AV) A (m:Mp) aM av aj own g s i,Room A (k+1)->YS X σ N env jo J m aM av aj own g s->(cH I).Le aj aM->(cH I).Apart own->Free X g σ I->SeqAt g "tuple" a vs->RepL g L vs->s.heap.IsTupleIter I a i->L.drop i=R->Q .next m l->
   M.Z A (R++l) aM av aj (fU I) (denote table (fU I)) (.ret kk none false lv c p []::fs) s:=by
 have room:∀{A:Around},Room A (k+1)->(A.over (fU I) (.ret kk none false lv c p []::fs)).handled=none/\True:=λ{A} hA=>⟨(vh A c (fU I) fs kk false lv p []).1.trans ((hc.hnd A).trans hA.handled),trivial⟩;intro R
 induction R with
 |nil=>
  intro A m aM av aj own g s i hA Y hle aZ hf h1 h2 hit hd hQ;refine aaE (yN ..) ?_;have hn:vs[i]?=none:=by have:=sG hd;rw[qp]at this ⊢;exact aaE h2.length<|this
  refine Mach.bind0 (uN (eL (ag (gX (ag (MQ (room hA).1 hit (o5 h1 Y.go.sat.in_) (by simpa using hn) λe h' he hx=>?_))))));have G:Go X (cH I) g σ s g σ {s with heap:=h'}:=Go.extBut Y.go.sat hf hx rfl;have Y':=Y.inner hJ G aZ hle;refine mM (id he) λx ob ws bh ho dA cZ h5=>?_;subst bh;unfold yM;refine Mach.bind0 (Hl he ?_);refine aaE (aA rfl)<|Mach.bind0 (gX (Mach.bind0 (d9 ho cZ h5 ?_)));exact M.leaf (.ret .none) (iX A m l aM av aj own g _ hA Y' hQ)
 |cons V R ih=>
  intro A m aM av aj own g s i hA Y hle aZ hf h1 h2 hit hd hQ;obtain⟨e1,e2⟩:=qN hd;refine ax (h2.get e1) λv hv rv=>?_;refine aaE (yN ..)<|Mach.bind0 (uN (eL (ag (gX (ag (MN hit (o5 h1 Y.go.sat.in_) (by simpa using hv) λh' hi hs=>?_))))));have G:Go X (cH I) g σ s g σ {s with heap:=h'}:=Go.sameBut Y.go.sat hs hf rfl;have Y':=Y.inner hJ G aZ hle;refine dp (id hi) λo ho dA cZ=>?_;refine aO ?_;show M.Z A _ aM av aj (fU I) (ta (.ref I) v) _ _;unfold ta;refine Mach.bind0 (wpAny_typeOf (show Shared.TypeIs {s with heap:=h'} (.ref I) "tuple_iterator" from⟨o,ho,dA⟩) ?_);refine Mach.bind0 (dn P4 ?_);refine Mach.bind0 (aO ?_);refine Mach.bind0 (Gw ho dA (by decide) ?_);have Xe:(own.sup (cH I)).Le aj aM:=⟨λa o e h=>by rcases h with h|h;exact Y'.le.1 a o e h;exact hle.1 a o e h,λi hi h=>by rcases h with h|h;exact Y'.le.2 i hi h;exact hle.2 i hi h⟩;have YX:(own.sup (cH I)).Ex {s with heap:=h'}:=⟨λa h=>by rcases h with h|h;exact Y'.ex.1 a h;exact⟨o,by exact aaE (show a=I from h)<|ho⟩,λi h=>by rcases h with h|h;exact Y'.ex.2 i h;exact h.elim⟩;refine M.yld (c:=fU I) (gf:=false) (own:=own.sup (cH I)) (g:=g) ?_ ?_ (M.ok0 _ _) Y'.go Xe YX rv λP b8 aU dX CG A' cp=>?_
  ·show(splitAtGen fs).map _=none
   refine aaE hc.split ?_;rfl
  ·refine aaE hc.guard ?_;rfl
  have hI:=CG.1 I (.inr rfl);have zB:own.Apart P:=⟨λa h=>CG.1 a (.inl h),λi h=>CG.2 i (.inl h)⟩
  have Ln:aU.heap.get? I=some o:=by
   rcases dX.run.keep I o ho hf.2.1 hf.2.2 hI with q|⟨q,_⟩
   ·exact q
   ·refine bk q λy y q=>?_;rw[cZ]at q;cases q
  refine Mach.bind0 (aO (Mach.bind0 (Gw Ln dA (by decide) ?_)));exact M.again hq<|ih A' m _ b8 aU own b8 aU (i+1) cp (Y'.woken' hJ dX zB Pv.le_left) Pv.le_right ⟨λa h1 h2=>aZ.1 a h1 h2,λi h1 h2=>aZ.2 i h1 h2⟩ (hf.go dX ho hI) (h1.le dX.le) (h2.le dX.le) ⟨o,Ln,dA,cZ⟩ e2 hQ
theorem xJ(h:∀A',Room A' k->Ev X A' aC env m e σ (zq σ m Q l (.tup R)))(hi:interactive env=false:=by rfl):
  tY M N env m (.Expr (.YieldFrom e ypos) pos) (R++l) Q:=λc fs jo J hc hJ A K H gd lv aM av aj own g s hA fD Y hK=>by
 refine aaE (exec_Expr env _ pos hi rfl)<|Mach.bind (d7 ?_)
 (refine aaE (arm_eval_YieldFrom ..)<|aaE (ju ..)<|aaE (ju ..)<|aaE (jZ ..)<|aaE (jZ ..) ?_)
 refine M.wrap (aB (h _ (hc.room hA) g s Y.go.sat Y.frm) (λv s' zz=>zz.rec λg' W ab G r aR=>ei aR λe1 e2 q=>?_) i2);refine az λkk=>?_;subst e1 e2;have Y':=Y.step hJ G.any (Y.frm.go G);clear zz;obtain⟨a,vs,rfl,hq,rl⟩:=r;refine kk<|M.wrap (m:=standAt ypos) (H:=.raise) (gd:=id) (lv:=id) (d7 ?_);refine Mach.bind (t:=typeOf (.ref a)) (wpAny_typeOf (o5 hq G.sat.in_).typeIs ?_);dsimp only;refine aaE (ar (by decide))<|Mach.bind (t:=holding [.ref a] (pyIter (.ref a))) (eL (wpAny_pyIter_tuple (o5 hq G.sat.in_) ?_));refine M.call λp=>?_;show M.Z _ _ _ _ _ (fU s'.heap.objs.size) (denote table (fU s'.heap.objs.size)) (.ret _ none (gd false) (lv []) c p []::fs) _;refine aaE fD ?_;have Gk:Go X (bg N env) g' ab s' g' ab {s' with heap:=s'.heap.push {cls:=.type "tuple_iterator",data:=.fields #[.ref a,.int 0 0]}}:=Go.keeps G.sat λb o e=>bJ _ e;have YY:Go X aL g' ab s' g' ab {s' with heap:=s'.heap.push {cls:=.type "tuple_iterator",data:=.fields #[.ref a,.int 0 0]}}:=Go.keeps G.sat λb o e=>bJ _ e;have YZ:=Y'.step hJ Gk (Y'.frm.go YY);have zC:∀o,s'.heap.get? s'.heap.objs.size=some o->False:=λo e=>de _ (cC e);refine RD (I:=s'.heap.objs.size) (a:=a) (vs:=vs) (L:=R) hc hJ (Code.quiet_builtin _ (by decide+kernel)) (λA' m' l' eZ fk fg bU b8 aU cp Yy q'=>?_) R A m aM av aj own g' _ 0 hA YZ ⟨λb o e hb=>?_,λx x h=>h.elim⟩ ⟨λb h1 h2=>?_,λx h=>h.elim⟩ (dG G.sat (bC _)) hq rl (dh _ (cB _ rfl) rfl rfl) rfl q
 ·exact hK A' .next .next m' l' eZ fk fg bU b8 aU cp Yy rfl q'
 ·refine az λkk=>?_
  have el:=hb
  by_cases hp:aM.a b
  ·exact kk<|hp
  ·obtain⟨o',e'⟩:=Y'.go.dom e hp;rw[el]at e';exact(zC _ e').elim
 ·have el:=h1
  obtain⟨o,e⟩:=Y'.ex.1 b h2;rw[el]at e;exact zC _ e
end
set_option backward.match.sparseCases false
theorem Hm:GC k (.func body env) []:=by
 refine⟨rfl,rfl,λA=>rfl,λA=>?_,λA=>?_⟩
 ·show A.depth+frameCount []+(Code.func body env).weight<=A.depth+1
  have:(Code.func body env).weight=1:=by rfl
  refine aaE this ?_;simp[frameCount]
 ·show A.units+unitsOf []+(Code.func body env).cUnits<=A.units+3
  have:(Code.func body env).cUnits=3:=by rfl
  refine aaE this ?_;simp[unitsOf]
theorem Ov{X:Cx}{k:Nat}{σ:St}{M:Mach X k σ}{N:Addr}{env:Env}{m:Mp}{body:List Stmt}{l:List AV}(h:nx M N env m body l λF x l'=>l'=[]/\(F=.next∨F=.ret .none))
  {A:Around}{aM:Pv}{av:View}{aj:Shared}{own:Pv}{g:View}{s:Shared}(hA:Room A (k+1))(Y:YS X σ N env ⟨λx=>False,λx=>False⟩ (λx x=>True) m aM av aj own g s):
  M.Z A l aM av aj (.func body env) (denote table (.func body env)) [] s:=by
 have hJ:j9 X σ ⟨λx=>False,λx=>False⟩ (λx x=>True):=λx x x=>trivial;refine Mach.bind0 (xW ?_)
 (refine aaE (ju ..)<|aaE (qs ..)<|aaE (jZ ..) ?_)
 refine h _ _ _ _ Hm hJ A _ _ _ _ aM av aj own g s hA rfl Y λA' f F m' l' eZ fk fg bU g' s' cp Y' rf aR=>bY aR λe q=>?_;subst e;clear aR;rcases q with rfl|rfl
 ·subst rf;exact M.fin Y'.go (.inr rfl)
 ·obtain⟨v,rfl,r⟩:=rf
  exact aaE r<|M.fin Y'.go (.inr rfl)
theorem Frm.heapEq(F:Frm X env m g σ s)(h:s'.heap=s.heap):Frm X env m g σ s':=
 ⟨F.kind,F.free,by exact aaE h<|F.ns,by exact aaE h<|F.cells,F.var,F.inj,by exact aaE h<|F.csz,F.own⟩
theorem Go.keepsG(S:Sat X g σ s)(k:∀b o,s.heap.get? b=some o->s'.heap.get? b=some o)(f9:s'.os=s.os)(hg:s'.gens=s.gens.push x)(hx:x.bare=true):Go X P g σ s g σ s':=by
 refine⟨S.keeps k,.refl g,λz z z z=>rfl,λz z z z=>kb,f9,λa o e z=>⟨o,k a o e⟩,λa o e z z z=>.inl (k a o e),λp z o vs e hd=>⟨#[],by refine aaE (k _ _ e) ?_;congr 1;obtain⟨c,d,dt,sl⟩:=o;clear e;subst hd;simp⟩,by(refine aaE hg<|aaE (sg ..) ?_);exact gV _,λi y e z=>?_,λi y e=>?_⟩
 ·rw[hg,Array.getElem?_push,ar];exact e
  intro q;rw[q,EW (bC _)]at e;exact be e
 ·rw[hg,Array.getElem?_push]at e
  split at e
  ·(refine aaE (aq (bq e)) ?_);exact .inr (.inl hx)
  ·exact .inl e
def sX(X:Cx)(k:Nat)(f:AV)(args:List AV)(σ:St)(l:List AV):Prop:=
 ∀A g s fv vs,Room A (k+2)->Sat X g σ s->Rep g f fv->RepL g args vs->codeAny (model P0 X.w) A (.call fv ⟨vs,[]⟩) (λr s'=>∃a gi g' own,r=.ok (.ret (.ref a))/\Go X aL g σ s g' σ s'/\own.Le s aL/\kl X k σ a gi own l g' σ s') s
theorem vo(F:FnAt X a fd body)(xs:List Str)
  (jI:∀g s vs,Sat X g σ s->RepL g args vs->∃dz,RepL g vX dz/\BindsTo s fd ⟨vs,[]⟩ (xs.zip dz))
  (hx:xs.all (λx=>fd.scope.names.lookup x==some .local||fd.scope.names.lookup x==some .cell)=true)
  (h:∀L,nx (Cc X k σ) L (callEnvC fd L a) (g8 xs vX Mp.nil) body l λF z l'=>l'=[]/\(F=.next∨F=.ret .none))
  (hclo:fd.closure=[])(hco:fd.scope.isCoroutine=false)(hgen:fd.scope.isGenerator=true)(hk:fd.scope.kind=.function):
  sX X k (.ref a) args σ l:=λA g s fv vs hA S hf r=>by
 refine aaE hf<|ax (F.obj S) λo ho hd=>?_;refine ax (jI g s vs S r) λdz r' hb=>?_;refine codeAny_call_generator (by have:=hA.depth;exact zk this) ho hd hco hgen F.body (F.cdRec S) (hb _ _ _ _ ?_);refine aaE hclo<|r5 hk (λy hy=>?_) λenv he s' x=>?_
 ·have hm:y.1∈xs:=(uE hy).1
  have:=nR.mp hx y.1 hm;rw[qy,cM,cM]at this;rcases this with q|q
  ·exact .inl q
  ·exact .inr ⟨q,du (nU fd.scope.names (s.heap.objs.size+1) [] q) λc hc=>by refine aaE hc ?_;rfl⟩
 ·have fX:env=callEnvC fd s.heap.objs.size a:=he
  clear he;subst fX;have Fr:=qD (a:=a) S r' hk hx x;have G:=qM S x (P:=aL);refine(GJ ((F.noLimit S).keeps x.toInCall.keep) s'.heap.objs.size s'.gens.size g ((bg s.heap.objs.size (callEnvC fd s.heap.objs.size a)).gen s'.heap.objs.size s'.gens.size) rfl ?_);generalize eW:({cls:=.type "generator",data:=.fields #[.int s'.gens.size 0,.str fd.name s'.toks,.str fd.qualname (s'.toks+1)]}:Obj)=ob;have kp:∀b o,s'.heap.get? b=some o->(s'.heap.push ob).get? b=some o:=λb o e=>bJ _ e;have aN:∀{P:Pv},Go X P g σ s' g σ {s' with gens:=s'.gens.push (.fresh (.func body (callEnvC fd s.heap.objs.size a))),toks:=s'.toks+1+1,heap:=s'.heap.push ob}:=Go.keepsG G.sat kp rfl rfl rfl;have hgen_:∀b o,s.heap.get? b=some o->b<s.heap.objs.size:=λb o e=>cC e;have hle:(bg s.heap.objs.size (callEnvC fd s.heap.objs.size a)).Le s aL:=pj (bC _)
  have hsz:∀o,s.heap.get? s'.heap.objs.size=some o->False:=λo e=>by
   obtain⟨o',e'⟩:=G.dom e id;exact de _ (cC e')
  refine⟨G.trans aN,⟨λb o e h=>?_,λi hi h=>?_⟩,rfl,(gZ ob (.str fd.name s'.toks) (.str fd.qualname (s'.toks+1)) (cB _ (by refine aaE (aq eW) ?_;rfl)) (by exact aaE (aq eW) rfl) (by exact aaE (aq eW) rfl) (by exact aaE (aq eW) rfl)),dG G.sat (bC _),_,rfl,λh=>?_,id,⟨λb h=>?_,λz h=>h.elim⟩,?_,?_⟩
  ·rcases h with h|rfl
   ·exact hle.1 b o e h
   ·exact hsz o e
  ·rcases h with h|rfl
   ·exact h.elim
   ·exact de _ (bT hi G.run.gsize)
  ·obtain⟨o',e'⟩:=pq Fr _ h
   exact de _ (cC e')
  ·obtain⟨o',e'⟩:=pq Fr _ h
   exact⟨o',kp _ _ e'⟩
  ·exact aaE (sg ..)<|lN _
  ·refine(lU (.fresh (.func body (callEnvC fd s.heap.objs.size a))) (.func body (callEnvC fd s.heap.objs.size a)) _ _ (by simp) rfl (.inl (cA rfl rfl rfl)) (λP b8 aU dX aZ t9 A' cp=>?_))
   have Eb:=aZ.1 _ ⟨bC _,.inl rfl⟩;have wX:∀x c,(callEnvC fd s.heap.objs.size a).cells.lookup x=some c->¬P.a c:=λy c hc=>aZ.1 c ⟨dS (x.above y c (mem_of_lookup hc)),.inr ⟨y,hc⟩⟩;have jK:=(Fr.go aN).goP dX Eb wX;have Gr:Go X (bg s.heap.objs.size (callEnvC fd s.heap.objs.size a)) b8 σ (aU.setGen s'.gens.size .running) b8 σ (aU.setGen s'.gens.size .running):=.refl (dX.sat.heap rfl);have eN:Frm X (callEnvC fd s.heap.objs.size a) (g8 xs vX Mp.nil) b8 σ (aU.setGen s'.gens.size .running):=jK.heapEq rfl;exact Ov (M:=Cc X k σ) (h s.heap.objs.size) cp ⟨Gr,Pv.Le.refl _ _,⟨λb h=>pq eN b h,λz h=>h.elim⟩,eN,⟨bC _,.inl rfl⟩,λy c hc=>⟨dS (x.above y c (mem_of_lookup hc)),.inr ⟨y,hc⟩⟩,⟨λz h=>h.elim,λz h=>h.elim⟩,⟨λz h=>h.elim,λz h=>h.elim⟩,⟨λz h=>h.elim,λz h=>h.elim⟩,trivial⟩
set_option backward.match.sparseCases true
theorem Room.in1(h:Room A (k+1)):Room A.in1 k:=⟨h.handled,by have:=h.depth;exact Ui this,by have:=h.units;exact UD this⟩
section
variable {X:Cx} {k:Nat} {σ:St}
theorem NY{tgt:Option Expr}{it:Addr}{Dep:St->St->Prop}{It:l9}{S:Addr}{res:Value}{Pb:Pv}{av:View}{fL:St}{aj:Shared}(I:Itr X k none (.ref it) Dep It)(hS:Pb.a S):
  ∀(l:List AV) A own out g s,Room A (k+1)->Go X Pb av fL aj g σ s->own.Le aj Pb->¬own.a S->It own l g σ s->Dst X S out g σ s->out.length+l.length<=65536->
   codeAny (model P0 X.w) A (.builtin "list.extend.loop" ⟨[.ref S,.ref it,res],[]⟩) (λr s'=>r=.ok (.ret res)/\∃g',Go X Pb av fL aj g' σ s'/\Dst X S (out++l) g' σ s') s:=by
 intro l
 induction l with
 |nil=>
  intro A own out g s hA G ho eu hit hd hz;refine qA AL<|aaE (oM qt _) ?_;show wpAny _ A.in1 (pyNext (.ref it)>>= _) _ _ s;refine ag (aB (I.stop hA.in1 G.sat hit) (λr s₁ aR=>rg aR λhr g' G'=>?_) λy y x=>x.elim);clear aR;subst hr;exact aO (dP rfl g' (G.comp G' ho) (by exact aaE (jX ..)<|hd.go G' eu))
 |cons V l ih=>
  intro A own out g s hA G ho eu hit hd hz;refine qA AL<|aaE (oM qt _) ?_;refine ag (aB (I.next hA.in1 G.sat hit) (λr s₁ ba=>ax ba λv hr aF=>?_) λy y x=>x.elim);clear ba;refine aaE hr ?_;show wpAny _ A.in1 (ya none (.ref it) v>>= λy=>updateSeq S (·.push v)>>= _) _ _ s₁;refine ag (aB aF (λy s₂ bh=>bh.rec λbj bU eU G' rv iu=>?_) λy y x=>x.elim);have dj:bU.Le aj Pb:=eU.back' G.run ho;have pK:¬bU.a S:=λq=>du (hd.at) λo e=>eu (eU.1 S o e q);refine fJ (hd.go G' eu) λhf ys jN ry=>?_;obtain⟨oS,vQ,Ec,n,wY⟩:=jN;have hlen:ys.length=out.length:=ry.length;refine ag (qB vQ wY (aO ⟨lQ qt _,?_⟩) (by(refine aaE df<|aaE f3<|aaE hlen ?_);simp at hz;exact Jo hz) (by(refine aaE df<|aaE (sg ..)<|aaE f3<|aaE hlen ?_);simp at hz;exact Jx hz));obtain⟨n',wB⟩:=uF wY (·.push v);have tv:=lK (Obj.mapSeq (·.push v)) vQ (uy wB);have aN:Go X Pb bj σ s₂ bj σ {s₂ with heap:=s₂.heap.update S (Obj.mapSeq (·.push v))}:=Go.sameBut G'.sat (i6 ..) hf hS;have CH:Go X (cH S) bj σ s₂ bj σ {s₂ with heap:=s₂.heap.update S (Obj.mapSeq (·.push v))}:=Go.sameBut G'.sat (i6 ..) hf rfl;have aZ:bU.Apart (cH S):=⟨λb h1 h2=>pK (by exact aaE (aq (show b=S from h2))<|h1),λy y h=>h.elim⟩;have md:Dst X S (out++[V]) bj σ {s₂ with heap:=s₂.heap.update S (Obj.mapSeq (·.push v))}:=(dP hf (ys++[v]) (kY _ tv ((uI ..).trans Ec) n' (by refine aaE wB ?_;simp)) (ry.append (.cons rv .nil)));refine gU (ih A bU (out++[V]) bj _ hA ((G.comp G' ho).trans aN) dj pK (I.keep iu CH aZ (I.dep _)) md (by simp at hz ⊢;exact Dm hz)) λr s' bN=>fJ bN λh1 g' h2 h3=>(dP h1 g' h2 (by simpa using h3))
theorem Fj{x:Value}{T:String}{S:Addr}{res:Value}{Pb:Pv}{av:View}{fL:St}{aj:Shared}{g:View}{s:Shared}{A:Around}{l:List AV}(hA:Room A (k+1))(hS:Pb.a S)(G:Go X Pb av fL aj g σ s)(hd:Dst X S [] g σ s)
  (hT:s.TypeIs x T)(oh:Builtin.List.listSameRef (.ref S) x=false)(h2:(Value.type T==Value.type "list")=false)(h3:(Value.type T==Value.type "tuple")=false)(hz:l.length<=65536)
  (hit:∀{Q:VP},(∀it Dep It own s',Go X aL g σ s g σ s'->s'.TypeIs x T->own.Le aj Pb->¬own.a S->Itr X k none (.ref it) Dep It->It own l g σ s'->Q (.ref it) s')->wpAny (model P0 X.w) A.in1 (pyIter x) Q aC s)
  (hint:∀{s':Shared} {Q:Bool->Shared->Prop},s'.TypeIs x T->(∀b tk,Q b {s' with toks:=tk})->wpAny (model P0 X.w) A.in1 (Builtin.List.listLengthHint x) Q aC s'):
  wpAny (model P0 X.w) A.in1 (Builtin.List.listExtendWith (.ref S) x res) (λfin s'=>match fin with
   |.done f=>(Except.ok f:Result)=.ok (.ret res)/\∃g',Go X Pb av fL aj g' σ s'/\Dst X S l g' σ s'
   |.again c'=>c'.quiet=true/\codeAny (model P0 X.w) A c' (λr s'=>r=.ok (.ret res)/\∃g',Go X Pb av fL aj g' σ s'/\Dst X S l g' σ s') s') aC s:=by
 unfold Builtin.List.listExtendWith;refine ag (wpAny_typeOf hT ?_);simp only[oh,h2,h3,Bool.or_false,nO,j7];refine ag (hit λit Dep It own s₁ ai y7 ho eu I hi=>?_);have VL:=hd.go ai id;refine ag (eL (hint y7 λb tk=>?_));have Gt:Go X aL g σ s₁ g σ {s₁ with toks:=tk}:=Go.keeps ai.sat λy y e=>e;have gz:=I.keep hi Gt Pv.Apart.noP (I.dep σ);have md:=VL.go Gt id;have aN:=(G.trans ai.any).trans Gt.any
 have loop:∀a8,Go X (cH S) g σ {s₁ with toks:=tk} g σ a8->Dst X S [] g σ a8->wpAny (model P0 X.w) A.in1 (again (.builtin "list.extend.loop" ⟨[.ref S,.ref it,res],[]⟩)) (λfin s'=>match fin with
   |.done f=>(Except.ok f:Result)=.ok (.ret res)/\∃g',Go X Pb av fL aj g' σ s'/\Dst X S l g' σ s'
   |.again c'=>c'.quiet=true/\codeAny (model P0 X.w) A c' (λr s'=>r=.ok (.ret res)/\∃g',Go X Pb av fL aj g' σ s'/\Dst X S l g' σ s') s') aC a8:=λa8 bL tu=>by
  have aZ:own.Apart (cH S):=⟨λb h1 h2=>eu (by exact aaE (aq (show b=S from h2))<|h1),λy y h=>h.elim⟩;have ua:(cH S).Le aj Pb:=⟨λb o e h=>by exact aaE (show b=S from h)<|hS,λy y h=>h.elim⟩;refine aO ⟨lQ qt _,gU (NY (tgt:=none) I hS l A own [] g a8 hA (aN.comp bL ua) ho eu (I.keep gz bL aZ (I.dep σ)) tu (by simpa using hz)) λr s' cI=>fJ cI λh1 g' h2 h3=>(dP h1 g' h2 (by simpa using h3))⟩
 split
 ·refine ag (gX (ag ?_))
  refine az λkk=>?_;refine fJ (id md) λbH ys jj r=>?_;obtain⟨o,ho,hc,n,jn⟩:=jj;have e0:ys=[]:=by exact r
  subst e0;refine kk<|ag (qB ho jn ?_);obtain⟨n',cZ⟩:=uF jn (·.push Value.none);have fC:=lK (Obj.mapSeq (·.push Value.none)) ho (uy cZ);refine qB fC cZ ?_;obtain⟨my,wC⟩:=uF cZ (·.pop);have dW:=lK (Obj.mapSeq (·.pop)) fC (uy wC);have Ga:Go X (cH S) g σ {s₁ with toks:=tk} g σ {s₁ with toks:=tk,heap:=s₁.heap.update S (Obj.mapSeq (·.push Value.none))}:=Go.sameBut Gt.sat (i6 ..) bH rfl;have Gb:Go X (cH S) g σ {s₁ with toks:=tk,heap:=s₁.heap.update S (Obj.mapSeq (·.push Value.none))} g σ {s₁ with toks:=tk,heap:=(s₁.heap.update S (Obj.mapSeq (·.push Value.none))).update S (Obj.mapSeq (·.pop))}:=Go.sameBut Ga.sat (i6 ..) bH rfl;exact loop _ (Ga.trans Gb) (dP bH ([]) (kY _ dW ((uI ..).trans ((uI ..).trans hc)) my (by refine aaE wC ?_;rfl)) .nil)
 ·exact loop _ (.refl Gt.sat) md
end
section
variable {X:Cx} {k:Nat} {σ:St}
theorem GQ(hT:s'.TypeIs (.ref a) "generator")(h:∀b tk,Q b {s' with toks:=tk}):wpAny (model P0 X.w) A (Builtin.List.listLengthHint (.ref a)) Q aC s':=by
 unfold Builtin.List.listLengthHint;refine ag (se hT F.gen_no_len ?_);refine ag (se hT F.gen_no_hint ?_);exact aO (h _ s'.toks)
theorem GP(c9:∀h:Heap,X.B.In h->h.NoLimit)(hA:Room A (k+3))(G:Go X aL av σ aj g σ s)(mi:∀o,aj.heap.get? S=some o->False)(hd:Dst X S [] g σ s)
  (hgen:kl X k σ a gi own l g σ s)(ho:own.Le aj aL)(eu:¬own.a S)(hz:l.length<=65536):
  wpAny (model P0 X.w) A.in1 (Builtin.List.listExtendWith (.ref S) (.ref a) res) (λfin s'=>match fin with
   |.done f=>(Except.ok f:Result)=.ok (.ret res)/\∃g',Go X aL av σ aj g' σ s'/\Dst X S l g' σ s'
   |.again c'=>c'.quiet=true/\codeAny (model P0 X.w) A c' (λr s'=>r=.ok (.ret res)/\∃g',Go X aL av σ aj g' σ s'/\Dst X S l g' σ s') s') aC s:=by
 have drop:∀{g':View} {s':Shared},Go X (cH S) av σ aj g' σ s'->Go X aL av σ aj g' σ s':=λG=>G.weaken ⟨λb o e h=>mi o (by exact aaE (aq (show b=S from h))<|e),λx x h=>h⟩;have I:Itr X (k+2) none (.ref a) (λσ ab=>ab=σ) (kl X k σ a gi):=vA c9;have zZ:own.Le aj (cH S):=⟨λb o e h=>(ho.1 b o e h).elim,λi hi h=>(ho.2 i hi h).elim⟩
 have wZ:S≠a:=λe=>by
  refine eE hgen λx hG x ob rH x=>?_;exact eu (by(refine aaE rH<|aaE e ?_);exact .inr rfl)
 refine aB (Fj (k:=k+2) (Pb:=cH S) (T:="generator") hA rfl G.any hd hgen.2.1.typeIs (by simp[Builtin.List.listSameRef,wZ]) (by decide) (by decide) hz (λ{Q} h=>?_) (λ{s' Q} hT h=>GQ hT h)) (λfin s' h=>?_) i2
 ·exact A1 hgen.2.1 (h a _ _ own s (.refl G.sat) hgen.2.1.typeIs zZ eu I hgen)
 ·cases fin with
  |done f=>refine fJ h λh1 g' h2 h3=>?_;exact(dP h1 g' (drop h2) h3)
  |again c'=>exact⟨h.1,gU h.2 λr aU c5=>fJ c5 λh1 g' h2 h3=>(dP h1 g' (drop h2) h3)⟩
theorem NZ(c9:∀h:Heap,X.B.In h->h.NoLimit)(hA:Room A (k+4))(G:Go X aL av σ aj g σ s)(hgen:kl X k σ a gi own l g σ s)(ho:own.Le aj aL)(hz:l.length<=65536):
  wpAny (model P0 X.w) A (collect (.ref a)) (λvs s'=>∃g',Go X aL av σ aj g' σ s'/\RepL g' l vs) aC s:=by
 unfold collect;refine ag (wpAny_runValue (qA F.entry_proto_collect ?_));refine aaE (oM F.plain_proto_collect _) ?_;refine ag (iz ?_ (by size_fits));refine aO ⟨lQ AQ _,qA F.entry_list_iadd ?_⟩;refine aaE (oM AQ _) ?_;have Gk:Go X aL g σ s g σ {s with heap:=s.heap.push {cls:=.type "list",data:=.seq ([]:List Value).toArray}}:=Go.keeps G.sat λb o e=>bJ _ e;have I:Itr X (k+2) none (.ref a) (λσ ab=>ab=σ) (kl X k σ a gi):=vA c9;have tw:=I.keep hgen Gk Pv.Apart.noP rfl;have hS:∀o,s.heap.get? s.heap.objs.size=some o->False:=λo e=>de _ (cC e);have mi:∀o,aj.heap.get? s.heap.objs.size=some o->False:=λo e=>let ⟨o',e'⟩:=G.dom e id;hS o' e';have eu:¬own.a s.heap.objs.size:=λq=>let ⟨o,e⟩:=(I.ex hgen).1 _ q;hS o e;have hd:Dst X s.heap.objs.size [] g σ {s with heap:=s.heap.push {cls:=.type "list",data:=.seq ([]:List Value).toArray}}:=(dP (dG G.sat (bC _)) ([]) (kY _ (cB _ rfl) rfl 0 rfl) .nil);refine aB (GP c9 (hA.mono (gV _)) (G.trans Gk) mi hd tw ho eu hz) (λfin s' h=>?_) λy y x=>x.elim
 have fin_:∀{s':Shared},(∃g',Go X aL av σ aj g' σ s'/\Dst X s.heap.objs.size l g' σ s')->wpAny (model P0 X.w) A (do match (←load s.heap.objs.size).data with
   |.seq xs _=>pure xs.toList
   |_=>unsupported "internal:collect") (λvs s'=>∃g',Go X aL av σ aj g' σ s'/\RepL g' l vs) aC s':=λ{s'} dY=>BW dY λg' h1 hf ys ⟨o,ho,hc,n,jn⟩ r=>by
  refine ag (sD ho ?_);exact aaE jn<|aO (aE g' h1 (by simpa using r))
 cases fin with
 |done f=>obtain⟨h1,h2⟩:=h;cases h1;exact fin_ h2
 |again c'=>exact⟨h.1,gU h.2 λr aU jl=>bY jl λh1 h2=>by clear jl;exact aaE h1<|fin_ h2⟩
theorem MZ(c9:∀h:Heap,X.B.In h->h.NoLimit)(hA:Room A (k+6))(G:Go X aL av σ aj g σ s)(hgen:kl X k σ a gi own l g σ s)(ho:own.Le aj aL)(hz:l.length<=65536)(h:Q (.tup l) σ):
  wpAny (model P0 X.w) A (call (.type "tuple") [.ref a]) (Post X aL av σ aj Q) aC s:=by
 refine callType_codes (Q₁:=λobj s₁=>s₁.TypeIs obj "tuple"/\Post X aL av σ aj Q obj s₁) uJ (F.typeCall_tuple_1 _) Fe ?_ λobj s₁ aF=>?_
 ·refine codeAny_of_tree ?_
  show wpAny _ A.in1.in1 (do checkBuiltinCall "tuple.__new__" ⟨[.type "tuple",.ref a],[]⟩;again (.builtin "tuple.__new__" ⟨[.type "tuple",.ref a],[]⟩)) _ _ s;refine ag (dn (F.newCall_tuple_1 _) (aO ⟨lQ AR _,qA F.entry_tuple_new ?_⟩));refine aaE (oM AR _) ?_;have mv:=sub_tuple_self;have IJ:=init_tuple_lookup;have L8:=madeHere_tuple;have dB:=hgen.2.1.typeIs
  have Xf:∀{Q':List Value->Shared->Prop} {E':VP},(∀vs s' g',Go X aL av σ aj g' σ s'->RepL g' l vs->Q' vs s')->wpAny (model P0 X.w) A.in1.in1 (collect (.ref a)) Q' E' s:=λhq=>
   aB (NZ c9 hA.in1.in1 G hgen ho hz) (λvs s' jL=>ax jL λg' h1 h2=>hq vs s' g' h1 h2) λy y x=>x.elim
  wp_walk using wpAny_typeOf dB,Xf
  intro vs s' g' G' rv;show wpAny _ _ (Builtin.Tuple.tupleExact vs.toArray>>= λv=>ret v) _ _ _;have hn:=View.none_of G'.sat.in_ iJ;refine ag (iz ?_ (by show vs.toArray.size<=sizeLine;(refine aaE df<|aaE f3<|aaE rv.length ?_);exact kA hz));refine aO<|⟨(aE _ (cB _ rfl) rfl),Post.to (G'.trans (Go.keeps_add G'.sat (λb o e=>bJ _ e) iJ (cB _ rfl))) (aE (.tup l) ?_ h)⟩;exact(cy _ vs rfl (qL rfl rfl) (rv.le (View.le_add _ hn)))
 ·exact(cA aF.1 (xp obj _) (object_init_meets uJ.init.lookup uJ.made (by decide) P0 X.w A.in1 _ s₁ (cA aF.1 rfl aF.2)))
theorem Fw(G:Go X aL av σ aj g σ s)(h:Q (.lst l) σ)
  (fill:∀s₁,Go X aL av σ aj g σ s₁->(∀b o,s.heap.get? b=some o->s₁.heap.get? b=some o)->s₁.gens=s.gens->(∀o,s.heap.get? s.heap.objs.size=some o->False)->Dst X s.heap.objs.size [] g σ s₁->
   wpAny (model P0 X.w) A.in1.in1 (Builtin.List.listExtendWith (.ref s.heap.objs.size) x .none) (λfin s'=>match fin with
   |.done f=>(Except.ok f:Result)=.ok (.ret .none)/\∃g',Go X aL av σ aj g' σ s'/\Dst X s.heap.objs.size l g' σ s'
   |.again c'=>c'.quiet=true/\codeAny (model P0 X.w) A.in1 c' (λr s'=>r=.ok (.ret .none)/\∃g',Go X aL av σ aj g' σ s'/\Dst X s.heap.objs.size l g' σ s') s') aC s₁):
  wpAny (model P0 X.w) A (call (.type "list") [x]) (Post X aL av σ aj Q) aC s:=by
 refine callType_codes (Q₁:=λobj s₁=>obj=.ref s.heap.objs.size/\s₁={s with heap:=s.heap.push {cls:=.type "list",data:=.seq #[]}}) F.called_list (F.typeCall_list_1 _) F.entry_list_init
  (code_list_new _ ⟨rfl,rfl⟩) λobj s₁ aF=>?_
 obtain⟨rfl,rfl⟩:=aF;have hS:(s.heap.push {cls:=.type "list",data:=.seq #[]}).get? s.heap.objs.size=some {cls:=.type "list",data:=.seq #[]}:=cB _ rfl;refine(cA (aE _ hS rfl) (F.args_list_init_2 _ _) ?_);have CI:∀o,s.heap.get? s.heap.objs.size=some o->False:=λo e=>de _ (cC e);have QI:∀o,aj.heap.get? s.heap.objs.size=some o->False:=λo e=>du (G.dom e id) λo' e'=>CI o' e';show wpAny _ _ (do let old ←Builtin.List.listItems (.ref s.heap.objs.size);Builtin.List.listUpdate (.ref s.heap.objs.size) (λy=>#[]);letGo old.toList.reverse;Builtin.List.listExtendWith (.ref s.heap.objs.size) x .none) _ _ _;refine ag ?_;unfold Builtin.List.listItems;refine ag (jY hS rfl (aO ?_));refine ag (qB hS rfl ?_);have y8:=lK (Obj.mapSeq (λy=>(#[]:Array Value))) hS rfl
 have oth:∀b o,s.heap.get? b=some o->((s.heap.push {cls:=.type "list",data:=.seq #[]}).update s.heap.objs.size (Obj.mapSeq (λy=>(#[]:Array Value)))).get? b=some o:=
  λb o e=>(Heap.get?_update_other _ _ (λq:s.heap.objs.size=b=>CI o (q▸e))).trans (bJ _ e)
 refine ag (xX ?_);have ai:Go X aL av σ aj g σ {s with heap:=(s.heap.push {cls:=.type "list",data:=.seq #[]}).update s.heap.objs.size (Obj.mapSeq (λy=>(#[]:Array Value)))}:=G.trans (Go.keeps G.sat oth)
 have fin_:∀{s':Shared},(∃g',Go X aL av σ aj g' σ s'/\Dst X s.heap.objs.size l g' σ s')->Post X aL av σ aj Q (.ref s.heap.objs.size) s':=λ{s'} jM=>BW jM λg' h1 hf ys ⟨o,ho,hc,n,jn⟩ r=>by
  have Gf:=(h1.comp (Go.freeze h1.sat hf ho) ⟨λb o e q=>QI o (by exact aaE (aq (show b=s.heap.objs.size from q))<|e),λy y h=>h⟩);refine Post.to Gf (aE (.lst l) ?_ h);exact(cy _ ys rfl (cy o n (by unfold View.add;exact aaE (aA rfl) rfl) hc jn) (r.le (View.le_add o hf.1)))
 refine aB (fill _ ai oth rfl CI (dP (dG G.sat (bC _)) ([]) (kY _ y8 rfl _ rfl) .nil)) (λfin s' hh=>?_) λy y x=>x.elim
 cases fin with
 |done f=>obtain⟨h1,h2⟩:=hh;cases h1;exact⟨rfl,fin_ h2⟩
 |again c'=>exact⟨hh.1,gU hh.2 λr aU jj=>bY jj λh1 h2=>by clear jj;exact aaE h1<|⟨rfl,fin_ h2⟩⟩
theorem Nm(c9:∀h:Heap,X.B.In h->h.NoLimit)(hA:Room A (k+5))(G:Go X aL av σ aj g σ s)(hgen:kl X k σ a gi own l g σ s)(ho:own.Le aj aL)(hz:l.length<=65536)(h:Q (.lst l) σ):
  wpAny (model P0 X.w) A (call (.type "list") [.ref a]) (Post X aL av σ aj Q) aC s:=
 Fw G h λs₁ ai kp hg hn hd=>by
  have I:Itr X (k+2) none (.ref a) (λσ ab=>ab=σ) (kl X k σ a gi):=vA c9;have Gk:Go X aL g σ s g σ s₁:=⟨ai.sat,.refl g,λy y y y=>rfl,λy y y y=>kb,by(exact aaE ai.run.os<|aaE G.run.os rfl),λa o e y=>⟨o,kp a o e⟩,λa o e y y y=>.inl (kp a o e),λp y o vs e cZ=>⟨#[],by refine aaE (kp _ _ e) ?_;congr 1;obtain⟨c,d,dt,sl⟩:=o;clear e;refine aaE (aq cZ) ?_;simp⟩,by exact aaE hg<|bC _,λi x e y=>by exact aaE hg<|e,λi x e=>by rw[hg]at e;exact .inl e⟩;have tw:=I.keep hgen Gk Pv.Apart.noP rfl;have eu:¬own.a s.heap.objs.size:=λq=>let ⟨o,e⟩:=(I.ex hgen).1 _ q;hn o e;have mi:∀o,aj.heap.get? s.heap.objs.size=some o->False:=λo e=>du (G.dom e id) λo' e'=>hn o' e';exact GP c9 (Room.in1 (k:=k+4) hA |>.mono (gV _)) ai mi hd tw ho eu hz
end
set_option backward.match.sparseCases false
section
variable {X:Cx} {A:Around} {E:Value->Shared->Prop} {env:Env} {m:Mp} {σ:St} {Q:AV->St->Prop} {k:Nat}
def rq(X:Cx)(A:Around)(E:VP)(k:Nat)(env:Env)(m:Mp)(e:Expr)(σ:St)(l:List AV):Prop:=
 ∀g s,Sat X g σ s->Frm X env m g σ s->wpAny (model P0 X.w) A (eval e env) (λv s₁=>∃a gi aJ own,v=.ref a/\Go X aL g σ s aJ σ s₁/\own.Le s aL/\kl X k σ a gi own l aJ σ s₁) E s
theorem QO{tgt:Option Expr}{e:Expr}{l:List AV}{Q:(St->St->Prop)->List AV->St->Prop}(c9:∀h:Heap,X.B.In h->h.NoLimit)(h:rq X A E k env m e σ l)(hq:Q (λσ ab=>ab=σ) l σ):lz X A E (k+2) env m tgt e σ Q:=λg s S F=>
 aB (h g s S F) (λv s₁ aR=>lT aR λa gi aJ own hv G ho hg=>by
  clear aR;refine aaE hv ?_
  exact A1 hg.2.1 ⟨aJ,σ,_,_,own,l,G,ho,vA c9,hg,hq⟩) i2
theorem o6(r:Rep g f fv)
  (h:wpAny (model P0 X.w) A (spliced (backTo pos (starEach args env))) (λvs s₁=>(∃aJ ay,Sat X aJ ay s₁/\cQ X ay f)/\wpAny (model P0 X.w) A (call fv (fvs++vs) []) R E s₁) E s)
  (hst:(starEach args env).all (λx=> !x.1)=true):wpAny (model P0 X.w) A (callWith pos fv fvs (backTo pos (starEach args env)) []) R E s:=by
 have bP:(backTo pos (starEach args env)).any (·.1)=false:=by
  (refine aaE sv<|aaE xo ?_);simp only[hst];rfl
 refine xQ (args:=backTo pos (starEach args env)) r bP ?_;have fin:=h
 cases hl:backTo pos (starEach args env)with
 |nil=>
  rw[hl]at fin;unfold evalArgs;refine ag (aB fin (λvs s₁ aF=>ag (aO ?_)) i2);exact eL<|ag (aO (ag (aO (aO aF))))
 |cons x rest=>
  obtain⟨b,t⟩:=x;rw[hl]at fin bP
  have:b=false:=by
   clear fin hl;cases b
   ·rfl
   ·simp at bP
  clear bP hl;subst this;exact uv fin
abbrev Ys(X:Cx)(R:AV->List AV->St->List AV->Prop)(σ:St)(l:List AV)(F:AV)(as:List AV)(aS:St):Prop:=aS=σ/\cQ X σ F/\R F as σ l
abbrev LQ(X:Cx)(J:St->(List AV->St->Prop)->Prop)(R:AV->List AV->St->List AV->Prop)(σ:St)(l:List AV)(F:AV)(ay:St):Prop:=J ay (Ys X R σ l F)
theorem BM(hA:Room A (k+2))(h:Ev X A E env m fe σ (LQ X (iR X A E env m args pos) (sX X k) σ l))
  (he:eval (.Call fe args [] pos) env=(do callWith pos (←eval fe env) [] (backTo pos (starEach args env)) (backToKw pos (keywordEach [] env))):=by rfl)
  (hst:(starEach args env).all (λx=> !x.1)=true):rq X A E k env m (.Call fe args [] pos) σ l:=λg s S F=>
 Call_ (aB (h g s S F) (λfv s₁ zz=>zz.rec λaJ f ay ai aX aF=>o6 (fvs:=[]) aX (aB (aF aJ s₁ ai.sat (F.go ai)) (λvs s₂ zz=>zz.rec λbj as aS aN dJ ba=>ei ba λe hk hc=>by
  clear h S F aF zz ba;clear zz;subst e;refine⟨(ey bj aS aN.sat hk),sC (gU (hc A bj s₂ fv vs hA aN.sat (aX.le aN.le) dJ) λr a8 bh=>lT bh λa gi eG own hr bL ho hg=>?_)⟩;clear bh;refine aaE hr ?_;have G:=ai.trans aN
  exact(lU a gi eG own rfl (G.trans bL) ⟨λb o e q=>du (G.dom e id) λo' e'=>ho.1 b o' e' q,λi hi q=>ho.2 i (bT hi G.run.gsize) q⟩ hg)) i2) hst) i2) he
theorem F5(hf:Ev X A E env m fe σ λF ay=>F=.typ T/\ay=σ)(he:rq X A E k env m e σ l)
  (hc:∀{a gi own av g aj s},Go X aL av σ aj g σ s->kl X k σ a gi own l g σ s->own.Le aj aL->wpAny (model P0 X.w) A (call (.type T) [.ref a]) (Post X aL av σ aj Q) aC s)
  (heq:eval (.Call fe [e] [] pos) env=(do callWith pos (←eval fe env) [] (backTo pos (starEach [e] env)) (backToKw pos (keywordEach [] env))):=by rfl)
  (hs:starEach [e] env=(false,eval e env)::starEach [] env:=by rfl):Ev X A E env m (.Call fe [e] [] pos) σ Q:=λg s S F=>
 Call_ (aB (hf g s S F) (λfv s₁ zz=>zz.rec λaJ f ay ai aX bN=>bY bN λe1 e2=>by
  subst e1 e2;refine o6 (fvs:=[]) aX (sL (aB (he aJ s₁ ai.sat (F.go ai)) (λv s₂ cI=>lT cI λa gi bj own hv aN ho hg=>?_) i2) hs) (by refine aaE hs ?_;rfl);subst hv;refine args_nil ⟨⟨bj,_,aN.sat,trivial⟩,?_⟩;have eH:fv=.type T:=by exact aX
  clear aX zz;refine aaE eH ?_;have dj:own.Le s aL:=⟨λb o e q=>du (ai.dom e id) λo' e'=>ho.1 b o' e' q,λi hi q=>ho.2 i (bT hi ai.run.gsize) q⟩
  exact aB (hc (ai.trans aN) hg dj) i2 λy y x=>x.elim) i2) heq
theorem NC(c9:∀h:Heap,X.B.In h->h.NoLimit)(hA:Room A (k+6))(hf:Ev X A E env m fe σ λF ay=>F=.typ "tuple"/\ay=σ)(he:rq X A E k env m e σ l)(hz:l.length<=65536)(h:Q (.tup l) σ)
  (heq:eval (.Call fe [e] [] pos) env=(do callWith pos (←eval fe env) [] (backTo pos (starEach [e] env)) (backToKw pos (keywordEach [] env))):=by rfl)
  (hs:starEach [e] env=(false,eval e env)::starEach [] env):Ev X A E env m (.Call fe [e] [] pos) σ Q:=
 F5 hf he (λG hg ho=>MZ c9 hA G hg ho hz h) heq hs
theorem N5(c9:∀h:Heap,X.B.In h->h.NoLimit)(hA:Room A (k+5))(hf:Ev X A E env m fe σ λF ay=>F=.typ "list"/\ay=σ)(he:rq X A E k env m e σ l)(hz:l.length<=65536)(h:Q (.lst l) σ)
  (heq:eval (.Call fe [e] [] pos) env=(do callWith pos (←eval fe env) [] (backTo pos (starEach [e] env)) (backToKw pos (keywordEach [] env))):=by rfl)
  (hs:starEach [e] env=(false,eval e env)::starEach [] env):Ev X A E env m (.Call fe [e] [] pos) σ Q:=
 F5 hf he (λG hg ho=>Nm c9 hA G hg ho hz h) heq hs
end
theorem Ow{X:Cx}{A:Around}{b:List UInt8}{t:Tok}{s':Shared}{Q:Bool->Shared->Prop}(hz:b.length<=65536)(h:∀r tk,Q r {s' with toks:=tk}):wpAny (model P0 X.w) A (Builtin.List.listLengthHint (.bytes b.toArray t)) Q aC s':=by
 refine ag (se (jy s' _ t) FB.slot_bytes_len.lookup ?_);generalize hid:("bytes.__len__":String)=id0
 wp_delta
 refine aaE (show splitId id0=some ("bytes","__len__")from by subst hid;decide+kernel) ?_;subst hid;refine ag (lO (T:="bytes") (b:=true) (jy s' _ t) (by refine aaE (xH ..) ?_;kernel_rfl) ?_);refine wpAny_ite_split (λdK=>absurd dK (by decide)) (λx=>?_);refine wpAny_ite_split (λx=>?_) (λdK=>absurd (by decide+kernel) dK);refine ag (m:=typeOf _) (aO ?_);exact aO (h _ s'.toks)
section
variable {X:Cx} {A:Around} {E:Value->Shared->Prop} {σ:St} {Q:AV->St->Prop} {k:Nat}
theorem MR{b:List UInt8}(hA:Room A 2)(hz:b.length<=65536)(h:Q (.lst (bl b)) σ):fy X A aC (.typ "list") [.bytes b] σ Q:=λg s fv vs S r rl=>by
 obtain rfl:=r;obtain⟨v,us,rfl,r,rl⟩:=rl;refine aaE rl ?_;obtain⟨t,rfl⟩:=r;refine Fw (.refl S) h λs₁ ai kp hg hn hd=>?_;refine aB (Fj (k:=0) (Pb:=cH s.heap.objs.size) (T:="bytes") (l:=bl b) (Room.in1 (k:=1) hA) rfl ai.any hd (jy s₁ _ t) rfl (by decide) (by decide) (by simpa [bl]using hz) (λ{Q} hq=>?_) (λ{s' Q} hT hq=>Ow hz hq)) (λfin s' hh=>?_) i2
 ·have Gp:Go X aL g σ s₁ g σ {s₁ with heap:=s₁.heap.push {cls:=.type "bytes_iterator",data:=.fields #[.bytes b.toArray t,.int 0 0]}}:=Go.keeps ai.sat λb o e=>bJ _ e
  refine A0 (hq s₁.heap.objs.size _ _ (cH s₁.heap.objs.size) _ Gp (jy _ _ t) ⟨λc o e q=>?_,λx x h=>h.elim⟩ (λq=>?_) ((Gu (b:=b) (t:=t)).itr 0 none) (pn rfl (dG ai.sat (bC _)) 0 (dh _ (cB _ rfl) rfl rfl) rfl))
  ·obtain⟨o',e'⟩:=ai.dom e id
   rw[show c=s₁.heap.objs.size from q]at e';exact absurd (cC e') (de _)
  ·obtain⟨o,e⟩:=hd.at
   have:=cC e;rw[show s.heap.objs.size=s₁.heap.objs.size from q]at this;exact de _ this
 ·have drop:∀{g':View} {s':Shared},Go X (cH s.heap.objs.size) g σ s g' σ s'->Go X aL g σ s g' σ s':=λG=>G.weaken ⟨λb o e h=>hn o (by exact aaE (aq (show b=s.heap.objs.size from h))<|e),λx x h=>h⟩
  cases fin with
  |done f=>obtain⟨h1,g',h2,h3⟩:=hh;exact(dP h1 g' (drop h2) h3)
  |again c'=>exact⟨hh.1,gU hh.2 λr aU c5=>fJ c5 λh1 g' h2 h3=>(dP h1 g' (drop h2) h3)⟩
end
noncomputable def bD(i:Nat):Stmt:=(P0.main.body[i]?).getD (.Pass default)
noncomputable def fz(t:Stmt):List Stmt:=if h:t.ctorIdx=0 then Stmt.FunctionDef.elim (motive_2:=λx=>List Stmt) t h λx x b x x x x x x x=>b else []
noncomputable def qW(t:Stmt):Scope:=if h:t.ctorIdx=0 then Stmt.FunctionDef.elim (motive_2:=λx=>Scope) t h λx x x x x x s x x x=>s else default
noncomputable def vB(t:Stmt):Arguments:=if h:t.ctorIdx=0 then Stmt.FunctionDef.elim (motive_2:=λx=>Arguments) t h λx p x x x x x x x x=>p else default
noncomputable def Cv(t:Stmt):Str:=if h:t.ctorIdx=0 then Stmt.FunctionDef.elim (motive_2:=λx=>Str) t h λn x x x x x x x x x=>n else default
noncomputable def Vm(t:Stmt):List Stmt:=if h:t.ctorIdx=2 then Stmt.ClassDef.elim (motive_2:=λx=>List Stmt) t h λx x x b x x x x x x x=>b else []
noncomputable def ip(st:Stmt)(qual:Str)(code pm dflt:Value):FuncData:={name:=Cv st,qualname:=qual,params:=vB st,body:=.stmts (fz st),scope:=qW st,globals:=mainGlobals,closure:=[],defaults:=dflt,kwdefaults:=.none,pyModule:=pm,code:=code,builtins:=builtinsNs}
def Fn(X:Cx)(a i:Nat)(qual:Str)(dflt:Value):Prop:=∃code pm,FnAt X a (ip (bD i) qual code pm dflt) (fz (bD i))
noncomputable def blank:List UInt8:=[197,210,70,1,134,247,35,60,146,126,125,178,220,199,3,192,229,0,182,83,202,130,39,59,123,250,216,4,93,133,164,112]
structure Base(X:Cx):Prop where
 lim:∀h:Heap,X.B.In h->h.NoLimit
 bi:∀h:Heap,X.B.In h->∃m bm o,h.Ns mainGlobals m/\m "__builtins__"=some (.ref bm)/\bm≠builtinsNs/\h.get? bm=some o/\o.cls=.type "module"/\o.dict=some builtinsNs/\o.data=.plain
 tbu:∀p∈X.tabs,∀q∈X.tabs,p.2=q.2->p.1=q.1
 g_isinstance:bV X "isinstance" (.blt "isinstance")
 g_len:bV X "len" (.blt "len")
 g_bytes:bV X "bytes" (.typ "bytes")
 g_list:bV X "list" (.typ "list")
 g_tuple:bV X "tuple" (.typ "tuple")
 g_int:bV X "int" (.typ "int")
 g_range:bV X "range" (.typ "range")
 g_sum:bV X "sum" (.blt "sum")
 g_enumerate:bV X "enumerate" (.typ "enumerate")
 g_reversed:bV X "reversed" (.typ "reversed")
 f_part:Fn X 153 22 "partition_all" .none
 g_part:bV X "partition_all" (.ref 153)
 f_dfb:Fn X 160 24 "decode_from_bin" .none
 g_dfb:bV X "decode_from_bin" (.ref 160)
 f_dfb_:∃pm,FnAt X 167 (ip (bD 25) "_decode_from_bin" (.ref 166) pm .none) (fz (bD 25))
 g_dfb_:bV X "_decode_from_bin" (.ref 167)
 t_dfb_:(166,162)∈X.tabs
 g_TWO:bV X "TWO_BITS" (.lst [.bytes [0,0],.bytes [0,1],.bytes [1,0],.bytes [1,1]])
 g_TWOr:bV X "TWO_BITS" (.ref 60)
 o_TWO:∃o t0 t1 t2 t3,X.B 60=some o/\o.cls=.type "list"/\o.dict=none/\∃n,o.data=.seq #[.bytes #[0,0] t0,.bytes #[0,1] t1,.bytes #[1,0] t2,.bytes #[1,1] t3] n
 g_P00:bV X "PREFIX_00" (.bytes [0,0])
 g_P10:bV X "PREFIX_100000" (.bytes [1,0,0,0,0,0])
 f_efk:Fn X 186 28 "encode_from_bin_keypath" .none
 g_efk:bV X "encode_from_bin_keypath" (.ref 186)
 f_dtk:Fn X 193 29 "decode_to_bin_keypath" .none
 g_dtk:bV X "decode_to_bin_keypath" (.ref 193)
 g_BLANK:bV X "BLANK_HASH" (.bytes blank)
 g_KV:bV X "KV_TYPE" (.int 0)
 g_BR:bV X "BRANCH_TYPE" (.int 1)
 g_LEAF:bV X "LEAF_TYPE" (.int 2)
 g_TYPES:bV X "BINARY_TRIE_NODE_TYPES" (.tup [.int 0,.int 1,.int 2])
 g_KVP:bV X "KV_TYPE_PREFIX" (.bytes [0])
 g_BRP:bV X "BRANCH_TYPE_PREFIX" (.bytes [1])
 g_LEAFP:bV X "LEAF_TYPE_PREFIX" (.bytes [2])
 g_B1:bV X "BYTE_1" (.bytes [1])
 g_B0:bV X "BYTE_0" (.bytes [0])
 f_vbn:Fn X 214 33 "validate_is_bin_node" .none
 g_vbn:bV X "validate_is_bin_node" (.ref 214)
 f_gcp:Fn X 221 35 "get_common_prefix_length" .none
 g_gcp:bV X "get_common_prefix_length" (.ref 221)
 f_parse:Fn X 228 36 "parse_node" .none
 g_parse:bV X "parse_node" (.ref 228)
 f_ekv:Fn X 235 37 "encode_kv_node" .none
 g_ekv:bV X "encode_kv_node" (.ref 235)
 f_ebr:Fn X 242 38 "encode_branch_node" .none
 g_ebr:bV X "encode_branch_node" (.ref 242)
 f_elf:Fn X 249 39 "encode_leaf_node" .none
 g_elf:bV X "encode_leaf_node" (.ref 249)
 f_gtn:Fn X 256 41 "get_trie_nodes" .none
 g_gtn:bV X "get_trie_nodes" (.ref 256)
 f_gtn_:Fn X 263 42 "_get_trie_nodes" .none
 g_gtn_:bV X "_get_trie_nodes" (.ref 263)
 g_EXP:bV X "EXP" (.tup [.int 128,.int 64,.int 32,.int 16,.int 8,.int 4,.int 2,.int 1])
 f_vib:Fn X 200 31 "validate_is_bytes" .none
 g_vib:bV X "validate_is_bytes" (.ref 200)
 f_vl:Fn X 207 32 "validate_length" .none
 g_vl:bV X "validate_length" (.ref 207)
 f_etb:Fn X 172 26 "encode_to_bin" .none
 g_etb:bV X "encode_to_bin" (.ref 172)
 f_etb_:Fn X 179 27 "_encode_to_bin" .none
 g_etb_:bV X "_encode_to_bin" (.ref 179)
section
variable {X:Cx} {A:Around} {σ:St} {Q:AV->St->Prop}
theorem MF(h:Q (.bool true) σ):fy X A aC (.blt "isinstance") [.bytes b,.typ "bytes"] σ Q:=λg s fv vs S r rl=>by
 refine aaE r ?_;obtain⟨v,us,rfl,r,rl⟩:=rl;obtain⟨u,ws,rfl,r',rl⟩:=rl;obtain rfl:=rl;obtain⟨t,rfl⟩:=r;refine aaE r' ?_;exact call_isinstance_yes (jy s _ t) rfl (by refine aaE (xH ..) ?_;kernel_rfl) (Post.here S .bool h)
end
section
variable {X:Cx} {σ:St} (hX:Base X)
include hX
theorem kc(h:Q .none σ):CallOk X 1 (.ref 200) [.bytes b] σ Q:=by
 refine bk hX.f_vib λcode pm F=>?_;refine dQ F ["value"] (c7 ["value"] λvs hv=>?_) rfl λA L hA=>?_
 ·obtain⟨v,rfl⟩:=E0.mp hv
  rfl
 refine aw (bp (lY (gp (aV (eg hX.g_isinstance (ak (af (.bytes b) (ak (eg hX.g_bytes (aD ⟨trivial,MF (sh ?_)⟩))))))))));exact bw (bw h)
end
section
variable {X:Cx} {k:Nat} {σ:St} {M:Mach X k σ} {N:Addr} {env:Env} {m:Mp} {l:List AV} {Q:AFl->Mp->List AV->Prop}
theorem ExT.mono(h:ExT M N env t m l Q)(hq:∀F m l,Q F m l->Q' F m l):ExT M N env t m l Q':=λc fs jo J hc hJ A K H gd lv aM av aj own g s hA fD Y hK=>
 h c fs jo J hc hJ A K H gd lv aM av aj own g s hA fD Y λA' f F m' l' eZ fk fg bU g' s' cp Y' rf q=>hK A' f F m' l' eZ fk fg bU g' s' cp Y' rf (hq _ _ _ q)
theorem As.mono{A:Around}{E:VP}{P:Pv}{target:Expr}{V:AV}{Q Q':Mp->St->Prop}(h:As X A E P env m target V σ Q)(hq:∀m σ,Q m σ->Q' m σ):As X A E P env m target V σ Q':=λg s v S F r=>
 aB (h g s v S F r) (λx s' zz=>zz.rec λg' m' ab G F' q=>⟨g',m',ab,G,F',hq _ _ q⟩) i2
theorem yd{target:Expr}{body:List Stmt}(I:Mp->Prop)(f:AV->List AV):∀(L:List AV) (m:Mp) (l:List AV),
  (∀V∈L,∀m l,I m->∀A',Room A' k->As X A' aC (bg N env) env m target V σ λm₁ ay=>ay=σ/\nx M N env m₁ body (f V++l) λF m₂ Lp=>F=.next/\Lp=l/\I m₂)->
  I m->(∀m',I m'->Q .next m' l)->zr M N env target body Q L m (L.flatMap f++l)
 |[],m,l,_,hI,hQ=>hQ m hI
 |V::L,m,l,hb,hI,hQ=>λA' hA=>(hb V (cV) m (L.flatMap f++l) hI A' hA).mono λm₁ ay aR=>bY aR λe h=>⟨e,by
   (refine aaE nQ<|aaE (qw ..) ?_)
   refine ExT.mono h λF m₂ Lp ba=>ei ba λe1 e2 VM=>?_;clear ba;subst e1 e2
   exact yd I f L m₂ l (λV hV=>hb V (cj _ hV)) VM hQ⟩
end
noncomputable def WB:List Int:=[128,64,32,16,8,4,2,1]
noncomputable def vp(c:UInt8):List Bool:=WB.map λe=>Builtin.bitAnd (c.toNat:Int) e !=0
noncomputable def bits(b:List UInt8):List Bool:=b.flatMap vp
noncomputable def yO:AV->List AV
 |.int c=>WB.map λe=>.bool (Builtin.bitAnd c e !=0)
 |_=>[]
theorem N6(b:List UInt8):(bl b).flatMap yO=(bits b).map .bool:=by
 unfold bits bl
 induction b with
 |nil=>rfl
 |cons c b ih=>(refine aaE eB<|aaE nQ<|aaE nQ<|aaE qC<|aaE (aq ih) ?_);rfl
section
variable {X:Cx} {σ:St} (hX:Base X)
include hX
theorem QP:sX X 1 (.ref 179) [.bytes b] σ ((bits b).map .bool):=by
 refine bk hX.f_etb_ λcode pm F=>?_;refine vo (hclo:=by rfl) (hco:=by rfl) (hgen:=by rfl) (hk:=by rfl) F ["value"] (c7 ["value"] λvs hv=>?_) rfl λL=>?_
 ·obtain⟨v,rfl⟩:=E0.mp hv
  rfl
 (refine aaE (aq (N6 ..))<|aaE (aq (jX (List.flatMap yO (bl b)))) ?_)
 refine eQ (B0 (λA' hA=>g7 (af (.bytes b) (Gq ⟨rfl,yd (λx=>True) yO (bl b) _ [] (λV hV m l x A' hA=>?_) trivial λm' x=>gq ⟨rfl,.inl rfl⟩⟩))));refine ax (cb.mp hV) λc hc c5=>?_;clear hV;subst c5;refine aQ ⟨rfl,?_⟩;refine eQ (B0 (λA' hA=>g7 (eg hX.g_EXP (BZ ⟨rfl,?_⟩))));have Y0:yO (.int (c.toNat:Int))=(WB.map AV.int).flatMap λV=>match V with|.int e=>[.bool (Builtin.bitAnd (c.toNat:Int) e !=0)]|_=>[]:=rfl
 refine aaE Y0<|yd (λm=>m "char"=some (.int (c.toNat:Int))) _ (WB.map AV.int) _ l (λV hV m l hm A' hA=>?_) rfl λm' x=>gq ⟨rfl,rfl,trivial⟩;refine ax (cb.mp hV) λe he dY=>?_;clear hV;subst dY;refine aQ ⟨rfl,?_⟩;refine eQ (mV λA' hA=>gp (bK (aP (V:=.int (c.toNat:Int)) (by exact hm) (af (.int e) (Ot (Fi ⟨rfl,?_⟩))))));refine wG (λh=>?_) λh=>?_
 ·show nx _ _ _ _ _ (AV.bool (Builtin.bitAnd (c.toNat:Int) e !=0)::l) _
  exact aaE h<|eQ (qO λA' hA=>Hj ⟨rfl,rfl,gq (gq ⟨rfl,rfl,hm⟩)⟩)
 ·show nx _ _ _ _ _ (AV.bool (Builtin.bitAnd (c.toNat:Int) e !=0)::l) _
  exact aaE h<|eQ (qO λA' hA=>Hj ⟨rfl,rfl,gq (gq ⟨rfl,rfl,hm⟩)⟩)
noncomputable def lj(x:Bool):UInt8:=if x then 1 else 0
noncomputable def bu(b:List UInt8):List UInt8:=(bits b).map lj
omit hX in
theorem M0(h:Q (.int (if x then 1 else 0)) σ):fy X A aC (.typ "int") [.bool x] σ Q:=λg s fv vs S r rl=>by
 refine aaE r ?_;obtain⟨v,us,rfl,r,rl⟩:=rl;obtain rfl:=rl;exact aaE r<|call_int_bool (Post.tok S .int h)
end
theorem Bu:∀{ns:List Int} {vs:List Value},RepL g (ns.map AV.int) vs->IntsAre vs ns
 |[],vs,r=>by exact aaE r<|.nil
 |n::ns,vs,r=>by
  rw[eB]at r;obtain⟨v,us,rfl,r,rl⟩:=r;obtain⟨t,rfl⟩:=r;exact .cons n t (Bu rl)
section
variable {X:Cx} {A:Around} {σ:St} {P:Pv} {env:Env} {Dep:St->St->Prop} {K:Mp->St->List AV->Prop}
theorem lg:
  compTurn (.ListComp elt [⟨target,iter,ifs,0⟩] scope pos) 0 it (.ref D) env=pA (.ListComp elt [⟨target,iter,ifs,0⟩] scope pos) 0 target iter ifs it (.ref D) env (T1 D env elt):=by rfl
theorem ja{target elt:Expr}{ifs:List Expr}(I:Mp->Prop)(p:AV->Bool)(f:AV->AV)(hD:Dep σ σ):∀(L:List AV) (m:Mp) (out:List AV),
  (∀V∈L,∀m,I m->As X A aC P env m target V σ λm₁ ay=>ay=σ/\wI X A env m₁ ifs σ λb aS=>aS=σ/\b=p V/\I m₁/\(p V=true->Ev X A aC env m₁ elt σ λW dZ=>dZ=σ/\W=f V))->
  out.length+L.length<=65536->I m->(∀m',I m'->K m' σ (out++(L.filter p).map f))->la X A Dep P env target ifs (J1 X A env elt) K L m σ out
 |[],m,out,_,_,hI,hK=>by show K m σ out;have:=hK m hI;simpa using this
 |V::L,m,out,hb,hz,hI,hK=>by
  refine(hb V cV m hI).mono λm₁ ay bh=>bY bh λe h=>?_;have e:=e.symm;clear bh;refine aaE (aq e) ?_
  have tm:∀{ifs:List Expr} {Q Q':Bool->St->Prop},wI X A env m₁ ifs σ Q->(∀b s,Q b s->Q' b s)->wI X A env m₁ ifs σ Q':=λ{ifs Q Q'} h hq=>by
   match ifs,h with
   |[],h=>exact hq _ _ h
   |[c],h=>exact EvB.mono h hq
  refine tm h λb aS bN=>s9 bN λe eb IK hv=>?_;have e:=e.symm;clear bN;subst e;have el:∀V'∈L,_:=λV' Ed=>hb V' (cj _ Ed)
  cases hp:p V with
  |true=>
   (refine aaE eb<|aaE hp ?_)
   refine(hv hp).mono λW dZ cI=>bY cI λe1 e2=>?_;have e1:=e1.symm;clear cI;refine aaE (aq e1) ?_;refine aaE e2<|⟨by simp at hz;exact ae (bB _ _) hz,hD,ja I p f hD L m₁ _ el (by simp at hz ⊢;exact Dm hz) IK λm' rD=>?_⟩;have:=hK m' rD;rw[List.filter_cons,aA hp,eB]at this;exact aaE (qw ..)<|this
  |false=>
   (refine aaE eb<|aaE hp ?_)
   refine⟨hD,ja I p f hD L m₁ out el (by simp at hz ⊢;exact ae (dS hz) (lb rfl)) IK λm' rD=>?_⟩;have:=hK m' rD
   rwa [List.filter_cons,ar (by refine aaE hp ?_;decide)]at this
theorem xy{A:Around}{ns:List Int}{Q:AP}(hh:A.handled=none)(hr:∀n∈ns,0<=n/\n<256)(hz:ns.length<=65536)(h:Q (.bytes (ns.map λn=>n.toNat.toUInt8)) σ):fy X A aC (.typ "bytes") [.lst (ns.map .int)] σ Q:=λg s fv vs S r rl=>by
 obtain rfl:=r;obtain⟨v,us,rfl,r,rl⟩:=rl;refine aaE rl ?_;obtain⟨a,vs,rfl,hq,rv⟩:=r;refine call_bytes_ints (gY hq S.in_) (Bu rv) hr (by(refine aaE rv.length<|aaE df ?_);simp;exact kA hz) hh λh' t k hk=>?_;exact Post.to (Go.keeps S hk) (aE (.bytes (ns.map λn=>n.toNat.toUInt8)) .bytes h)
end
section
variable {X:Cx} {σ:St} (hX:Base X)
include hX
omit hX in
theorem uV(b:List UInt8):(bits b).length=8*b.length:=by
 unfold bits
 induction b with
 |nil=>rfl
 |cons c b ih=>(refine aaE nQ<|aaE cw<|aaE ih<|aaE cW ?_);simp[vp,WB];exact eD 8 (8*_)
theorem s7{b:List UInt8}{Q:AP}(hz:b.length<=4096)(h:Q (.bytes (bu b)) σ):CallOk X 8 (.ref 172) [.bytes b] σ Q:=by
 refine bk hX.f_etb λcode pm F=>?_;refine dQ F ["value"] (c7 ["value"] λvs hv=>?_) rfl λA L hA=>?_
 ·obtain⟨v,rfl⟩:=E0.mp hv
  rfl
 have hl:((bits b).map AV.bool).length<=65536:=by(refine aaE (dF ..)<|aaE (uV ..) ?_);exact ae (ia 8 hz) (lb rfl)
 refine aw (cD (aV (eg hX.g_bytes (ak (mH (k:=3) (λD env=>T1 D env _) (λC env=>J1 X A env _) hA.mo (λC D it=>lg) (λD C fY hD=>kj hD) rfl rfl (by decide) (by decide)
  (QO hX.lim (BM (hst:=by rfl) hA.mo (eg hX.g_etb_ (ak (af (.bytes b) (aD (cA rfl ?_ (QP hX))))))) λC=>
   ja (λy=>True) (λy=>true) (λV=>match V with|.bool x=>.int (if x then 1 else 0)|V=>V) (by exact rfl) ((bits b).map AV.bool) _ [] (λV hV m y=>?_) (by simpa using hl) trivial λm' y=>?_))))))
 ·refine bk hX.f_etb_ λy y F'=>?_;exact F'.keep
 ·refine ax (cb.mp hV) λx hx jN=>?_;subst jN
  refine aQ (l7 rfl rfl rfl trivial (λy=>?_));exact aV (eg hX.g_int (ak (af (.bool x) (aD ⟨trivial,M0 ⟨rfl,rfl⟩⟩))))
 ·have e:((bits b).map AV.bool).filter (λy=>true)=(bits b).map AV.bool:=by simp
  first|refine q2 (by(exact aaE e<|aaE (gT ..)<|aaE fS rfl)) ?_|rw[e,gT,fS]
  have e2:(List.map ((λV=>match V with|AV.bool x=>AV.int (if x then 1 else 0)|V=>V) ∘ AV.bool) (bits b))=((bits b).map λx=>if x then (1:Int)else 0).map AV.int:=by refine aaE fS ?_;rfl
  have e3:(((bits b).map λx=>if x then (1:Int)else 0).map λn=>n.toNat.toUInt8)=bu b:=by
   refine aaE fS ?_;apply r9;intro x y;cases x<;>rfl
  rw[←e3]at h
  first|refine q2 (by exact aaE e2 rfl) ?_|rw[e2]
  refine aD ⟨trivial,xy hA.handled (λn hn=>?_) (by simpa using hl) h⟩;refine ax (cb.mp hn) λx y jj=>?_;clear hn;subst jj;cases x<;>decide
end
section
variable {X:Cx} {k:Nat} {σ:St}
theorem P6(I:Itr X k none (.ref it) Dep It)(hS:Pb.a S):
  ∀(ns:List Int) A own g s (tot:Int) tA c,Room A (k+1)->Go X Pb av fL aj g σ s->own.Le aj Pb->¬own.a S->It own (ns.map .int) g σ s->Free X g σ S->s.heap.get? S=some {cls:=.type "list",dict:=none,data:=.seq #[.int tot tA] c,slots:=#[]}->
   (∀n∈ns,0<=n/\n<=1000000)->0<=tot->tot+1000000*ns.length<=1000000000000->
   codeAny (model P0 X.w) A (.builtin "sum.loop" ⟨[.ref it,.ref S,rawInt 0,rawInt 0],[]⟩) (λr s'=>∃t',r=.ok (.ret (.int (tot+ns.sum) t'))/\∃g',Go X Pb av fL aj g' σ s') s:=by
 intro ns
 induction ns with
 |nil=>
  intro A own g s tot tA c hA G ho eu hit hf ub hr h0 hz;refine qA F.entry_sum_loop<|aaE (oM A2 _) ?_;refine ag (jY ub rfl ?_);show wpAny _ A.in1 (tryCatch (pyNext (.ref it)) _>>= _) _ _ s;refine ag (wpAny_tryCatch (aB (I.stop hA.in1 G.sat hit) (λr s₁ aR=>rg aR λhr g' G'=>?_) λy y x=>x.elim));clear aR;subst hr;exact aO ⟨tA,by simp,g',G.comp G' ho⟩
 |cons n ns ih=>
  intro A own g s tot tA c hA G ho eu hit hf ub hr h0 hz;refine qA F.entry_sum_loop<|aaE (oM A2 _) ?_;refine ag (jY ub rfl ?_);refine ag (wpAny_tryCatch (aB (I.next hA.in1 G.sat hit) (λr s₁ ba=>ax ba λv Ee aF=>?_) λy y x=>x.elim));subst Ee;obtain⟨n0,n1⟩:=hr n cV;have VN:∀n∈ns,0<=n/\n<=1000000:=λn hn=>hr n (cj _ hn);have hlen:(1000000:Int)*(ns.length+1:Nat)=1000000*ns.length+1000000:=by push_cast;exact(Int.mul_add 1000000 (_:Int) 1).trans rfl
  rw[cW,hlen]at hz
  have hc:((decide (-(2 ^ 63)<=n)&&decide (n<2 ^ 63))&&(decide (-(2 ^ 63)<=tot+n)&&decide (tot+n<2 ^ 63)))=true:=by
   simp only[mF,oN];exact Wp n0 n1 h0 Ub hz
  show wpAny _ A.in1 (ya none (.ref it) v>>= λy=>_) _ _ s₁;refine ag (aB aF (λy s₂ bh=>bh.rec λbj bU eU G' rv iu=>?_) λy y x=>x.elim);clear aF ba bh;obtain⟨t,rfl⟩:=rv
  have y8:s₂.heap.get? S=some {cls:=.type "list",dict:=none,data:=.seq #[.int tot tA] c,slots:=#[]}:=by
   rcases G'.run.keep S _ ub hf.2.1 hf.2.2 eu with q|⟨q,_⟩
   ·exact q
   ·obtain⟨_,_,q⟩:=q;cases q
  have q8:Free X bj σ S:=hf.go G' ub eu;refine bm_if_true hc ?_
  ·refine ag (wpAny_mkInt ?_)
   refine ag ?_;have dj:=eU.back' G.run ho;have pK:¬bU.a S:=λq=>eu (eU.1 S _ ub q);have Gt:Go X aL bj σ s₂ bj σ {s₂ with toks:=s₂.toks+1}:=Go.keeps G'.sat λy y e=>e;have aN:Go X (cH S) bj σ {s₂ with toks:=s₂.toks+1} bj σ {s₂ with toks:=s₂.toks+1,heap:=s₂.heap.update S (Obj.mapSeq λy=>#[.int (tot+n) s₂.toks])}:=Go.sameBut Gt.sat (i6 ..) q8 rfl;have aZ:bU.Apart (cH S):=⟨λb h1 h2=>pK (by exact aaE (aq (show b=S from h2))<|h1),λy y h=>h.elim⟩;have ua:(cH S).Le aj Pb:=⟨λb o e h=>by exact aaE (show b=S from h)<|hS,λy y h=>h.elim⟩;refine qB y8 rfl (aO ⟨lQ A2 _,gU (ih A bU bj _ (tot+n) s₂.toks _ hA (((G.comp G' ho).trans Gt.any).comp aN ua) dj pK (I.keep (I.keep iu Gt Pv.Apart.noP (I.dep σ)) aN aZ (I.dep σ)) q8 (lK _ y8 rfl) VN (UK h0 n0) (fR (oX ((Bh _ _ _).trans (bF (_+·) (Int.add_comm _ _)))) (fR (AJ (AJ n1 _) _) hz))) λr s' bN=>ax bN λt' h1 h2=>⟨t',by(exact aaE h1<|aaE List.sum_cons<|aaE (Bh ..) rfl),h2⟩⟩)
theorem wJ{α:Type}{M:Model}{A:Around}{t u:Sem α}{Q:α->Shared->Prop}{E:VP}{s:Shared}(h:t=u)(k:wpAny M A u Q E s):wpAny M A t Q E s:=h▸k
theorem ND{a:Addr}{gi:Nat}{own:Pv}{ns:List Int}{av g:View}{aj s:Shared}{A:Around}{Q:AP}(c9:∀h:Heap,X.B.In h->h.NoLimit)(hA:Room A (k+4))(G:Go X aL av σ aj g σ s)(hgen:kl X k σ a gi own (ns.map .int) g σ s)(ho:own.Le aj aL)
  (hr:∀n∈ns,0<=n/\n<=1000000)(hz:ns.length<=65536)(h:Q (.int ns.sum) σ):wpAny (model P0 X.w) A (call (.builtin "sum") [.ref a]) (Post X aL av σ aj Q) aC s:=by
 refine call_function_tree F.kind_sum F.plain_sum F.entry_sum (F.args_sum1 _) ?_;unfold Builtin.«sum»;refine wJ (ar (aI rfl:¬(1:Nat)>2))<|ag (dn (show Builtin.Builtins.bindParams "sum" ["start"] 0 {}=pure [none]from rfl) ?_);refine ag (A1 hgen.2.1 ?_);refine ag (wpAny_mkInt ?_);refine ag (aO ?_);refine ag (wJ (qz ..) (ag (ag (lO (T:="int") (b:=false) (sE _ _ _) PySem.sub_int_str ?_))));refine nX rfl<|aO (wJ (qz ..) (ag (ag (lO (T:="int") (b:=false) (sE _ _ _) PySem.sub_int_bytes ?_))));refine nX rfl<|aO (wJ (qz ..) (ag (ag (lO (T:="int") (b:=false) (sE _ _ _) PySem.sub_int_bytearray ?_))));refine nX rfl<|aO (wJ (List.forIn_nil ..) (aO ?_));refine ag (iz ?_);have I:Itr X (k+2) none (.ref a) (λσ ab=>ab=σ) (kl X k σ a gi):=vA c9;have kp:∀b o,s.heap.get? b=some o->(s.heap.push {cls:=.type "list",data:=.seq #[.int 0 s.toks]}).get? b=some o:=λb o e=>bJ _ e;have Gk:Go X aL g σ s g σ {s with heap:=s.heap.push {cls:=.type "list",data:=.seq #[.int 0 s.toks]},toks:=s.toks+1}:=Go.keeps G.sat kp;have hS:∀o,s.heap.get? s.heap.objs.size=some o->False:=λo e=>de _ (cC e);have mi:∀o,aj.heap.get? s.heap.objs.size=some o->False:=λo e=>let ⟨o',e'⟩:=G.dom e id;hS o' e';have eu:¬own.a s.heap.objs.size:=λq=>let ⟨o,e⟩:=(I.ex hgen).1 _ q;hS o e;have iY:=oY.mpr (ia 1000000 hz);refine aO ⟨lQ A2 _,gU (P6 (k:=k+2) (Pb:=cH s.heap.objs.size) I rfl ns A own g _ 0 s.toks 0 hA.mo (G.trans Gk).any ⟨λb o e q=>(ho.1 b o e q).elim,λi hi q=>(ho.2 i hi q).elim⟩ eu (I.keep hgen Gk Pv.Apart.noP rfl) (dG G.sat (bC _)) (cB _ rfl) hr (Int.le_refl _) (fR (oX (oW _)) (fR iY (aI rfl)))) λr s' cI=>Vg cI λt' h1 g' h2=>?_⟩;clear cI;refine aaE h1 ?_;exact Post.to (h2.weaken ⟨λb o e q=>mi o (by exact aaE (aq (show b=s.heap.objs.size from q))<|e),λx x q=>q⟩) ⟨.int ns.sum,by exact aaE (oW ..)<|.int,h⟩
end
open AutoSeq1 (wpAny_loadPart')
section
variable {prog:Program} {w:World} {A:Around} {E:Value->Shared->Prop} {s:Shared}
theorem MS{it l:Addr}{i:Nat}{items:Array Value}{x:Value}{Q:VP}(hit:s.heap.IsRevIter it l (i:Int))(hl:s.heap.IsList l items)(hx:items[i]?=some x)
  (hQ:∀h',h'.IsRevIter it l ((i:Int) - 1)->Heap.SameBut it s.heap h'->Q x {s with heap:=h'}):wpAny (model prog w) A (Builtin.SmallTypes.nextOf (.ref it)) Q E s:=by
 refine az λkk=>?_;refine dp (id hit) λo ho hc hd=>?_;refine yI hl λol nI y nl qc=>?_;refine kk ?_;unfold Builtin.SmallTypes.nextOf
 refine ag (mE (name:=Str.ofString "__next__") hit.typeIs A7
  (i7 A7 hit.typeIs F.entry_lri_next ?_ (F.args_lri_next_1 _)))
 unfold Builtin.«list_reverseiterator.__next__»;refine ag (dn (a:=(Value.ref it,[])) rfl ?_)
 try dsimp only
 refine ag (d9 ho hd (x:=rawInt (i:Int)) rfl ?_);show wpAny _ _ (if (i:Int)<0 then _ else _) _ _ s;refine aaE (ar (I6))<|ag (m:=field (.ref it) 0) (d9 ho hd (x:=.ref l) rfl ?_);refine ag (m:=seqItems? (.ref l)) (jY nI qc ?_);simp only[kM,hx];refine ag (xG ho hd (by simp) ?_)
 have z:Heap.IsRevIter (s.heap.update it (Obj.mapFields (·.setIfInBounds 1 (rawInt ((i:Int) - 1))))) it l ((i:Int) - 1):=
  (dh _ (lK _ ho (AA (ux hd _))) ((Obj.cls_mapFields ..).trans hc) (by refine aaE (ux hd ..) ?_;simp))
 first
 |exact aO (aE x rfl (aO (hQ _ z (i6 ..))))
 |exact ag (aO (aO ⟨x,rfl,aO (hQ _ z (i6 ..))⟩))
theorem M3(hh:A.handled=none)(hit:s.heap.IsRevIter it l (-1))
  (hE:∀h' e,Heap.ExtBut it s.heap h'->(∃o,h'.get? e=some o/\o.cls=.type "StopIteration")->E (.ref e) {s with heap:=h'}):wpAny (model prog w) A (Builtin.SmallTypes.nextOf (.ref it)) Q E s:=by
 refine az λkk=>?_;refine dp (id hit) λo ho hc hd=>?_;refine kk ?_;unfold Builtin.SmallTypes.nextOf
 refine ag (mE (name:=Str.ofString "__next__") hit.typeIs A7
  (i7 A7 hit.typeIs F.entry_lri_next ?_ (F.args_lri_next_1 _)))
 unfold Builtin.«list_reverseiterator.__next__»;refine ag (dn (a:=(Value.ref it,[])) rfl ?_)
 try dsimp only
 refine ag (d9 ho hd (x:=rawInt (-1)) rfl ?_);show wpAny _ _ (if (-1:Int)<0 then _ else _) _ _ s;refine aaE (aA (by decide))<|ag (gX ?_)
 first
 |show wpAny _ _ (newExc (.type "StopIteration") []>>= _) _ _ _
 |(refine ag ?_;show wpAny _ _ (newExc (.type "StopIteration") []>>= _) _ _ _)
 refine ag ?_;simp only[newExc,newTuple];refine ag (iz ?_ (by size_fits));refine ag (m:=firstArgMember _ _) (dn (a:=Value.none) (by first|rfl|(simp only[firstArgMember];rfl)) ?_);refine iz ?_ (by size_fits);simp only[raiseNew];refine ag (xK ?_)
 first|refine aaE (show A.in1.handled=none from hh) ?_|rw[hh]
 refine ag (aO (xV ?_));exact hE _ _ (((Heap.ExtBut.refl _ _).push _).push _) ⟨_,cB _ rfl,rfl⟩
end
theorem Gx{prog:Program}{w:World}{A:Around}(hh:A.handled=none)(it l:Addr)(bR:l≠it)(items:Array Value):
  Draws prog w A it [it,l] items.size (λi v=>items[items.size - 1 - i]?=some v) (λi h=>i<=items.size/\h.IsRevIter it l ((items.size:Int) - 1 - (i:Int))/\h.IsList l items) where
 live:=λy y st=>ax (st.2.1) λo ho y=>⟨o,ho⟩
 frame:=λy y y x hk=>⟨x.1,x.2.1.at λo e=>hk it (by simp) o e,x.2.2.at λo e=>hk l (by simp) o e⟩
 item:=λi s Q E hi x hQ=>by
  have e:(items.size:Int) - 1 - (i:Int)=((items.size - 1 - i:Nat):Int):=(bF (· - (i:Int)) (Int.ofNat_sub (Nat.succ_le_of_lt (dw (mI i) hi)):((items.size - 1:Nat):Int)=items.size - 1).symm).trans (Int.ofNat_sub (Nat.le_pred_of_lt hi)).symm;have hit:=x.2.1;rw[e]at hit;have hx:items[items.size - 1 - i]?=some (items[items.size - 1 - i]'(by omega)):=Array.getElem?_eq_getElem (by omega);refine MS hit x.2.2 hx λh' iu dM=>?_;have e2:((items.size - 1 - i:Nat):Int) - 1=(items.size:Int) - 1 - ((i+1:Nat):Int):=by omega
  rw[e2]at iu;exact hQ _ h' s.toks hx ⟨hi,iu,x.2.2.at λo eo=>(dM.2 l bR).trans eo⟩ dM
 done:=λs Q E x hE=>by
  have e:(items.size:Int) - 1 - (items.size:Int)=-1:=by omega
  have hit:=x.2.1;rw[e]at hit;exact M3 hh hit hE
theorem O9{M:Model}{A:Around}{f:List (Code×Pos)->Bool}{Q:Bool->Shared->Prop}{E:VP}{s:Shared}(h:∀b,Q b s):wpAny M A stack (λa s'=>wpAny M A (pure (f a)) Q E s') E s:=
 wpAny_stack_any λx=>aO (h _)
theorem MG(it l:Addr)(i:Int):
  Meets (Builtin.«enumerate.__new__» ⟨[.type "enumerate",.ref it],[]⟩) (λx R s=>s.heap.get? it=some (revObj l i)/\
   R (.ok (.ret (.ref s.heap.objs.size))) {s with heap:=s.heap.push {cls:=.type "enumerate",data:=.fields #[.none,.bool false,.ref it,rawInt 0,.none,.none]}}):=
 .of_wp λprog w A R s h=>by
  obtain⟨hp,g,d,tk,os⟩:=s;obtain⟨hl,h⟩:=h;have mv:=sub_enumerate;have hL:Heap.IsRevIter (Shared.heap ⟨hp,g,d,tk,os⟩) it l i:=(dh _ hl rfl rfl)
  wp_walk using wpAny_loadPart' hl
  refine O9 λb=>?_;cases b
  ·wp_walk using wpAny_loadPart' hl,wpAny_pyIter_revIter hL
   exact(aE _ rfl h)
  ·wp_walk using wpAny_loadPart' hl,wpAny_pyIter_revIter hL
   exact(aE _ rfl h)
noncomputable def kd(i:Nat):List AV->List AV
 |[]=>[]
 |V::r=>.tup [.int (i:Int),V]::kd (i+1) r
noncomputable def zR(a b:Addr):Pv:=⟨λx=>x=a∨x=b,λy=>False⟩
inductive EnumIt(X:Cx)(e it a:Addr)(vs:List Value)(L:List AV)(own:Pv)(l:List AV)(g:View)(σ:St)(s:Shared):Prop
 |mk (ho:own=zR e it) (lB:e≠it) (mz:a≠it) (kC:Free X g σ e) (lC:Free X g σ it) (hq:SeqAt g "list" a vs) (rl:RepL g L vs) (i:Nat) (old:Value) (he:IsEnum s.heap e it i old) (hi:i<=L.length) (hit:s.heap.IsRevIter it a ((L.length:Int) - 1 - (i:Int))) (hl:l=kd i (L.reverse.drop i))
theorem Go.extP(S:Sat X g σ s)(hb:∀a,P.a a->Free X g σ a)(k:∀b o,¬P.a b->s.heap.get? b=some o->h'.get? b=some o):Go X P g σ s g σ {s with heap:=h',toks:=tk}:=by
 have ne:∀a o,g a=some o->¬P.a a:=λa o e q=>by rw[(hb a q).1]at e;exact be e
 have nt:∀a t,σ a=some t->¬P.a a:=λa t e q=>by rw[(hb a q).2.1]at e;exact be e
 have np:∀p∈X.tabs,¬P.a p.2:=λp hp q=>(hb _ q).2.2 p hp rfl
 have tkp:∀{a t},TrkAt X.w g s.heap a t->¬P.a a->TrkAt X.w g h' a t:=λ{a t} x dK=>by
  cases t with
  |dict l=>refine ax x λkvs d r=>?_;exact(aE kvs (d.at λo e=>k a o dK e) r)
  |ns l=>refine ax x λm d r=>?_;exact(aE m (d.at λo e=>k a o dK e) r)
  |obj o=>exact k a o dK x
 refine⟨⟨S.le,λa o e=>k a o (ne a o e) (S.in_ a o e),λa t e=>⟨(S.trk a t e).1,tkp (S.trk a t e).2 (nt a t e)⟩,λp hp=>?_⟩,.refl g,λy y y y=>rfl,λy y y y=>kb,rfl,λa o e hp=>⟨o,k a o hp e⟩,λa o e y y hp=>.inl (k a o hp e),λp hp o vs e hd=>⟨#[],?_⟩,bC _,λi x e y=>e,λi x e=>.inl e⟩
 ·refine az λkk=>?_
  refine iE (S.tab p hp) λe1 e2 e3 ps e4=>?_;refine kk<|(mT e1 e2 e3 ps (qT e4 (λo=>k _ o ?_) (λo=>k _ o (np p hp))))
  cases q:g p.1 with
  |none=>exact absurd q e3
  |some o=>exact ne _ o q
 ·refine aaE (k _ _ (np p hp) e) ?_;congr 1;obtain⟨c,d,dt,sl⟩:=o;clear e;refine aaE (aq hd) ?_;simp
theorem P7{x1}:Itr X 2 (some (.Tuple ts x1 pos)) (.ref e) (λy y=>True) (EnumIt X e it a vs L):=by
 refine⟨λ{A own V l g σ s} hA S zz=>zz.rec λho lB mz kC lC hq rl i old he hi hit hl=>?_,λ{A own g σ s} hA S zz=>zz.rec λho lB mz kC lC hq rl i old he hi hit hl=>?_,λy=>trivial,
  λ{own l g σ s} zz=>zz.rec λho lB mz kC lC hq rl i old he hi hit hl=>?_,λ{A own l g σ s Q} hA S zz q=>zz.rec λho lB mz kC lC hq rl i old he hi hit hl=>AS he q,
  λ{own l P g σ s g' ab s'} zz G aZ y=>zz.rec λho lB mz kC lC hq rl i old he hi hit hl=>?_⟩
 ·have hlen:=rl.length
  cases hd:L.reverse.drop i with
  |nil=>rw[hd]at hl;cases hl
  |cons W rest=>
   rw[hd]at hl;obtain⟨e1,e2⟩:=qN hd;cases hl;have cG:i<L.length:=by have:=(ES.mp e1).1;simpa using this
   have Y1:e≠a:=λq=>by refine iF hq λo n ea y=>?_;rw[←q,kC.1]at ea;exact be ea
   have hL:=gY hq S.in_;have hsz:vs.toArray.size=L.length:=by simp[hlen]
   have D:=Gx (prog:=P0) (w:=X.w) (A:=A.in1) hA.handled it a mz vs.toArray;have hW:L[L.length - 1 - i]?=some W:=by rw[List.getElem?_reverse cG]at e1;exact e1
   refine ax (rl.get hW) λv hv rv=>?_;refine wpAny_pyNext_enum_itemD D he (cA (by exact aaE hsz<|hi) (by exact aaE hsz<|hit) hL) (by exact aaE hsz<|cG) lB (by simp[lB,Y1]) λx h' tk L9 Xg hst hT aam hk=>(aE _ rfl ?_);refine wpAny_letOwnedTupleGo_enum (elts:=ts) (x1:=x1) (pos:=pos) Xg λw0 DI lx=>?_
   have hx:x=v:=by
    rw[hsz]at L9;have:vs[L.length - 1 - i]?=some x:=by simpa using L9
    rw[hv]at this;obtain rfl:=bq this;rfl
   subst hx;have uc:s.heap.objs.size≠e:=λq=>by have:=cC he;rw[←q]at this;exact de _ this
   have Xh:it≠e:=λq=>lB q.symm;have ai:Go X (zR e it) g σ s g σ {s with heap:=w0,toks:=tk+1}:=Go.extP S (λb q=>by rcases q with rfl|rfl;exact kC;exact lC) λb o hb eb=>(lx.2 b (λq=>hb (.inl q))).trans (hk b o (λq=>hb (.inl q)) (λq=>hb (.inr q)) eb);have DJ:=(lx.2 _ uc).trans hT;have w3:=dG S (bC _);have aN:=Go.freeze ai.sat w3 DJ;have w4:∀o,s.heap.get? s.heap.objs.size=some o->False:=λo q=>de _ (cC q);have hle:=View.le_add (g:=g) (a:=s.heap.objs.size) {cls:=.type "tuple",data:=.seq #[.int i tk,x]} w3.1;have pE:∀b,b≠s.heap.objs.size->Free X g σ b->Free X (g.add s.heap.objs.size {cls:=.type "tuple",data:=.seq #[.int i tk,x]}) σ b:=λb hb hf=>⟨by unfold View.add;exact aaE (ar hb)<|hf.1,hf.2⟩;have Y2:it≠s.heap.objs.size:=λq=>by refine ax hit λo dj y=>?_;exact w4 o (q▸dj)
   refine(.mk _ (zR e it) (ho▸Pv.Le.refl _ _) (by exact aaE ho<|ai.comp aN ⟨λb o eb q=>(w4 o (by exact aaE (aq (show b=s.heap.objs.size from q))<|eb)).elim,λy y q=>q⟩) ?_ (.mk rfl lB mz (pE e (λq=>uc q.symm) kC) (pE it Y2 lC) (hq.le hle) (rl.le hle) (i+1) x ?_ cG ?_ (by exact aaE e2 rfl)))
   ·refine(cy _ ([.int i tk,x]) rfl (cy _ _ (by unfold View.add;exact aaE (aA rfl) rfl) rfl rfl) (.cons .int (.cons (rv.le hle) .nil)))
   ·have:((i+1:Nat):Int)=(i:Int)+1:=by push_cast;rfl
    exact aaE this<|DI
   ·have z:=hst.2.1
    rw[hsz]at z;exact z.at λo q=>(lx.2 it Xh).trans q
 ·have hlen:=rl.length
  cases hd:L.reverse.drop i with
  |cons W rest=>rw[hd]at hl;cases hl
  |nil=>
   have gz:i=L.length:=by
    have:=List.drop_eq_nil_iff.mp hd;simp at this;exact UW hi this
   subst gz;have hL:=gY hq S.in_;have hsz:vs.toArray.size=L.length:=by simp[hlen]
   have D:=Gx (prog:=P0) (w:=X.w) (A:=A.in1) hA.handled it a mz vs.toArray;refine wpAny_pyNext_enum_endD D he (by exact aaE hsz<|(cA (bC _) hit hL)) λh' hx=>(q9 rfl g ?_);exact aaE ho<|(Go.extP (tk:=s.toks) S (λb q=>by clear zz ho lB mz he hit D hx;rcases q with rfl|rfl;exact kC;exact lC) λb o hb eb=>hx b o (λq=>hb (.inr q)) eb)
 ·subst ho
  refine ax hit λo z7 y=>?_;exact⟨λb q=>by clear lB mz kC lC hit zz;rcases q with rfl|rfl;exact⟨_,he⟩;exact⟨o,z7⟩,λy q=>q.elim⟩
 ·subst ho
  have ud:=aZ.1 e (.inl rfl);have Ma:=aZ.1 it (.inr rfl);refine dp (id hit) λo z7 hco Mb=>?_
  have ke:s'.heap.get? e=s.heap.get? e:=by
   rcases G.run.keep e _ he kC.2.1 kC.2.2 ud with q|⟨q,_⟩
   ·exact aaE q<|he.symm
   ·refine bk q λy y q=>?_;cases q
  have ki:s'.heap.get? it=some o:=by
   rcases G.run.keep it _ z7 lC.2.1 lC.2.2 Ma with q|⟨q,_⟩
   ·exact q
   ·refine bk q λy y q=>?_;rw[Mb]at q;cases q
  exact(.mk rfl lB mz (kC.go G he ud) (lC.go G z7 Ma) (hq.le G.le) (rl.le G.le) i old (ke.trans he) hi (dh o ki hco Mb) hl)
theorem MI(h1:s.heap.get? it=some (revObj l i))
  (h:Q (.ref s.heap.objs.size) {s with heap:=s.heap.push {cls:=.type "enumerate",data:=.fields #[.none,.bool false,.ref it,rawInt 0,.none,.none]}}):wpAny (model prog w) A (call (.type "enumerate") [.ref it]) Q E s:=by
 refine callType_new F.called_enumerate (aI rfl) (F.typeCall_enumerate_1 _) (F.newCall_enumerate_1 _) (λobj=>xp obj _) F.entry_enumerate_new (MG it l i) ⟨h1,?_⟩;exact⟨(aE _ (cB _ rfl) rfl),h⟩
theorem NF{X:Cx}{A:Around}{E:VP}{k:Nat}{env:Env}{m:Mp}{σ:St}{ts:List Expr}{x1}{tp:Pos}{pM iQ e:Expr}{fN g9:Pos}{L:List AV}{Q:(St->St->Prop)->List AV->St->Prop}
  (oj:Ev X A E env m pM σ λF ay=>F=.typ "enumerate"/\ay=σ)(q8:Ev X A E env m iQ σ λF ay=>F=.typ "reversed"/\ay=σ)(he:Ev X A E env m e σ λV ay=>V=.lst L/\ay=σ)(hq:Q (λx x=>True) (kd 0 L.reverse) σ)
  (h1:eval (.Call pM [.Call iQ [e] [] g9] [] fN) env=(do callWith fN (←eval pM env) [] (backTo fN (starEach [.Call iQ [e] [] g9] env)) (backToKw fN (keywordEach [] env))):=by rfl)
  (h2:eval (.Call iQ [e] [] g9) env=(do callWith g9 (←eval iQ env) [] (backTo g9 (starEach [e] env)) (backToKw g9 (keywordEach [] env))):=by rfl)
  (s1:starEach [.Call iQ [e] [] g9] env=(false,eval (.Call iQ [e] [] g9) env)::starEach [] env)(s2:starEach [e] env=(false,eval e env)::starEach [] env):
  lz X A E 2 env m (some (.Tuple ts x1 tp)) (.Call pM [.Call iQ [e] [] g9] [] fN) σ Q:=λg s S F=>
 Call_ (aB (oj g s S F) (λfv s₁ zz=>zz.rec λaJ f ay ai aX c5=>bY c5 λe1 e2=>by
  subst e1 e2;refine o6 (fvs:=[]) aX (sL ?_ s1) (by refine aaE s1 ?_;rfl);refine Call_ (aB (q8 aJ s₁ ai.sat (F.go ai)) (λCJ s₂ zz=>zz.rec λbj VO aS aN dJ dY=>bY dY λe1 e2=>?_) i2) h2;subst e1 e2;have l6:=ai.trans aN;refine o6 (fvs:=[]) dJ (sL (aB (he bj s₂ aN.sat (F.go l6)) (λv a8 zz=>zz.rec λeG V dZ bL ou iV=>bY iV λe1 e2=>?_) i2) s2) (by refine aaE s2 ?_;rfl);clear oj q8 he S F ai c5 aN dY zz iV;subst e1 e2;refine args_nil ⟨(ey eG _ bL.sat trivial),?_⟩;have CK:fv=.type "enumerate":=by exact aX
  have CL:CJ=.type "reversed":=by exact dJ
  clear aX dJ zz;subst CK CL;refine cP ou λa vs jl fp rl=>?_;refine aaE jl ?_;have G:=l6.trans bL;refine call_reversed_list (gY fp bL.sat.in_) (args_nil ⟨(ey eG _ (bL.sat.keeps (s':={a8 with heap:=a8.heap.push (revObj a ((vs.toArray.size:Int) - 1))}) (λb o e=>bJ _ e)) trivial),?_⟩);refine MI (cB _ rfl) ?_;have fX:IsEnum (((a8.heap.push (revObj a ((vs.toArray.size:Int) - 1))).push {cls:=.type "enumerate",data:=.fields #[.none,.bool false,.ref a8.heap.objs.size,rawInt 0,.none,.none]})) (a8.heap.push (revObj a ((vs.toArray.size:Int) - 1))).objs.size a8.heap.objs.size (0:Int) .none:=cB _ rfl;refine AS fX ?_;have Gk:Go X aL eG dZ a8 eG dZ {a8 with heap:=(a8.heap.push (revObj a ((vs.toArray.size:Int) - 1))).push {cls:=.type "enumerate",data:=.fields #[.none,.bool false,.ref a8.heap.objs.size,rawInt 0,.none,.none]}}:=Go.keeps bL.sat λb o e=>bJ _ (bJ _ e);have hsz:(a8.heap.push (revObj a ((vs.toArray.size:Int) - 1))).objs.size=a8.heap.objs.size+1:=iA ..;have hold:∀b o,s.heap.get? b=some o->b<a8.heap.objs.size:=λb o e=>du (G.dom e id) λo' e'=>cC e';refine iF (id fp) λoa na jS x=>?_;have Xi:=cC (bL.sat.in_ a oa jS);refine⟨eG,dZ,_,EnumIt X _ a8.heap.objs.size a vs L,zR _ a8.heap.objs.size,_,G.trans Gk,⟨λb o eb q=>?_,λx x q=>q⟩,P7,(.mk rfl ?_ (kP Xi) (dG bL.sat (by exact aaE hsz<|gV _)) (dG bL.sat (bC _)) fp rl 0 .none fX (mI _) ?_ rfl),hq⟩
  ·have:=hold b o eb
   rcases q with q|q
   ·rw[q,hsz]at this;exact de _ (Nat.lt_of_succ_lt this)
   ·rw[q]at this;exact de _ this
  ·exact aaE hsz<|Nat.succ_ne_self _
  ·refine(dh _ (bJ _ (cB _ rfl)) rfl ?_)
   have:((vs.toArray.size:Int) - 1)=(L.length:Int) - 1 - ((0:Nat):Int):=by(refine aaE f3<|aaE rl.length ?_);simp
   refine aaE (aq this) ?_;rfl) i2) h1
theorem Go.grow(S:Sat X g σ s)(ht:(c,Pa)∈X.tabs)(hu:∀p∈X.tabs,p.2=Pa->p.1=c)(h0:nv s.heap c Pa ps)
  (k:Heap.ExtBut Pa s.heap h')(h1:nv h' c Pa (ps++more)):Go X P g σ s g σ {s with heap:=h',toks:=tk}:=by
 refine s9 (S.tab _ ht) λt1 t2 t3 y=>?_;have ne:∀a o,g a=some o->a≠Pa:=λa o e q=>by rw[q,t1]at e;exact be e
 have nt:∀a t,σ a=some t->a≠Pa:=λa t e q=>by rw[q,t2]at e;exact be e
 have tkp:∀{a t},TrkAt X.w g s.heap a t->a≠Pa->TrkAt X.w g h' a t:=λ{a t} x dK=>by
  cases t with
  |dict l=>refine ax x λkvs d r=>?_;exact(aE kvs (d.at λo e=>k a o dK e) r)
  |ns l=>refine ax x λm d r=>?_;exact(aE m (d.at λo e=>k a o dK e) r)
  |obj o=>exact k a o dK x
 refine⟨⟨S.le,λa o e=>k a o (ne a o e) (S.in_ a o e),λa t e=>⟨(S.trk a t e).1,tkp (S.trk a t e).2 (nt a t e)⟩,λp hp=>?_⟩,.refl g,λy y y y=>rfl,λy y y y=>kb,rfl,λa o e hp=>?_,λa o e y Y5 hp=>.inl (k a o (λq=>Y5 _ ht q.symm) e),λp hp o vs e hd=>?_,bC _,λi x e y=>e,λi x e=>.inl e⟩
 ·refine iE (S.tab p hp) λe1 e2 e3 Y6 e4=>?_
  by_cases q:p.2=Pa
  ·have q1:=hu p hp q
   exact(mT e1 e2 e3 (ps++more) (by(refine aaE q<|aaE q1 ?_);exact h1))
  ·refine(mT e1 e2 e3 Y6 (qT e4 (λo=>k _ o ?_) (λo=>k _ o q)))
   cases z:g p.1 with
   |none=>exact absurd z e3
   |some o=>exact ne _ o z
 ·by_cases q:a=Pa
  ·clear ht hu h0 k t1 t2 t3 ne nt tkp;exact aaE q<|⟨_,h1.2.2⟩
  ·exact⟨o,k a o q e⟩
 ·by_cases q:p.2=Pa
  ·rw[q]at e ⊢
   rw[h0.2.2]at e;obtain rfl:=bq e;cases hd;exact⟨more,h1.2.2⟩
  ·exact⟨#[],by refine aaE (k _ _ q e) ?_;congr 1;obtain⟨c,d,dt,sl⟩:=o;clear e;refine aaE (aq hd) ?_;simp⟩
theorem Oy(S:Sat X g σ s)(hc:env.code=.ref c)(ht:(c,Pa)∈X.tabs)(hu:∀p∈X.tabs,p.2=Pa->p.1=c):
  wpAny (model P0 X.w) A (genexprCode env pos qual scope) (λx s'=>Go X aL g σ s g σ s') aC s:=by
 refine az λkk=>?_;refine iE (S.tab _ ht) λt1 t2 t3 ps h0=>?_;refine kk ?_
 cases hn:codeAmong pos ps.toList with
 |some cv=>exact wpAny_genexprCode_hit hc h0.1 hn (.refl S)
 |none=>exact wpAny_genexprCodeX hc h0.1 h0.2 hn λc' h' tk hk x x hi x Xj x=>Go.grow S ht hu h0 hk ⟨hi,Xj⟩
theorem QR(hw:(Code.compLoop e depth it acc env).weight=1)(hu:(Code.compLoop e depth it acc env).cUnits=3):GC k (.compLoop e depth it acc env) []:=by
 refine⟨rfl,rfl,λA=>rfl,λA=>?_,λA=>?_⟩
 ·show A.depth+frameCount []+(Code.compLoop e depth it acc env).weight<=A.depth+1
  refine aaE hw ?_;simp[frameCount]
 ·show A.units+unitsOf []+(Code.compLoop e depth it acc env).cUnits<=A.units+3
  refine aaE hu ?_;simp[unitsOf]
theorem P8(hw:(Code.compStart e depth it acc env).weight=1)(hu:(Code.compStart e depth it acc env).cUnits=3):GC k (.compStart e depth it acc env) []:=by
 refine⟨rfl,rfl,λA=>rfl,λA=>?_,λA=>?_⟩
 ·show A.depth+frameCount []+(Code.compStart e depth it acc env).weight<=A.depth+1
  refine aaE hw ?_;simp[frameCount]
 ·show A.units+unitsOf []+(Code.compStart e depth it acc env).cUnits<=A.units+3
  refine aaE hu ?_;simp[unitsOf]
theorem Gy:compTurn (.GeneratorExp elt [⟨target,iter,[],0⟩] scope pos) 0 it .none env=
  (standAt iter.pos>>= λy=>pyNext it>>= λr=>match r with
   |none=>pure (.done .next)
   |some v=>letOwnedTupleGo target it v>>= λy=>assign target env v>>= λy=>
    (eval elt env>>= λx=>standAt elt.pos>>= λy=>yieldOut env x>>= λy=>pure ())>>= λy=>again (.compLoop (.GeneratorExp elt [⟨target,iter,[],0⟩] scope pos) 0 it .none env)):=by rfl
theorem Pd(elt:Expr)(gens:List Comprehension)(scope:Scope)(pos:Pos)(it acc:Value)(env:Env):denote table (.compLoop (.GeneratorExp elt gens scope pos) 0 it acc env)=(compTurn (.GeneratorExp elt gens scope pos) 0 it acc env).onRaise (leaving env):=by rfl
theorem Ox(elt:Expr)(gens:List Comprehension)(scope:Scope)(pos:Pos)(it acc:Value)(env:Env):denote table (.compStart (.GeneratorExp elt gens scope pos) 0 it acc env)=(compStart (.GeneratorExp elt gens scope pos) 0 it acc env).onRaise (leaving env):=by rfl
section
variable {X:Cx} {k:Nat} {σ:St} {M:Mach X k σ} {N:Addr} {env:Env}
theorem Pc(I:Itr X k (some target) it Dep It)(J:Mp->Prop)(f:AV->AV)
  (gB:(Code.compLoop (.GeneratorExp elt [⟨target,iter,[],0⟩] scope pos) 0 it .none env).quiet=true)
  (hc:GC k (.compLoop (.GeneratorExp elt [⟨target,iter,[],0⟩] scope pos) 0 it .none env) [])(hco:env.scope.isCoroutine=false)
:∀(L:List AV),
  (∀V∈L,∀m,J m->∀A',Room A' k->As X A' aC (bg N env) env m target V σ λm₁ ay=>ay=σ/\J m₁/\Ev X A' aC env m₁ elt σ λW aS=>aS=σ/\W=f V)->∀A (m:Mp) aM av aj own g s oi,Room A (k+1)->J m->
   YS X σ N env ⟨λy=>False,λy=>False⟩ (λy y=>True) m aM av aj own g s->oi.Le aj aM->oi.Apart own->It oi L g σ s->
   M.Z A (L.map f) aM av aj (.compLoop (.GeneratorExp elt [⟨target,iter,[],0⟩] scope pos) 0 it .none env) (denote table (.compLoop (.GeneratorExp elt [⟨target,iter,[],0⟩] scope pos) 0 it .none env)) [] s:=by
 have hJ:j9 X σ ⟨λy=>False,λy=>False⟩ (λy y=>True):=λy y y=>trivial
 have rk:denote table (.compLoop (.GeneratorExp elt [⟨target,iter,[],0⟩] scope pos) 0 it .none env)=(compTurn (.GeneratorExp elt [⟨target,iter,[],0⟩] scope pos) 0 it .none env).onRaise (leaving env):=by
  exact Pd ..
 intro L
 induction L with
 |nil=>
  intro y A m aM av aj own g s oi hA z9 Y hle aZ hit
  (refine aaE rk<|aaE Gy<|aaE (qs ..) ?_)
  refine Mach.bind (d7 ?_);refine Mach.bind (aB (I.stop (hc.room hA) Y.go.sat hit) (λr s₁ aR=>rg aR λhr g' G=>?_) i2);subst hr;exact M.fin (Y.inner hJ G aZ hle).go (.inl rfl)
 |cons V L ih=>
  intro hV A m aM av aj own g s oi hA z9 Y hle aZ hit
  (refine aaE rk<|aaE Gy<|aaE (qs ..) ?_)
  refine Mach.bind (d7 ?_);refine Mach.bind (aB (I.next (hc.room hA) Y.go.sat hit) (λr s₁ ba=>ax ba λv hr aF=>?_) i2);clear ba;refine aaE hr ?_;refine Mach.bind (aB aF (λy s₂ bh=>bh.rec λbj eI eU G rv iu=>?_) i2);have ox:=Y.inner hJ G aZ hle;have jk:=F4 aZ eU Y.ex;have gx:=eU.back' Y.go.run hle;refine Mach.bind (aB (hV V cV m z9 _ (hc.room hA) bj s₂ v ox.go.sat ox.frm rv) (λy a8 zz=>zz.rec λeG lp dZ bL eN bN=>ei bN λwA VQ bW=>?_) i2);have wA:=wA.symm;clear bN;subst wA;have fP:=ox.step hJ bL eN;have tQ:eI.Apart (bg N env):=⟨λa h1 h2=>jk.1 a h1 (by rcases h2.2 with rfl|⟨x,hx⟩;exact Y.foL;exact Y.foC x a hx),λy y z=>z.elim⟩;have mZ:=I.keep iu bL tQ (I.dep _);have hy:∀v,yieldOut env v=yieldValue v:=λv=>by simp only[yieldOut,hco,nO,j7]
  simp only[hy];have z6:j9 X σ eI (λg s=>It eI L g σ s):=λ{P g g' s s'} G ha b=>I.keep b G ha (I.dep _)
  have Yb:YS X σ N env eI (λg s=>It eI L g σ s) lp aM av aj (own.sup eI) eG a8:=
   ⟨fP.go,⟨λa o e h=>by rcases h with h|h;exact fP.le.1 a o e h;exact gx.1 a o e h,λi hi h=>by rcases h with h|h;exact fP.le.2 i hi h;exact gx.2 i hi h⟩,
    ⟨λa h=>by rcases h with h|h;exact fP.ex.1 a h;exact(I.ex mZ).1 a h,λi h=>by rcases h with h|h;exact fP.ex.2 i h;exact(I.ex mZ).2 i h⟩,fP.frm,.inl fP.foL,λx c hc=>.inl (fP.foC x c hc),
    I.ex mZ,tQ,⟨λa h=>.inr h,λi h=>.inr h⟩,mZ⟩
  have rC:¬eI.a env.locals:=λz=>jk.1 _ z Y.foL;have Ea:∀x c,env.cells.lookup x=some c->¬eI.a c:=λx c hc z=>jk.1 c z (Y.foC x c hc)
  (refine aaE (ju ..)<|aaE (ju ..)<|aaE (jZ ..)<|aaE (jZ ..) ?_)
  refine M.wrap (aB (bW _ _ Yb.go.sat Yb.frm) (λaan zy zz=>zz.rec λow W pC fV Xk cI=>bY cI λDK Xl=>?_) i2);have DK:=DK.symm;clear cI;subst DK;subst Xl;have zD:=Yb.step z6 fV.any (Yb.frm.go fV);refine M.wrap (m:=standAt elt.pos) (H:=.raise) (gd:=id) (lv:=id) (d7 ?_);refine M.yld hc.split hc.guard (M.ok0 _ _) zD.go zD.le zD.ex Xk λP b8 aU dX Xm A' cp=>?_;have Lq:=zD.woken z6 dX Xm;exact M.again gB<|ih (λV Ed=>hV V (cj _ Ed)) A' lp _ b8 aU _ b8 aU eI cp VQ (Lq.minus rC Ea (λy z=>z.elim) (λy z=>z.elim) trivial) ⟨λa o e z=>.inr z,λi hi z=>.inr z⟩ ⟨λa z1 z2=>z2.2 z1,λi z1 z2=>z2.2 z1⟩ Lq.jh
theorem OA(I:Itr X k (some target) it Dep It)(J:Mp->Prop)(f:AV->AV)
  (gB:(Code.compLoop (.GeneratorExp elt [⟨target,iter,[],0⟩] scope pos) 0 it .none env).quiet=true)(hc:GC k (.compLoop (.GeneratorExp elt [⟨target,iter,[],0⟩] scope pos) 0 it .none env) [])
  (dA:GC k (.compStart (.GeneratorExp elt [⟨target,iter,[],0⟩] scope pos) 0 it .none env) [])(hco:env.scope.isCoroutine=false)(L:List AV)
  (hV:∀V∈L,∀m,J m->∀A',Room A' k->As X A' aC (bg N env) env m target V σ λm₁ ay=>ay=σ/\J m₁/\Ev X A' aC env m₁ elt σ λW aS=>aS=σ/\W=f V)(hA:Room A (k+1))(z9:J m)
  (Y:YS X σ N env ⟨λy=>False,λy=>False⟩ (λy y=>True) m aM av aj own g s)(hle:oi.Le aj aM)(aZ:oi.Apart own)(hit:It oi L g σ s):
  M.Z A (L.map f) aM av aj (.compStart (.GeneratorExp elt [⟨target,iter,[],0⟩] scope pos) 0 it .none env) (denote table (.compStart (.GeneratorExp elt [⟨target,iter,[],0⟩] scope pos) 0 it .none env)) [] s:=by
 have loop:=Pc (M:=M) (N:=N) (iter:=iter) (pos:=pos) I J f gB hc hco L hV A m aM av aj own g s oi hA z9 Y hle aZ hit;refine aaE (Ox ..) ?_;unfold compStart;refine aaE (qs ..)<|Mach.bind (t:=ask) (wpAny_askSetting ?_)
 split
 ·exact M.again gB loop
 ·have fin:∀{K:Fin->Sem Fin} {H:Value->Sem Fin} {gd:Bool->Bool} {lv:List Value->List Value},(∀c,K (.again c)=.pure (.again c))->M.Z A (L.map f) aM av aj (.compStart (.GeneratorExp elt [⟨target,iter,[],0⟩] scope pos) 0 it .none env) ((pyIter it>>= λx=>PySem.again (.compLoop (.GeneratorExp elt [⟨target,iter,[],0⟩] scope pos) 0 x .none env)).wrap K H gd lv) [] s:=λ{K H gd lv} hK=>by
   refine Mach.bind (aB (I.self (Q:=λr s'=>r=it/\s'=s) (dA.room hA) Y.go.sat hit ⟨rfl,rfl⟩) (λr s' c5=>bY c5 λe1 e2=>?_) i2);refine aaE e1 ?_;clear Y hit c5;subst e2;show M.Z A (L.map f) aM av aj _ (K (.again _)) [] s';exact aaE (hK ..)<|M.again gB loop
  refine Mach.bind (gX ?_);exact Mach.bind (d7 (fin λy=>rfl))
end
theorem P9{X:Cx}{g:View}{σ:St}{s:Shared}{scope:Scope}{C bi:Addr}{code:Value}{env:Env}{m:Str->Option Value}(hk:scope.kind=.function)(hf:Free X g σ C)(hn:s.heap.Ns C m):Frm X (genEnv scope [] C code bi env) Mp.nil g σ s:=
 ⟨hk,hf,(aE m hn (λx V h=>(by exact be h))),λx c h=>(by exact be h),λx V h=>(by exact be h),.nil,λx c h=>(by exact be h),λx c y y h=>(by exact be h)⟩
theorem Oz{X:Cx}(hX:Base X){A:Around}{E:VP}{env:Env}{m:Mp}{σ:St}{k:Nat}{elt target iter:Expr}{scope:Scope}{pos:Pos}{c Pa:Addr}(L:List AV)(J:Mp->Prop)(f:AV->AV)(hA:Room A k)
  (h:lz X A E k env m (some target) iter σ λDep l aS=>aS=σ/\l=L)(hJ:J Mp.nil)
  (hV:∀cenv N,cenv.scope=scope->cenv.globals=mainGlobals->cenv.builtins=builtinsNs->N<=cenv.locals->∀V∈L,∀m,J m->∀A',Room A' k->As X A' aC (bg N cenv) cenv m target V σ λm₁ ay=>ay=σ/\J m₁/\Ev X A' aC cenv m₁ elt σ λW aS=>aS=σ/\W=f V)
  (hc:env.code=.ref c)(ht:(c,Pa)∈X.tabs)(hg:env.globals=mainGlobals)
  (VR:closureFor scope env=pure [])(VS:∀y∈scope.names,y.2≠.cell)(h0:scope.names.lookup (".0":Str)=some NameKind.local)(hco:scope.isCoroutine=false)(hk:scope.kind=.function)(hs:∀x,genFold iter env x=pure x:=by intro u;rfl):
  rq X A E k env m (.GeneratorExp elt [⟨target,iter,[],0⟩] scope pos) σ (L.map f):=λg s S F=>by
 have CM:A.depth<recursionLimit:=by have:=hA.depth;exact dw (bB _ _) this
 refine wpAny_GeneratorExp_make hco VR VS h0 hk CM (aB (h g s S F) (λv s₁ aF=>aB aF (λit s₂ zz=>zz.rec λbj aS Dep It own l aN ho I hit dY=>bY dY λe1 e2=>⟨?_,?_⟩) i2) i2) hs
 ·exact hX.lim _ (aN.sat.in_.le aN.sat.le)
 subst e1;clear h aF zz dY;subst e2;refine aB (Oy aN.sat hc ht λp hp e=>hX.tbu p hp _ ht e) (λcode a8 bL=>?_) λu u x=>x.elim;refine az λkk=>?_;obtain⟨mm,bm,o,b1,b2,b3,b4,b5,b6,b7⟩:=hX.bi _ (bL.sat.in_.le bL.sat.le);refine kk<|aaE hg<|wpAny_builtinsFor b1 b2 b3 b4 b5 b6 b7 λh' eO dM=>?_;have hsz:h'.objs.size=a8.heap.objs.size+1:=by(exact aaE dM.1<|aaE (iA ..) rfl)
 have VT:∀b o,a8.heap.get? b=some o->h'.get? b=some o:=λb o e=>dM.extBut b o (kP (cC e)) (bJ _ e);generalize eW:({cls:=.type "generator",data:=.fields #[.int a8.gens.size 0,.str "<genexpr>" (a8.toks+1),.str (env.qual++"<genexpr>") (a8.toks+1+1)]}:Obj)=ob;have Xn:ob.isFreed=false:=by refine aaE (aq eW) ?_;rfl
 have kp:∀b o,a8.heap.get? b=some o->(h'.push ob).get? b=some o:=λb o e=>bJ _ (VT b o e);have fV:∀{P:Pv} {gs:GenState} {tk:Nat},gs.bare=true->Go X P bj aS a8 bj aS {a8 with gens:=a8.gens.push gs,toks:=tk,heap:=h'.push ob}:=λ{P gs tk} hb=>Go.keepsG bL.sat kp rfl rfl hb;have G:=aN.trans bL;have hold:∀b o,s.heap.get? b=some o->b<a8.heap.objs.size:=λb o e=>du (G.dom e id) λo' e'=>cC e';have zB:∀b,own.a b->b<a8.heap.objs.size:=λb hb=>let ⟨o,e⟩:=(I.ex hit).1 b hb;du (bL.dom e id) λo' e'=>cC e';have CN:∀i,own.n i->i<a8.gens.size:=λi hi=>bT ((I.ex hit).2 i hi) bL.run.gsize;have wU:Free X bj aS a8.heap.objs.size:=dG bL.sat (bC _);refine⟨h'.objs.size,a8.gens.size,bj,((cH a8.heap.objs.size).sup own).gen h'.objs.size a8.gens.size,rfl,G.trans (fV rfl),⟨λb o e q=>?_,λi hi q=>?_⟩,rfl,(gZ ob (.str "<genexpr>" (a8.toks+1)) (.str (env.qual++"<genexpr>") (a8.toks+1+1)) (cB _ Xn) (by exact aaE (aq eW) rfl) (by exact aaE (aq eW) rfl) (by exact aaE (aq eW) rfl)),dG bL.sat (by exact aaE hsz<|gV _),_,rfl,λq=>?_,λq=>?_,⟨λb q=>?_,λi q=>?_⟩,?_,?_⟩
 ·refine az λkk=>?_
  have:=hold b o e;rcases q with (q|q)|q
  ·refine kk ?_
   rw[show b=a8.heap.objs.size from q]at this;exact de _ this
  ·exact kk<|ho.1 b o e q
  ·refine kk ?_
   rw[q,hsz]at this;exact de _ (Nat.lt_of_succ_lt this)
 ·refine az λkk=>?_
  rcases q with (q|q)|q
  ·exact kk<|q
  ·exact kk<|ho.2 i hi q
  ·have:=G.run.gsize;rw[q]at hi;exact de _ (bT hi this)
 ·refine az λkk=>?_
  rcases q with q|q
  ·refine kk ?_
   rw[hsz]at q;exact Nat.succ_ne_self _ q
  ·have:=zB _ q;rw[hsz]at this;exact de _ (Nat.lt_of_succ_lt this)
 ·refine az λkk=>?_
  rcases q with q|q
  ·exact kk<|q
  ·exact kk<|de _ (CN _ q)
 ·refine az λkk=>?_
  rcases q with q|q
  ·refine kk<|aaE (show b=a8.heap.objs.size from q)<|az λkk=>?_
   refine mU eO λo u u dj u=>?_;exact kk<|⟨o,bJ _ dj⟩
  ·obtain⟨o,e⟩:=(I.ex hit).1 b q
   obtain⟨o',e'⟩:=bL.dom e id;exact kk<|⟨o',kp _ _ e'⟩
 ·refine az λkk=>?_
  rcases q with q|q
  ·exact kk<|q.elim
  ·refine kk ?_
   exact aaE (sg ..)<|xu (CN _ q)
 ·exact aaE (sg ..)<|lN _
 ·refine(lU (.fresh _) _ _ _ (Array.getElem?_push_size ..) rfl (.inl (cA rfl rfl rfl)) (λP b8 aU dX aZ t9 A' cp=>?_))
  have wX:=aZ.1 _ (.inl rfl);have Y7:own.Apart P:=⟨λa h1 h2=>aZ.1 a (.inr h1) h2,λi h1 h2=>aZ.2 i (.inr h1) h2⟩;have Fr:=P9 (X:=X) (s:={a8 with gens:=a8.gens.push (.fresh (.compStart (.GeneratorExp elt [⟨target,iter,[],0⟩] scope pos) 0 it .none (genEnv scope [] a8.heap.objs.size code builtinsNs env))),toks:=a8.toks+1+1+1,heap:=h'.push ob}) (bi:=builtinsNs) (code:=code) (env:=env) hk wU (eO.push _);have jK:=Fr.goP dX wX (λx c h=>by exact be h);have Gr:Go X ⟨λu=>False,λi=>i=a8.gens.size⟩ b8 aS aU b8 aS (aU.setGen a8.gens.size .running):=Go.setGen dX.sat rfl rfl;have SU:=I.keep (I.keep (I.keep (I.keep hit bL Pv.Apart.noP (I.dep _)) (fV rfl) Pv.Apart.noP (I.dep _)) dX Y7 (I.dep _)) Gr ⟨λu u z=>z,λi h1 h2=>de _ (by rw[show i=a8.gens.size from h2]at h1;exact CN _ h1)⟩ (I.dep _);have eN:Frm X (genEnv scope [] a8.heap.objs.size code builtinsNs env) Mp.nil b8 aS (aU.setGen a8.gens.size .running):=jK.heapEq rfl
  refine OA (M:=Cc X k aS) (N:=a8.heap.objs.size) (own:=cH a8.heap.objs.size) (env:=genEnv scope [] a8.heap.objs.size code builtinsNs env) (aM:=(cH a8.heap.objs.size).sup own) I J f rfl (QR rfl rfl) (P8 rfl rfl) hco l (hV _ _ rfl hg rfl (bC _)) cp hJ
   ⟨.refl Gr.sat,⟨λa o e q=>.inl q,λu u q=>q.elim⟩,⟨λa q=>?_,λu q=>q.elim⟩,eN,rfl,λx c h=>(by exact be h),⟨λu q=>q.elim,λu q=>q.elim⟩,⟨λu q=>q.elim,λu q=>q.elim⟩,⟨λu q=>q.elim,λu q=>q.elim⟩,trivial⟩ ⟨λa o e q=>.inr q,λi hi q=>.inr q⟩ ⟨λa h1 h2=>?_,λu u q=>q⟩ SU
  ·exact aaE (show a=a8.heap.objs.size from q)<|eN.atL
  ·have:=zB a h1;rw[show a=a8.heap.objs.size from h2]at this;exact de _ this
section
variable {X:Cx} {A:Around} {σ:St} {Q:AV->St->Prop}
theorem FI(hc:c≠0)(hp:Builtin.divisionGoesByPylong (b - a) c=false)(h:Q (.rng a b c) σ):fy X A aC (.typ "range") [.int a,.int b,.int c] σ Q:=λg s fv vs S r rl=>by
 obtain rfl:=r;obtain⟨v,us,rfl,r,rl⟩:=rl;obtain⟨u,ws,rfl,r',rl⟩:=rl;obtain⟨w,zs,rfl,w5,rl⟩:=rl;obtain rfl:=rl;obtain⟨t,rfl⟩:=r;obtain⟨t',rfl⟩:=r';obtain⟨ue,rfl⟩:=w5;refine call_range_3 hc ?_ (.inl hp);generalize eW:({cls:=.type "range",data:=.fields #[.int a t,.int b t',.int c ue]}:Obj)=ob;have kp:∀b o,s.heap.get? b=some o->(s.heap.push ob).get? b=some o:=λb o e=>bJ _ e;have ai:Go X aL g σ s g σ {s with heap:=s.heap.push ob}:=Go.keeps S kp;have hf:=dG (a:=s.heap.objs.size) S (bC _);have aN:=Go.freeze ai.sat hf (cB _ (by refine aaE (aq eW) ?_;rfl));refine Post.to (ai.comp aN ⟨λb o e q=>?_,λx x q=>q⟩) (aE (.rng a b c) ?_ h)
 ·rw[show b=s.heap.objs.size from q]at e;exact de _ (cC e)
 ·exact(sU _ t t' ue rfl (by unfold View.add;(exact aaE (aA rfl)<|aaE (aq eW) rfl)))
end
noncomputable def ik(b:List UInt8):List (List UInt8):=(List.range ((b.length+7) / 8)).map λj=>(b.drop (8*j)).take 8
theorem Bp(b:List UInt8):Builtin.Range.rangeSize 0 b.length 8=((b.length+7) / 8:Nat):=by
 generalize b.length=n
 cases n with
 |zero=>rfl
 |succ m=>
  refine(aA (aI rfl)).trans ((aA (lR.mpr (uQ m))).trans ?_);exact(bF (λz:Int=>z / 8+1) ((bF (· - (1:Int)) (Int.sub_zero _)).trans (Int.add_sub_cancel (m:Int) 1))).trans (bF Int.ofNat (Nat.add_div_right m (lb rfl)).symm)
theorem vT(h:-100000<=i)(h':i<=100000):Builtin.Range.rangeFitsLong i=true:=by
 unfold Builtin.Range.rangeFitsLong
 (refine aaE (mF ..)<|aaE oN<|aaE oN ?_)
 have:(2:Int) ^ 63=9223372036854775808:=by decide
 exact aaE this<|⟨fR (aI rfl) h,AM h' (aI rfl)⟩
theorem Fx(b:List UInt8)(hz:b.length<=4096):Builtin.Range.small 0 b.length 8=true:=by
 unfold Builtin.Range.small;rw[Bp,vT (aI rfl) (aI rfl),vT (i:=(b.length:Int)) (Tv hz) (Vd hz),vT (i:=8) (aI rfl) (aI rfl),vT (i:=(((b.length+7) / 8:Nat):Int)) (Uz hz) (Ul hz),aA (aI rfl),vT (i:=(b.length:Int)+(8 - 1)) (Vb hz) (Uw hz)];simp
theorem JS{b:List UInt8}{i:Nat}:eM (some (0+(i:Int)*8)) (some (0+(i:Int)*8+8)) b=(b.drop (8*i)).take 8:=by
 have e:(0+(i:Int)*8)=((8*i:Nat):Int):=U9;have e2:=SY e
 (refine aaE e<|aaE e2<|aaE (vg ..) ?_)
 congr 1;exact TP
section
variable {X:Cx} {σ:St} (hX:Base X)
include hX
theorem QS{b:List UInt8}{Q:AP}(hz:b.length<=4096)(h:Q (.lst ((ik b).map λc=>.lst (bl c))) σ):CallOk X 3 (.ref 153) [.int 8,.bytes b] σ Q:=by
 refine bk hX.f_part λcode pm F=>?_;refine dQ F ["size","items"] (c7 ["size","items"] λvs hv=>?_) rfl λA L hA=>?_
 ·(apply gG hv;intro v w;rfl)
 refine aw<|cD<|mH (k:=2) (λD env=>T1 D env _) (λC env=>J1 X A env _) hA (λC D it=>lg) (λD C fY hD=>kj hD) rfl rfl (by decide) (by decide)
  <|g7<|aV<|eg hX.g_range<|ak<|aY<|ak<|aV<|eg hX.g_len<|ak<|af (.bytes b)<|aD ⟨trivial,nV (wh hz)<|ak<|af (.int 8)<|aD ⟨trivial,FI (by decide) (EX (by decide))<|yb (Fx b hz) (Bp b) λC=>
   ja (λm=>m "items"=some (.bytes b)/\m "size"=some (.int 8)) (λx=>true) (λV=>match V with|.int i=>.lst (bl ((b.drop i.toNat).take 8))|V=>V) trivial _ _ [] (λV hV m hm=>?_) ?_ ⟨by rfl,by rfl⟩ λm' x=>?_⟩⟩
 ·refine ax (cb.mp hV) λi hi c5=>?_;clear hV;subst c5
  have gz:=xI.mp hi;refine aQ (l7 rfl rfl rfl ⟨?_,?_⟩ (λx=>?_))
  ·refine aaE (aq hm.1) ?_;rfl
  ·refine aaE (aq hm.2) ?_;rfl
  refine aV<|eg hX.g_list<|ak<|bz<|aP (V:=.bytes b) (by refine aaE (aq hm.1) ?_;rfl)<|ee (lower:=some _) (upper:=some _)<|af (.int (0+i*8)) (ki (bK<|af (.int (0+i*8))<|aP (V:=.int 8) (by refine aaE (aq hm.2) ?_;rfl)<|mK (ki (fG (wh hz)<|aD ⟨trivial,MR hA ?_ ⟨rfl,?_⟩⟩))))
  ·refine aaE JS ?_;have:=List.length_take_le 8 (b.drop (8*i));exact Jt this
  ·refine aaE JS ?_
   show AV.lst _=AV.lst (bl ((b.drop (0+(i:Int)*8).toNat).take 8));have:(0+(i:Int)*8).toNat=8*i:=Cq;exact aaE this rfl
 ·simp[fK];exact Di hz
 ·have e:((fK 0 8 ((b.length+7) / 8)).filter λx=>true)=fK 0 8 ((b.length+7) / 8):=by simp
  (refine aaE e<|aaE (gT ..) ?_)
  have e2:(fK 0 8 ((b.length+7) / 8)).map (λV=>match V with|AV.int i=>AV.lst (bl ((b.drop i.toNat).take 8))|V=>V)=(ik b).map λc=>AV.lst (bl c):=by
   unfold fK ik
   (refine aaE fS<|aaE fS ?_)
   apply r9;intro i x;show AV.lst (bl ((b.drop (0+(i:Int)*8).toNat).take 8))=_;have:(0+(i:Int)*8).toNat=8*i:=(bF Int.toNat (oW ((_:Int)*8))).trans (uP _ 8);refine aaE this ?_;rfl
  exact aaE e2<|h
omit hX in
theorem F7:∀{l:List AV} {i:Nat} {V:AV},V∈kd i l->∃j W,V=.tup [.int ((j:Nat):Int),W]/\W∈l/\i<=j/\j<i+l.length
 |[],_,_,h=>by cases h
 |W::l,i,V,h=>by
  refine az λkk=>?_;rcases dm.mp h with rfl|h
  ·exact kk<|(lX i W rfl cV (bC _) (by simp))
  ·refine j8 (F7 h) λj W' e hm h1 h2=>?_
   exact kk<|(lX j W' e (cj _ hm) (Jr h1) (by exact aaE cW<|Jj h2))
omit hX in
theorem B3{A:Around}{E:VP}{Q:AP}{e:Nat}(he:e<=7)(h:Q (.int (2 ^ e)) σ):cU X A E (binaryOp .Pow) (.int 2) (.int e) σ Q:=λg s v u S r r'=>by
 obtain⟨t,rfl⟩:=r;obtain⟨t',rfl⟩:=r'
 cases e with
 |zero=>exact AutoIntOps.pow_0 (aI rfl) (aI rfl) (Post.tok S .int h)
 |succ e=>
  refine AutoIntOps.pow_4 (Th he) (by simp;exact Td he) (aI rfl) (aI rfl) ?_ (Post.tok S .int ?_)
  ·unfold Builtin.Int.intTooBig Builtin.Int.intBits
   have:bitsLine>1000:=by decide
   have e2:((if ((2:Int)==0)=true then 0 else (2:Int).natAbs.log2+1:Nat):Int)=2:=by decide
   (refine aaE e2<|aaE oN ?_);exact S9 he this
  ·have:=U7 he
   exact aaE this<|h
omit hX in
theorem OB{A:Around}{E:VP}{env:Env}{m:Mp}{Q:AP}{k:Nat}{fe e:Expr}{pos:Pos}{ns:List Int}(c9:∀h:Heap,X.B.In h->h.NoLimit)(hA:Room A (k+4))(hf:Ev X A E env m fe σ λF ay=>F=.blt "sum"/\ay=σ)(he:rq X A E k env m e σ (ns.map .int))
  (hr:∀n∈ns,0<=n/\n<=1000000)(hz:ns.length<=65536)(h:Q (.int ns.sum) σ)
  (heq:eval (.Call fe [e] [] pos) env=(do callWith pos (←eval fe env) [] (backTo pos (starEach [e] env)) (backToKw pos (keywordEach [] env))):=by rfl)
  (hs:starEach [e] env=(false,eval e env)::starEach [] env):Ev X A E env m (.Call fe [e] [] pos) σ Q:=λg s S F=>
 Call_ (aB (hf g s S F) (λfv s₁ zz=>zz.rec λaJ f ay ai aX aR=>bY aR λe1 e2=>by
  subst e1 e2;refine o6 (fvs:=[]) aX (sL (aB (he aJ s₁ ai.sat (F.go ai)) (λv s₂ ba=>lT ba λa gi bj own hv aN ho hg=>?_) i2) hs) (by refine aaE hs ?_;rfl);subst hv;refine args_nil ⟨⟨bj,_,aN.sat,trivial⟩,?_⟩;have eH:fv=.builtin "sum":=by exact aX
  clear aX zz;refine aaE eH ?_;have dj:own.Le s aL:=⟨λb o e q=>du (ai.dom e id) λo' e'=>ho.1 b o' e' q,λi hi q=>ho.2 i (bT hi ai.run.gsize) q⟩
  exact aB (ND c9 hA (ai.trans aN) hg dj hr hz h) i2 λy y x=>x.elim) i2) heq
noncomputable def qX:AV->AV
 |.tup [.int e,.int b]=>.int (2 ^ e.toNat*b)
 |V=>V
noncomputable def kq:List UInt8->Nat->List Int
 |[],_=>[]
 |b::r,i=>(2 ^ i*(b.toNat:Int))::kq r (i+1)
noncomputable def gv(c:List UInt8):Int:=(kq c.reverse 0).sum
omit hX in
theorem BN:∀(r:List UInt8) (i:Nat),(kd i (bl r)).map qX=(kq r i).map .int
 |[],_=>rfl
 |b::r,i=>by
  show qX (.tup [.int (i:Int),.int (b.toNat:Int)])::(kd (i+1) (bl r)).map qX=_;refine aaE (BN r (i+1)) ?_;rfl
omit hX in
theorem FK:∀(r:List UInt8) (i:Nat),(kq r i).length=r.length
 |[],_=>rfl
 |b::r,i=>by dsimp only[kq];(exact aaE cW<|aaE (FK r ..)<|aaE cW rfl)
omit hX in
theorem GS:∀{r:List UInt8} {i:Nat} {n:Int},n∈kq r i->∃j b,n=2 ^ j*(b.toNat:Int)/\b∈r/\i<=j/\j<i+r.length
 |[],_,_,h=>by cases h
 |b::r,i,n,h=>by
  refine az λkk=>?_;rcases dm.mp h with rfl|h
  ·exact kk<|(lX i b rfl cV (bC _) (by simp))
  ·refine j8 (GS h) λj b' e hm h1 h2=>?_
   exact kk<|(lX j b' e (cj _ hm) (Jr h1) (by exact aaE cW<|Jj h2))
noncomputable def BO:AV->List AV
 |.lst l=>[.int ((kd 0 l.reverse).map λV=>match qX V with|.int n=>n|_=>0).sum]
 |_=>[]
omit hX in
theorem FJ(c:List UInt8):BO (.lst (bl c))=[.int (gv c)]:=by
 have e1:(bl c).reverse=bl c.reverse:=by unfold bl;exact aaE List.map_reverse rfl
 show [AV.int ((kd 0 (bl c).reverse).map λV=>match qX V with|.int n=>n|_=>0).sum]=_;refine aaE e1 ?_
 have e2:((kd 0 (bl c.reverse)).map λV=>match qX V with|.int n=>n|_=>0)=kq c.reverse 0:=by
  have:=bF (List.map λV=>match V with|AV.int n=>n|_=>0) (BN c.reverse 0);rw[fS,fS]at this;have e3:((λV=>match V with|AV.int n=>n|_=>0) ∘ AV.int)=(id:Int->Int):=rfl;rw[e3,List.map_id]at this;exact this
 refine aaE e2 ?_;rfl
omit hX in
theorem B2{b:List UInt8}(hb:∀c∈b,c=0∨c=1){u:UInt8}(h:u∈b):(u.toNat:Int)=0∨(u.toNat:Int)=1:=by
 rcases hb u h with rfl|rfl
 ·exact .inl rfl
 ·exact .inr rfl
omit hX in
theorem vj(h:c∈ik b):c.length<=8:=by
 refine ax (cb.mp h) λj x dY=>?_;clear h;subst dY;exact List.length_take_le _ _
omit hX in
theorem vi(h:c∈ik b)(hx:x∈c):x∈b:=by
 refine ax (cb.mp h) λj y iV=>?_;clear h;subst iV;exact uw (E7 hx)
theorem QT{b:List UInt8}(hz:b.length<=4096)(hb:∀c∈b,c=0∨c=1):sX X 8 (.ref 167) [.bytes b] σ ((ik b).map λc=>.int (gv c)):=by
 obtain⟨pm,F⟩:=hX.f_dfb_;refine vo (hclo:=by rfl) (hco:=by rfl) (hgen:=by rfl) (hk:=by rfl) F ["input_bin"] (c7 ["input_bin"] λvs hv=>?_) rfl λL=>?_
 ·(apply ml hv;intro v;rfl)
 have e0:((ik b).map λc=>AV.int (gv c))=((ik b).map λc=>AV.lst (bl c)).flatMap BO++[]:=by
  (refine aaE (jX ..)<|aaE (A3 ..) ?_)
  induction ik b with
  |nil=>rfl
  |cons c r ih=>(refine aaE eB<|aaE nQ<|aaE (aq ih)<|aaE (FJ ..) ?_);rfl
 refine aaE e0<|eQ<|B0 λA' cp=>g7<|aV<|eg hX.g_part<|ak<|aY<|ak<|af (.bytes b)<|aD ⟨?_,bc (QS hX hz<|mN ⟨rfl,yd (λx=>True) BO _ _ [] (λV hV m l x A' hA=>?_) trivial λm' x=>gq ⟨rfl,.inl rfl⟩⟩) (cp.mono (lb rfl))⟩
 ·refine bk hX.f_part λx x F'=>?_;exact F'.keep
 refine ax (cb.mp hV) λc hc jl=>?_;subst jl;refine aQ ⟨rfl,?_⟩;refine eQ<|qO λc6 bI=>OB (hs:=by rfl) (k:=2) (ns:=kq c.reverse 0) hX.lim (bI.mono (lb rfl)) (eg hX.g_sum ⟨rfl,rfl⟩) ?_ ?_ ?_ ⟨rfl,?_,gq ⟨rfl,rfl,trivial⟩⟩
 ·refine aaE (aq (BN ..)) ?_
  have e1:bl c.reverse=(bl c).reverse:=by unfold bl;exact aaE List.map_reverse rfl
  refine aaE e1<|Oz (hco:=by rfl) (hk:=by rfl) hX _ (λx=>True) qX (bI.mono (lb rfl)) (NF (s1:=by rfl) (s2:=by rfl) (k:=0) (eg hX.g_enumerate ⟨rfl,rfl⟩) (eg hX.g_reversed ⟨rfl,rfl⟩) (af (.lst (bl c)) ⟨rfl,rfl⟩) ⟨rfl,rfl⟩) trivial (λcenv N Mc hg Ef hN V hV m x aao VU=>?_) rfl hX.t_dfb_ rfl rfl (by decide) (by rfl);refine j8 (F7 hV) λj W jL hW x hj=>?_;subst jL;refine ax (cb.mp (List.mem_reverse.mp hW)) λu hu jM=>?_;clear hW hV;subst jM;have hlen:=vj hc;have jm:j<=7:=by simp[bl]at hj;exact xt (bT hj hlen)
  obtain⟨sc,lo,gl,ce,qu,fu,co,fr,bi⟩:=cenv;dsimp only at Mc;clear hg Ef;subst Mc;refine eR VU.handled rfl rfl (bG (BL rfl ⟨hN,.inl rfl⟩ (bG (BL rfl ⟨hN,.inl rfl⟩ (eS ⟨rfl,trivial,?_⟩)))));refine bK<|bK<|aY<|af (.int (j:Int))<|B3 jm<|af (.int (u.toNat:Int))<|FY ⟨rfl,?_⟩ ?_
  ·show AV.int _=AV.int (2 ^ ((j:Nat):Int).toNat*_)
   exact aaE (kM ..) rfl
  ·exact .of_right (by rcases B2 hb (vi hc hu)with q|q<;>refine aaE q ?_<;>decide)
 ·intro n hn
  refine j8 (GS hn) λi u jN hu x hi=>?_;subst jN;have hlen:=vj hc
  have hp:(2:Int) ^ i<=2 ^ 8:=by
   have:(2:Nat) ^ i<=2 ^ 8:=Nat.pow_le_pow_right (by decide) (by simp at hi;exact ae (dS hi) hlen)
   exact_mod_cast this
  have f7:(0:Int)<=2 ^ i:=Int.pow_nonneg (by decide);have:(2:Int) ^ 8=256:=by decide
  rcases B2 hb (vi hc (List.mem_reverse.mp hu))with q|q<;>refine aaE q ?_
  ·exact aaE (Int.mul_zero _)<|⟨Int.le_refl _,aI rfl⟩
  ·exact aaE (Int.mul_one _)<|⟨f7,fR hp (aI rfl)⟩
 ·refine aaE (FK ..) ?_;have:=vj hc;simp;exact Jt this
 ·exact(iB (FJ c)).1.symm
omit hX in
theorem GR:∀(r:List UInt8) (i:Nat),(∀c∈r,c=0∨c=1)->0<=(kq r i).sum/\(kq r i).sum+2 ^ i<=2 ^ (i+r.length)
 |[],i,_=>by simp[kq]
 |b::r,i,h=>by
  obtain⟨h1,h2⟩:=GR r (i+1) λc hc=>h c (cj _ hc);have f7:(0:Int)<=2 ^ i:=Int.pow_nonneg (by decide);have e:(2:Int) ^ (i+1)=2*2 ^ i:=by exact aaE (Int.pow_succ ..)<|Ts
  have e2:i+1+r.length=i+(b::r).length:=by exact aaE cW<|Ux
  dsimp only[kq];refine aaE List.sum_cons ?_;rw[e2,e]at h2;exact X9 (B2 h (u:=b) cV) f7 h1 h2
omit hX in
theorem F6(hc:c.length<=8)(h:∀x∈c,x=0∨x=1):0<=gv c/\gv c<256:=by
 obtain⟨h1,h2⟩:=GR c.reverse 0 λx hx=>h x (List.mem_reverse.mp hx);refine⟨h1,?_⟩
 have:(2:Int) ^ (0+c.reverse.length)<=2 ^ 8:=by
  have:(2:Nat) ^ (0+c.reverse.length)<=2 ^ 8:=Nat.pow_le_pow_right (by decide) (by simp;exact hc)
  exact_mod_cast this
 have e:(2:Int) ^ 8=256:=by decide
 have e0:(2:Int) ^ 0=1:=by decide
 unfold gv;exact Int.lt_of_lt_of_le (Int.lt_add_of_pos_right _ (aI rfl)) (fR h2 this)
noncomputable def ny(b:List UInt8):List UInt8:=(ik b).map λc=>(gv c).toNat.toUInt8
omit hX in
theorem uM(b:List UInt8):(ik b).length=(b.length+7) / 8:=by unfold ik;simp
theorem HB(hz:b.length<=4096)(hb:∀c∈b,c=0∨c=1)(h:Q (.bytes (ny b)) σ):CallOk X 14 (.ref 160) [.bytes b] σ Q:=by
 refine bk hX.f_dfb λcode pm F=>?_;refine dQ F ["input_bin"] (c7 ["input_bin"] λvs hv=>?_) rfl λA L hA=>?_
 ·(apply ml hv;intro v;rfl)
 refine aw<|cD<|aV<|eg hX.g_bytes<|ak<|N5 (hs:=by rfl) (k:=8) (l:=((ik b).map gv).map .int) hX.lim hA (eg hX.g_list ⟨rfl,rfl⟩) (BM (hst:=by rfl) hA.mo<|eg hX.g_dfb_<|ak<|af (.bytes b)<|aD ⟨rfl,?_,?_⟩) ?_<|aD ⟨trivial,xy hA.handled ?_ ?_ ?_⟩
 ·obtain⟨_,F'⟩:=hX.f_dfb_;exact F'.keep
 ·exact aaE fS<|QT hX hz hb
 ·simp[uM];exact Di hz
 ·intro n hn
  refine ax (cb.mp hn) λc hc jj=>?_;clear hn;subst jj;exact F6 (vj hc) λx hx=>hb x (vi hc hx)
 ·simp[uM];exact Di hz
 ·exact aaE fS<|h
end
theorem MT:typeLookup (.type "int") "__bytes__"=pure none:=by(refine aaE (A6 ..)<|aaE AB ?_);kernel_rfl
section
variable {X:Cx} {A:Around} {E:Value->Shared->Prop} {σ:St} {Q:AV->St->Prop}
theorem OC{n:Nat}{t:Tok}{s:Shared}{R:VP}(hn:n<=4096)(hQ:R (.bytes (Array.replicate n 0) s.toks) {s with toks:=s.toks+1}):
  codeAny (model P0 X.w) A (.call (.builtin "bytes.__new__") ⟨[.type "bytes",.int n t],[]⟩) (wants R E) s:=by
 refine codeAny_of_tree ?_;show wpAny _ A.in1 (do checkBuiltinCall "bytes.__new__" ⟨[.type "bytes",.int n t],[]⟩;again (.builtin "bytes.__new__" ⟨[.type "bytes",.int n t],[]⟩)) _ _ s;refine ag (dn (F.bm_newCall _) (aO ⟨lQ F.bm_plain _,qA F.bm_entry ?_⟩));refine aaE (oM F.bm_plain _) ?_;have hT:s.TypeIs (.int n t) "int":=sE _ _ _;have Eg:asIndex (.int n t)=pure (n:Int):=rfl;have hst:asStr? (.int n t)=pure none:=rfl;generalize (Value.int n t)=v at hT Eg hst;generalize hm:(n:Int)=m at Eg;unfold Builtin.«bytes.__new__»;refine ag (dn (a:=true) rfl ?_);refine nX rfl<|ag (dn F.bm_sub ?_);refine nX rfl<|ag (dn (F.bm_bind _) ?_);refine ag (dn (a:=()) rfl ?_);refine ag (dn (a:=()) rfl ?_);refine nX rfl<|ag (se hT MT ?_);dsimp only;refine aaE hst<|ag (ag (aO (aO ?_)));refine nX rfl<|ag (se hT F.slot_int_index.lookup ?_);refine nX rfl<|ag (uN (dn Eg ?_));refine nX ?_ ?_
 ·subst hm;simp only[Builtin.Bytes.fitsIndex,Bool.not_eq_false',mF,oN];exact⟨fR (aI rfl) (qv n),wF hn rfl⟩
 have Y8:=Int.not_lt.mpr (fR (qv _) (oX hm))
 have rL:¬m>2 ^ 63 - 34:=by
  have:(2:Int) ^ 63=9223372036854775808:=by decide
  exact aaE this<|(Int.not_lt.mpr (fR (oX hm.symm) (fR (oY.mpr hn) (aI rfl))))
 have eP:=UT hm
 (refine aaE (ar Y8)<|aaE (ar rL)<|aaE eP ?_)
 refine nX ?_ ?_
 ·unfold Builtin.Bytes.tooLong;refine aaE df ?_;simp;exact wh hn
 refine ag (gX ?_);refine ag (wpAny_mkBytes ?_ (by refine aaE df ?_;simp;exact wh hn));exact bm_if_true (by decide)<|aO hQ
theorem M6{n:Nat}(hn:n<=4096)(h:Q (.bytes (List.replicate n 0)) σ):fy X A E (.typ "bytes") [.int n] σ Q:=λg s fv vs S r rl=>by
 obtain rfl:=r;obtain⟨v,us,rfl,r,rl⟩:=rl;refine aaE rl ?_;obtain⟨t,rfl⟩:=r
 refine callType_codes (Q₁:=λobj s₁=>s₁.TypeIs obj "bytes"/\Post X aL g σ s Q obj s₁) F.bm_called (F.bm_typeCall _) Fe
  (OC hn ⟨PySem.W.typeIs_bytes _ _ _,?_⟩) λobj s₁ aF=>?_
 ·have e:Array.replicate n (0:UInt8)=(List.replicate n 0).toArray:=by simp
  exact aaE e<|Post.tok S .bytes h
 ·exact(cA aF.1 (xp obj _) (object_init_meets F.bm_called.init.lookup F.bm_called.made (aI rfl) P0 X.w A.in1 _ s₁ (cA aF.1 rfl aF.2)))
theorem jx{value slice:Expr}{l:List AV}{i:Nat}{V:AV}(hz:l.length<=16777216)(hi:l[i]?=some V)(h:Q V σ):cU X A E (subscriptTail value slice) (.lst l) (.int i) σ Q:=λg s v u S r r'=>by
 refine cP r λa vs ba hq rl=>?_;clear r;subst ba;obtain⟨t,rfl⟩:=r';refine ax (rl.get hi) λx hx rx=>?_;have hl:=gY hq S.in_;have:=(ES.mp hi).1;exact qU hl.typeIs slot_list_getitem.lookup (wpAny_getItem_list hl (Dl) (wF (ae (dS this) hz) rfl) (x:=x) (by simpa using hx) (Post.here S rx h))
noncomputable def two(n:Nat):List UInt8:=[(n / 2 % 2).toUInt8,(n % 2).toUInt8]
noncomputable def c8(b:List UInt8):List UInt8:=List.replicate ((4 - b.length % 4) % 4) 0++b
noncomputable def rowK(b:List UInt8):List UInt8:=(if (c8 b).length % 8==4 then [0,0]else [1,0,0,0,0,0])++two (b.length % 4)++c8 b
noncomputable def eT(b:List UInt8):List UInt8:=ny (rowK b)
variable (hX:Base X)
include hX
theorem M4(h:Q (.blt "list.index") σ):pz X A E "index" (.ref 60) σ Q:=λg s v pl S r=>by
 refine aaE r<|az λkk=>?_;obtain⟨o,t0,t1,t2,t3,hB,hc,hd,n,oG⟩:=hX.o_TWO;have ho:=S.in_ _ _ (S.le _ _ hB);refine kk<|getMethod_builtin (aE o ho hc) PySem.F.plainAttrs_list PySem.F.slot_list_index PySem.F.type_list_index (λa e=>by cases e;exact(aE o ho hd)) ?_;exact(gZ g _ σ (.refl S) (by exact rfl) rfl h)
omit hX in
theorem Fk(b c:Array UInt8)(t u:Tok):MeetsSeq.EqGives (.bytes b t) (.bytes c u) (decide (b.toList=c.toList)):=λx x x x x x h=>eqBool_bytes h
theorem M5(hx:x=0∨x=1)(hy:y=0∨y=1)(h:Q (.int (2*x.toNat+y.toNat:Nat)) σ):fy X A E (.blt "list.index") [.ref 60,.bytes [x,y]] σ Q:=λg s fv vs S r rl=>by
 refine aaE r ?_;obtain⟨v,us,rfl,r,rl⟩:=rl;obtain⟨u,ws,rfl,r',rl⟩:=rl;obtain rfl:=rl;refine aaE r ?_;obtain⟨t,rfl⟩:=r';obtain⟨o,t0,t1,t2,t3,hB,hc,hd,n,oG⟩:=hX.o_TWO;have ho:=S.in_ _ _ (S.le _ _ hB);obtain⟨cls,dd,data,sl⟩:=o;simp only at hc hd oG;subst hc hd oG
 refine call_meets PySem.F.slot_list_index ⟨_,ho,rfl⟩ PySem.F.entry_list_index (PySem.F.args_list_index_2 _ _)
  (PySem.SeqAt.list_indexAt 60 _ n none sl (.bytes [x,y].toArray t) (λv=>match v with|.bytes b _=>decide (b.toList=[x,y])|_=>false) (2*x.toNat+y.toNat) ?_ ?_ ?_ ?_) ⟨ho,λz hz=>?_,Post.tok S .int h⟩
 ·show _<4
  rcases hx with rfl|rfl<;>rcases hy with rfl|rfl<;>decide
 ·rcases hx with rfl|rfl<;>rcases hy with rfl|rfl<;>decide
 ·rcases hx with rfl|rfl<;>rcases hy with rfl|rfl<;>rfl
 ·clear h;rcases hx with rfl|rfl<;>rcases hy with rfl|rfl
  ·intro j hj cG;exact absurd cG (Nat.not_lt_zero j)
  ·intro j hj cG
   have:j=0:=by have:(2*(0:UInt8).toNat+(1:UInt8).toNat)=1:=rfl;exact Nat.lt_one_iff.mp (jV cG this)
   subst this;rfl
  ·intro j hj cG
   have:(2*(1:UInt8).toNat+(0:UInt8).toNat)=2:=rfl;have:=(aI rfl:∀r,r<2->r=0∨r=1) _ (jV cG this);rcases this with rfl|rfl<;>rfl
  ·intro j hj cG
   have:(2*(1:UInt8).toNat+(1:UInt8).toNat)=3:=rfl;have:=(aI rfl:∀r,r<3->r=0∨r=1∨r=2) _ (jV cG this);rcases this with rfl|rfl|rfl<;>rfl
 ·rcases(by simpa using hz:z=_∨z=_∨z=_∨z=_)with rfl|rfl|rfl|rfl<;>exact(Fk _ _ _ _).at _ _
omit hX in
theorem Ir(n:Nat):((4:Int) - n).fmod 4=((4 - n % 4) % 4:Nat):=by
 exact aaE (ur _ (aI rfl))<|UZ
omit hX in
theorem Iu(n k:Nat):((n:Int)).fmod (k:Int)=(n % k:Nat):=by
 refine aaE (ur _ (Dl)) ?_;rfl
omit hX in
theorem QU(h:n<4):[AV.bytes [0,0],.bytes [0,1],.bytes [1,0],.bytes [1,1]][n]?=some (.bytes (two n)):=by
 rcases n with _|_|_|_|n
 ·rfl
 ·rfl
 ·rfl
 ·rfl
 ·exact absurd h (j0.mpr (ib 4 n))
omit hX in
theorem yq(n:Nat):∀c∈two n,c=0∨c=1:=by
 have h:∀m,(m % 2).toUInt8=0∨(m % 2).toUInt8=1:=λm=>by
  rcases(ar173:m % 2=0∨m % 2=1)with q|q<;>refine aaE q ?_
  ·exact .inl rfl
  ·exact .inr rfl
 intro c hc;rcases(by simpa [two]using hc:c=_∨c=_)with rfl|rfl
 ·exact h _
 ·exact h _
omit hX in
theorem BB(hb:∀c∈b,c=0∨c=1):∀c∈c8 b,c=0∨c=1:=λc hc=>by
 rcases jw.mp hc with q|q
 ·exact .inl (List.eq_of_mem_replicate q)
 ·exact hb c q
theorem RE{b:List UInt8}{Q:AP}(hz:b.length<=1024)(hb:∀c∈b,c=0∨c=1)(h:Q (.bytes (eT b)) σ):CallOk X 15 (.ref 186) [.bytes b] σ Q:=by
 refine bk hX.f_efk λcode pm F=>?_;refine dQ F ["input_bin"] (c7 ["input_bin"] λvs hv=>?_) rfl λA L hA=>?_
 ·(apply ml hv;intro v;rfl)
 have hp:(c8 b).length<=1028:=by unfold c8;simp;exact Jy hz
 refine aw<|bE<|bK<|aV<|eg hX.g_bytes<|ak<|bK<|bK<|aY<|aV<|eg hX.g_len<|ak<|af (.bytes b)<|aD ⟨trivial,nV (JD hz)<|xY<|aY<|jB (aI rfl)<|aD ⟨trivial,?_⟩⟩;refine aaE (Ir ..)<|M6 (ae (dS (m4 _)) (lb rfl))<|af (.bytes b)<|f5 (by simp;exact ae (zN _) (ae (dD hz 3) (lb rfl)))<|aQ ?_;refine aw<|bE<|bz<|eg hX.g_TWO<|bK<|aV<|eg hX.g_len<|ak<|af (.bytes b)<|aD ⟨trivial,nV (JD hz)<|aY<|jB (aI rfl) ?_⟩;refine aaE (show((b.length:Int)).fmod 4=((b.length % 4:Nat):Int)from Iu _ 4)<|jx (aI rfl) (QU (Nat.mod_lt _ (aI rfl)))<|aQ<|aw<|bp<|aT<|bK<|aV<|eg hX.g_len<|ak<|af (.bytes (c8 b))<|aD ⟨trivial,nV (ae hp (lb rfl))<|aY<|jB (aI rfl)<|aY ?_⟩;refine aaE (show(((c8 b).length:Int)).fmod 8=(((c8 b).length % 8:Nat):Int)from Iu _ 8)<|cu (iH (?_))
 have VV:((((c8 b).length % 8:Nat):Int)==4)=((c8 b).length % 8==4):=by
  (refine aaE (propext xA)<|aaE (propext cM)<|aaE (propext cM) ?_);exact Bj (m:=_ % 8) (n:=4)
 refine aaE VV ?_;have y9:cQ X σ (.ref 160):=by refine bk hX.f_dfb λx x F'=>?_;exact F'.keep
 have Lu:∀P:List UInt8,P.length<=6->(∀c∈P,c=0∨c=1)->(∀c∈P++two (b.length % 4)++c8 b,c=0∨c=1)/\(P++two (b.length % 4)++c8 b).length<=4096:=λP hP t7=>by
  refine⟨λc hc=>?_,?_⟩
  ·rcases jw.mp hc with q|q
   ·rcases jw.mp q with q|q
    ·exact t7 c q
    ·exact yq _ c q
   ·exact BB hb c q
  ·simp[two];exact ae (gC hP (dD hp 2)) (lb rfl)
 cases hc:((c8 b).length % 8==4)with
 |true=>
  obtain⟨h1,h2⟩:=Lu [0,0] (aI rfl) (aI rfl);refine aw<|cD<|aV<|eg hX.g_dfb<|ak<|bK<|bK<|eg hX.g_P00<|aP (V:=.bytes (two (b.length % 4))) rfl<|f5 (by simp[two])<|af (.bytes (c8 b))<|f5 (by simp[two];exact ae (cK hp _) (lb rfl))<|aD ⟨y9,bc (HB hX h2 h1 ?_) hA⟩;have:eT b=ny ([0,0]++two (b.length % 4)++c8 b):=by unfold eT rowK;refine aaE hc ?_;rfl
  exact aaE (aq this)<|h
 |false=>
  obtain⟨h1,h2⟩:=Lu [1,0,0,0,0,0] (aI rfl) (aI rfl);refine aw<|cD<|aV<|eg hX.g_dfb<|ak<|bK<|bK<|eg hX.g_P10<|aP (V:=.bytes (two (b.length % 4))) rfl<|f5 (by simp[two])<|af (.bytes (c8 b))<|f5 (by simp[two];exact ae (cK hp _) (lb rfl))<|aD ⟨y9,bc (HB hX h2 h1 ?_) hA⟩;have:eT b=ny ([1,0,0,0,0,0]++two (b.length % 4)++c8 b):=by unfold eT rowK;refine aaE hc ?_;rfl
  exact aaE (aq this)<|h
end
theorem Pe:∀b0 b1 b2 b3 b4 b5 b6 b7:Bool,vp ((gv [lj b0,lj b1,lj b2,lj b3,lj b4,lj b5,lj b6,lj b7]).toNat.toUInt8)=[b0,b1,b2,b3,b4,b5,b6,b7]:=by decide+kernel
theorem pv(h:u=0∨u=1):∃b,u=lj b:=by
 rcases h with rfl|rfl
 ·exact⟨false,rfl⟩
 ·exact⟨true,rfl⟩
theorem OD(hl:c.length=8)(h:∀x∈c,x=0∨x=1):(vp ((gv c).toNat.toUInt8)).map lj=c:=by
 revert h
 apply Dv hl;intro u0 u1 u2 u3 u4 u5 u6 u7 h;obtain⟨b0,rfl⟩:=pv (h u0 (by simp));obtain⟨b1,rfl⟩:=pv (h u1 (by simp));obtain⟨b2,rfl⟩:=pv (h u2 (by simp));obtain⟨b3,rfl⟩:=pv (h u3 (by simp));obtain⟨b4,rfl⟩:=pv (h u4 (by simp));obtain⟨b5,rfl⟩:=pv (h u5 (by simp));obtain⟨b6,rfl⟩:=pv (h u6 (by simp));obtain⟨b7,rfl⟩:=pv (h u7 (by simp));refine aaE (Pe ..) ?_;rfl
theorem FL:∀(n:Nat) (r:List UInt8),r.length=8*n->(List.range n).flatMap (λj=>(r.drop (8*j)).take 8)=r
 |0,r,h=>by
  have:=oI (h);refine aaE this ?_;rfl
 |n+1,r,h=>by
  (refine aaE List.range_succ_eq_map<|aaE nQ<|aaE (A3 ..) ?_)
  have ih:=FL n (r.drop 8) (by simp;exact Tn h)
  have e:(List.range n).flatMap (λj=>(r.drop (8*(j+1))).take 8)=r.drop 8:=by
   refine aaE (aq ih) ?_
   congr 1
   funext j
   refine aaE kN ?_
   congr 2
   exact eD (8*_) 8
  refine aaE e ?_;simp
theorem Fy{α β:Type}{f g:α->List β}:∀{l:List α},(∀x∈l,f x=g x)->l.flatMap f=l.flatMap g
 |[],_=>rfl
 |x::l,h=>by(exact aaE nQ<|aaE nQ<|aaE (h x cV)<|aaE (Fy λy hy=>h y (cj _ hy)) rfl)
theorem Pg{r:List UInt8}(hl:r.length % 8=0)(h:∀x∈r,x=0∨x=1):bu (ny r)=r:=by
 have hc:∀c∈ik r,c.length=8:=λc hc=>by
  refine ax (cb.mp hc) λj hj aR=>?_;clear hc;subst aR;have:=xI.mp hj;simp;exact Tt hl this
 have hm:bu (ny r)=(ik r).flatMap λc=>c:=by
  unfold bu bits ny
  (refine aaE (A3 ..)<|aaE List.map_flatMap ?_)
  refine Fy λc Md=>?_;exact OD (hc c Md) λx hx=>h x (vi Md hx)
 refine aaE hm ?_;unfold ik;refine aaE (A3 ..) ?_;have e:=Uy hl;exact aaE e<|FL _ r (T7 e)
theorem N7(b:List UInt8):(c8 b).length % 4=0:=by unfold c8;simp;exact Uq
theorem FN(b:List UInt8):(rowK b).length % 8=0:=by
 have:=N7 b;unfold rowK
 split
 ·rename_i h;rw[cM]at h;simp[two];exact Ut h
 ·rename_i h;rw[cM]at h;simp[two];exact UA this h
theorem Pf(hb:∀c∈b,c=0∨c=1):∀c∈rowK b,c=0∨c=1:=λc hc=>by
 rcases jw.mp hc with q|q
 ·rcases jw.mp q with q|q
  ·split at q
   ·exact(by decide:∀c∈([0,0]:List UInt8),c=0∨c=1) c q
   ·exact(by decide:∀c∈([1,0,0,0,0,0]:List UInt8),c=0∨c=1) c q
  ·exact yq _ c q
 ·exact BB hb c q
theorem Qa(hb:∀c∈b,c=0∨c=1):bu (eT b)=rowK b:=Pg (FN b) (Pf hb)
noncomputable def iO(b:List UInt8):List UInt8:=[0,0]++two (b.length % 4)++c8 b
section
variable {X:Cx} {σ:St} (hX:Base X)
include hX
theorem RG(hz:b.length<=1024)(hb:∀c∈b,c=0∨c=1)(h:Q (.bytes b) σ):CallOk X 9 (.ref 193) [.bytes (eT b)] σ Q:=by
 refine bk hX.f_dtk λcode pm F=>?_;refine dQ F ["path"] (c7 ["path"] λvs hv=>?_) rfl λA L hA=>?_
 ·(apply ml hv;intro v;rfl)
 have hp:(c8 b).length<=1028:=by unfold c8;simp;exact Jy hz
 have hr:(rowK b).length<=1040:=by unfold rowK;split<;>simp[two]<;>exact ae hp (lb rfl)
 have Me:4<=(rowK b).length:=by unfold rowK;split<;>simp[two]
 have w7:(eT b).length<=4096:=by unfold eT ny;(refine aaE (dF ..)<|aaE (uM ..) ?_);exact ae (uB _ _) (ae (dD hr 7) (lb rfl))
 have y9:cQ X σ (.ref 172):=by refine bk hX.f_etb λx x F'=>?_;exact F'.keep
 refine aw<|bE<|aV<|eg hX.g_etb<|ak<|af (.bytes (eT b))<|aD ⟨y9,bc (s7 hX w7 ?_) hA⟩;refine aaE (Qa hb)<|aQ ?_
 have tail:∀m,m "path"=some (.bytes (iO b))->Exs X A aC (bg L (callEnvC (ip (bD 29) "decode_to_bin_keypath" code pm .none) L 193)) (callEnvC (ip (bD 29) "decode_to_bin_keypath" code pm .none) L 193) m ((fz (bD 29)).drop 2) σ (jR Q):=λm hm=>by
  have ht:(iO b).length<=1040:=by unfold iO;simp[two];exact ae hp (lb rfl)
  have c1:eM (some (0:Int)) (some (2:Int)) (iO b)=[0,0]:=by
   have:=vg (l:=iO b) 0 2;rw[show((0:Nat):Int)=0 from rfl,show((2:Nat):Int)=2 from rfl]at this;refine aaE this ?_;rfl
  have c2:eM (some (2:Int)) (some (4:Int)) (iO b)=two (b.length % 4):=by
   have:=vg (l:=iO b) 2 4;rw[show((4:Nat):Int)=4 from rfl,show((2:Nat):Int)=2 from rfl]at this;refine aaE this ?_;rfl
  refine aw<|O2<|aT<|bz<|aP (V:=.bytes (iO b)) hm<|ee (lower:=some _) (upper:=some _)<|aY (ki (aY (ki (fG (tE ht)<|eg hX.g_P00<|dU (kt ⟨?_,?_⟩)))))
  ·refine aaE c1 ?_;rfl
  refine aw<|bE<|fT (eg hX.g_TWOr<|M4 hX<|ak<|bz<|aP (V:=.bytes (iO b)) hm<|ee (lower:=some _) (upper:=some _)<|aY (ki (aY (ki (fG (tE ht) ?_))))) (by rfl);refine aaE c2 ?_;have Aa:=yq (b.length % 4);refine aD ⟨trivial,M5 hX (Aa _ (by simp[two])) (Aa _ (by simp[two]))<|aQ ?_⟩;have eP:∀V,(m.upd "padded_len" V) "path"=some (.bytes (iO b)):=λV=>by refine aaE (aq hm) ?_;rfl
  have e:(2*(b.length % 4 / 2 % 2).toUInt8.toNat+(b.length % 4 % 2).toUInt8.toNat)=b.length % 4:=by
   rcases(((aI rfl:∀r,r<4->r=0∨r=1∨r=2∨r=3) _ (m4 _)):b.length % 4=0∨b.length % 4=1∨b.length % 4=2∨b.length % 4=3)with q|q|q|q<;>refine aaE q ?_<;>rfl
  refine aaE e<|aw<|cD<|bz<|aP (V:=.bytes (iO b)) (eP _)<|ee (lower:=some _) (upper:=none)<|bK<|aY<|bK<|bK<|aY<|af (.int (b.length % 4:Nat))<|xY<|aY<|jB (by decide)<|mK (ki (fG (tE ht) ?_));have ef:((4:Int) - ((b.length % 4:Nat):Int)).fmod 4=((4 - b.length % 4) % 4:Nat):=by(exact aaE (Ir ..)<|aaE (Nat.mod_mod ..) rfl)
  (refine aaE ef<|aaE (show(4:Int)+(((4 - b.length % 4) % 4:Nat):Int)=((4+(4 - b.length % 4) % 4:Nat):Int) by exact rfl) ?_;refine aaE (iK ..) ?_)
  have ed:(iO b).drop (4+(4 - b.length % 4) % 4)=b:=by
   refine aaE (aq kN) ?_;show(c8 b).drop _=b;unfold c8;exact aaE (uG (by simp)) rfl
  exact aaE ed<|h
 cases hc:((c8 b).length % 8==4)with
 |true=>
  have er:rowK b=iO b:=by unfold rowK iO;refine aaE hc ?_;rfl
  refine aw<|bp<|aT<|bz<|af (.bytes (rowK b))<|aY<|nW (tE hr) (by decide) (JA Me)<|aY<|cu (kt (?_));have e0:((((rowK b).getD (0:Int).toNat 0).toNat:Int)==1)=false:=by refine aaE er ?_;rfl
  refine aaE e0<|bw (tail _ ?_);refine aaE (aq er) ?_;rfl
 |false=>
  have er:rowK b=[1,0,0,0]++iO b:=by unfold rowK iO;refine aaE hc ?_;rfl
  refine aw<|bp<|aT<|bz<|af (.bytes (rowK b))<|aY<|nW (tE hr) (by decide) (JA Me)<|aY<|cu (kt (?_));have e0:((((rowK b).getD (0:Int).toNat 0).toNat:Int)==1)=true:=by refine aaE er ?_;rfl
  refine aaE e0<|aw<|bE<|bz<|af (.bytes (rowK b))<|ee (lower:=some _) (upper:=none)<|aY (ki (fG (tE hr)<|aQ<|bw (tail _ ?_)));have:=iK (l:=rowK b) 4;rw[show((4:Nat):Int)=4 from rfl]at this
  (refine aaE this<|aaE er ?_);rfl
end
section
variable {X:Cx} {A:Around} {E:Value->Shared->Prop} {σ:St} {Q:AV->St->Prop}
noncomputable def DV(k:Int):Value->Bool|.int i _=>i==k|_=>false
theorem GU:∀{ns:List Int} {vs:List Value},RepL g (ns.map .int) vs->(vs.any (DV k))=ns.contains k
 |[],_,h=>by refine aaE h ?_;rfl
 |n::ns,_,h=>by
  obtain⟨v,r,rfl,hv,hr⟩:=h;obtain⟨t,rfl⟩:=hv
  (refine aaE List.any_cons<|aaE (GU hr)<|aaE List.contains_cons ?_)
  congr 1
  (refine aaE (propext xA)<|aaE (propext cM)<|aaE (propext cM) ?_);exact eq_comm
theorem GV:∀{ns:List Int} {vs:List Value} {v:Value},RepL g (ns.map .int) vs->v∈vs->∃n t,v=.int n t
 |[],_,v,h,hm=>by obtain rfl:=h;cases hm
 |n::ns,_,v,h,hm=>by
  obtain⟨u,r,rfl,hv,hr⟩:=h;obtain⟨t,rfl⟩:=hv;rcases dm.mp hm with rfl|hm
  ·exact(cX n t rfl)
  ·exact GV hr hm
theorem Bv{k:Int}{ns:List Int}(h:Q (.bool (ns.contains k)) σ):cU X A E (compareOp .In) (.int k) (.tup (ns.map .int)) σ Q:=λg s v u S r r'=>by
 obtain⟨t,rfl⟩:=r;refine cP r' λa vs bh hq rl=>?_;clear r';subst bh;have hl:=o5 hq S.in_;refine PySem.SeqAt.in_tupleAt (DV k) hl (λy hy=>?_) ?_
 ·refine bk (GV rl (by simpa using hy)) λn t' bN=>?_;clear hy;refine aaE bN ?_
  exact(MeetsSeq.EqGives.int n k t' t).at _ _
 ·have e:vs.toArray.any (DV k)=ns.contains k:=by refine aaE (aq (GU rl)) ?_;simp
  exact aaE e<|Post.here S .bool h
noncomputable def bX(b h:List UInt8):List UInt8:=[0]++eT b++h
noncomputable def b9(l r:List UInt8):List UInt8:=[1]++l++r
noncomputable def fi(v:List UInt8):List UInt8:=[2]++v
theorem yC(b:List UInt8):(eT b).length<=b.length / 8+2/\1<=(eT b).length:=by
 have h0:(c8 b).length=(4 - b.length % 4) % 4+b.length:=by unfold c8;simp
 have h1:(eT b).length=((rowK b).length+7) / 8:=by unfold eT ny;(exact aaE (dF ..)<|aaE (uM ..) rfl)
 have h2:=FN b;refine aaE h1 ?_;unfold rowK at h2 ⊢
 split at h2<;>rename_i hc
 ·rw[cM]at hc;refine aaE (aA (by rw[cM];exact hc)) ?_;simp[two]at h2 ⊢;exact Tu h0
 ·refine aaE (ar hc) ?_;rw[cM]at hc;simp[two]at h2 ⊢;exact TX h0
variable (hX:Base X)
include hX
theorem Cw{b:List UInt8}{n:Nat}(hz:b.length<=4096)(hb:b.length=n)(h:Q .none σ):CallOk X 1 (.ref 207) [.bytes b,.int n] σ Q:=by
 refine bk hX.f_vl λcode pm F=>?_;refine dQ F ["value","length"] (c7 ["value","length"] λvs hv=>?_) rfl λA L hA=>?_
 ·(apply gG hv;intro v w;rfl)
 refine aw<|bp<|aT<|aV<|eg hX.g_len<|ak<|af (.bytes b)<|aD ⟨trivial,nV (wh hz)<|af (.int n)<|x9 (iH (?_))⟩
 (refine aaE hb<|aaE (bne_self_eq_false ..) ?_)
 exact bw (bw h)
theorem sQ:cQ X σ (.ref 200):=by refine bk hX.f_vib λx x F'=>?_;exact F'.keep
theorem B4:cQ X σ (.ref 207):=by refine bk hX.f_vl λx x F'=>?_;exact F'.keep
theorem RH(hz:v.length<=4096)(hv:v≠[])(h:Q (.bytes (fi v)) σ):CallOk X 2 (.ref 249) [.bytes v] σ Q:=by
 refine bk hX.f_elf λcode pm F=>?_;refine dQ F ["value"] (c7 ["value"] λvs hv=>?_) rfl λA L hA=>?_
 ·(apply ml hv;intro v;rfl)
 refine aw<|gD<|aV<|eg hX.g_vib<|ak<|af (.bytes v)<|aD ⟨sQ hX,bc (kc hX ?_) hA⟩;refine aw<|bp<|gE<|aT<|af (.bytes v)<|jd<|uX (kt (?_));refine gE<|aT<|af (.bytes v)<|ig<|dU (kt (?_));have e:(v==[])=false:=by rw[cR];exact hv
 refine bQ e<|o4<|bw<|aw<|cD<|bK<|eg hX.g_LEAFP<|af (.bytes v)<|f5 (by simp;exact ae (cK hz 1) (lb rfl)) h
theorem Cd{l r:List UInt8}(hl:l.length=32)(hr:r.length=32)(h:Q (.bytes (b9 l r)) σ):CallOk X 2 (.ref 242) [.bytes l,.bytes r] σ Q:=by
 refine bk hX.f_ebr λcode pm F=>?_;refine dQ F ["left_child_node_hash","right_child_node_hash"] (c7 ["left_child_node_hash","right_child_node_hash"] λvs hv=>?_) rfl λA L hA=>?_
 ·(apply gG hv;intro v w;rfl)
 refine aw<|gD<|aV<|eg hX.g_vib<|ak<|af (.bytes l)<|aD ⟨sQ hX,bc (kc hX ?_) hA⟩;refine aw<|gD<|aV<|eg hX.g_vl<|ak<|af (.bytes l)<|ak<|aY<|aD ⟨B4 hX,bc (Cw hX (n:=32) (C6 hl) hl ?_) hA⟩;refine aw<|gD<|aV<|eg hX.g_vib<|ak<|af (.bytes r)<|aD ⟨sQ hX,bc (kc hX ?_) hA⟩;refine aw<|gD<|aV<|eg hX.g_vl<|ak<|af (.bytes r)<|ak<|aY<|aD ⟨B4 hX,bc (Cw hX (n:=32) (C6 hr) hr ?_) hA⟩;exact aw<|cD<|bK<|bK<|eg hX.g_BRP<|af (.bytes l)<|f5 (by simp;exact JH hl)<|af (.bytes r)<|f5 (by simp;exact JC hl hr) h
theorem n5{b c:List UInt8}(hz:b.length<=1024)(hb:∀c∈b,c=0∨c=1)(bR:b≠[])(hc:c.length=32)(h:Q (.bytes (bX b c)) σ):CallOk X 16 (.ref 235) [.bytes b,.bytes c] σ Q:=by
 refine bk hX.f_ekv λcode pm F=>?_;refine dQ F ["keypath","child_node_hash"] (c7 ["keypath","child_node_hash"] λvs hv=>?_) rfl λA L hA=>?_
 ·(apply gG hv;intro v w;rfl)
 have Eh:Room A 1:=hA.mo;refine aw<|bp<|gE<|aT<|af (.bytes b)<|jd<|uX (kt (?_));refine gE<|aT<|af (.bytes b)<|ig<|dU (kt (?_));have e:(b==[])=false:=by rw[cR];exact bR
 refine bQ e<|o4<|bw<|aw<|gD<|aV<|eg hX.g_vib<|ak<|af (.bytes b)<|aD ⟨sQ hX,bc (kc hX ?_) Eh⟩;refine aw<|gD<|aV<|eg hX.g_vib<|ak<|af (.bytes c)<|aD ⟨sQ hX,bc (kc hX ?_) Eh⟩;refine aw<|gD<|aV<|eg hX.g_vl<|ak<|af (.bytes c)<|ak<|aY<|aD ⟨B4 hX,bc (Cw hX (n:=32) (C6 hc) hc ?_) Eh⟩;have hk:cQ X σ (.ref 186):=by refine bk hX.f_efk λx x F'=>?_;exact F'.keep
 have hl:=(yC b).1;exact aw<|cD<|bK<|bK<|eg hX.g_KVP<|aV<|eg hX.g_efk<|ak<|af (.bytes b)<|aD ⟨hk,bc (RE hX hz hb<|f5 (by simp;exact ae (cK (d8 hl hz) 1) (lb rfl))<|af (.bytes c)<|f5 (by simp;exact ae (gC (dD (d8 hl hz) 1) (aK hc)) (lb rfl)) h) hA⟩
theorem RI{x:UInt8}{r:List UInt8}(hz:r.length<=4096)(hx:x=0∨x=1∨x=2)(h:Q .none σ):CallOk X 2 (.ref 214) [.bytes (x::r)] σ Q:=by
 refine bk hX.f_vbn λcode pm F=>?_;refine dQ F ["node"] (c7 ["node"] λvs hv=>?_) rfl λA L hA=>?_
 ·(apply ml hv;intro v;rfl)
 refine aw<|bp<|gE<|aT<|af (.bytes (x::r))<|eg hX.g_BLANK<|dU (kt (?_));refine Yg (λy=>aw<|FV h) λy=>?_
 ·refine gE<|aT<|bz<|af (.bytes (x::r))<|aY<|nW (by simp;exact ae hz (lb rfl)) (by decide) (by simp)<|eg hX.g_TYPES<|Bv (ns:=[0,1,2]) (kt (?_))
  have e:([0,1,2]:List Int).contains (((x::r).getD (0:Int).toNat 0).toNat:Int)=true:=by
   show([0,1,2]:List Int).contains (x.toNat:Int)=true;rcases hx with rfl|rfl|rfl<;>decide
  exact dR e<|aw<|FV h
theorem so(hz:v.length<=4096)(hv:v≠[])(h:Q (.tup [.int 2,.none,.bytes v]) σ):CallOk X 16 (.ref 228) [.bytes (fi v)] σ Q:=by
 refine bk hX.f_parse λcode pm F=>?_;refine dQ F ["node"] (c7 ["node"] λvs hv=>?_) rfl λA L hA=>?_
 ·(apply ml hv;intro v;rfl)
 have hl:(fi v).length=v.length+1:=by unfold fi;simp
 have gh:1<=v.length:=by clear hz h hl;cases v with|nil=>exact absurd rfl hv|cons _ _=>simp
 refine aw<|bp<|gE<|aT<|af (.bytes (fi v))<|jd<|uX (kt (?_));refine gE<|aT<|af (.bytes (fi v))<|ig<|dU (kt (o4 ?_));refine aw<|bp<|aT<|bz<|af (.bytes (fi v))<|aY<|nW (we hz hl) (by decide) (C8 hl)<|eg hX.g_BR<|cu (kt (?_));refine aw<|bp<|aT<|bz<|af (.bytes (fi v))<|aY<|nW (we hz hl) (by decide) (C8 hl)<|eg hX.g_KV<|cu (kt (?_));refine aw<|bp<|aT<|bz<|af (.bytes (fi v))<|aY<|nW (we hz hl) (by decide) (C8 hl)<|eg hX.g_LEAF<|cu (kt (?_));refine aw<|bp<|aT<|aV<|eg hX.g_len<|ak<|af (.bytes (fi v))<|aD ⟨trivial,nV (we hz hl)<|aY<|cu (kt (?_))⟩;have e:(((fi v).length:Int)==1)=false:=by exact aaE (propext cR)<|(λq=>qE (ae (fF gh) (aK hl.symm)) (Bj.mp q))
 refine bQ e<|bw<|aw<|cD<|lW<|ak<|eg hX.g_LEAF<|ak<|jd<|ak<|bz<|af (.bytes (fi v))<|ee (lower:=some _) (upper:=none)<|aY (ki (fG (we hz hl)<|aD ⟨by exact aaE df<|fZ rfl,?_⟩));have:=iK (l:=fi v) 1;rw[show((1:Nat):Int)=1 from rfl]at this;exact aaE this<|h
theorem qI(hl:l.length=32)(hr:r.length=32)(h:Q (.tup [.int 1,.bytes l,.bytes r]) σ):CallOk X 16 (.ref 228) [.bytes (b9 l r)] σ Q:=by
 refine bk hX.f_parse λcode pm F=>?_;refine dQ F ["node"] (c7 ["node"] λvs hv=>?_) rfl λA L hA=>?_
 ·(apply ml hv;intro v;rfl)
 have hn:(b9 l r).length=65:=by unfold b9;simp;exact(bF (·+_) hl).trans (bF (32+·) hr)
 refine aw<|bp<|gE<|aT<|af (.bytes (b9 l r))<|jd<|uX (kt (?_));refine gE<|aT<|af (.bytes (b9 l r))<|ig<|dU (kt (o4 ?_));refine aw<|bp<|aT<|bz<|af (.bytes (b9 l r))<|aY<|nW (zh hn) (by decide) (lR.mpr (ae (lb rfl) (aK hn.symm)))<|eg hX.g_BR<|cu (kt (?_));refine aw<|bp<|aT<|aV<|eg hX.g_len<|ak<|af (.bytes (b9 l r))<|aD ⟨trivial,nV (zh hn)<|aY<|x9 (kt (?_))⟩;refine aaE hn<|bw<|aw<|cD<|lW<|ak<|eg hX.g_BR<|ak<|bz<|af (.bytes (b9 l r))<|ee (lower:=some _) (upper:=some _)<|aY (ki (aY (ki (fG (zh hn)<|ak<|bz<|af (.bytes (b9 l r))<|ee (lower:=some _) (upper:=none)<|aY (ki (fG (zh hn)<|aD ⟨by exact aaE df<|fZ rfl,?_⟩))))));have c1:=vg (l:=b9 l r) 1 33;have c2:=iK (l:=b9 l r) 33;rw[show((1:Nat):Int)=1 from rfl,show((33:Nat):Int)=33 from rfl]at c1;rw[show((33:Nat):Int)=33 from rfl]at c2
 (refine aaE c1<|aaE c2 ?_)
 have e1:((b9 l r).drop 1).take (33 - 1)=l:=by
  exact aaE (A8 hl) rfl
 have e2:(b9 l r).drop 33=r:=by
  exact aaE (uG hl) rfl
 (refine aaE e1<|aaE e2 ?_);exact h
theorem qH(hz:b.length<=1024)(hb:∀c∈b,c=0∨c=1)(hc:c.length=32)(h:Q (.tup [.int 0,.bytes b,.bytes c]) σ):CallOk X 16 (.ref 228) [.bytes (bX b c)] σ Q:=by
 refine bk hX.f_parse λcode pm F=>?_;refine dQ F ["node"] (c7 ["node"] λvs hv=>?_) rfl λA L hA=>?_
 ·(apply ml hv;intro v;rfl)
 have hk:=yC b;have hn:(bX b c).length=(eT b).length+33:=by unfold bX;simp;exact hc
 have iX:cQ X σ (.ref 193):=by refine bk hX.f_dtk λx x F'=>?_;exact F'.keep
 refine aw<|bp<|gE<|aT<|af (.bytes (bX b c))<|jd<|uX (iH (?_));refine gE<|aT<|af (.bytes (bX b c))<|ig<|dU (iH (o4 ?_));refine aw<|bp<|aT<|bz<|af (.bytes (bX b c))<|aY<|nW (wd hz hk hn) (by decide) (JI hn)<|eg hX.g_BR<|cu (iH (?_));refine aw<|bp<|aT<|bz<|af (.bytes (bX b c))<|aY<|nW (wd hz hk hn) (by decide) (JI hn)<|eg hX.g_KV<|cu (iH (?_));refine aw<|bp<|aT<|aV<|eg hX.g_len<|ak<|af (.bytes (bX b c))<|aD ⟨trivial,nV (wd hz hk hn)<|aY<|Gn (iH (?_))⟩;have e:decide (((bX b c).length:Int)<=33)=false:=by exact aaE (propext EU)<|(λq=>j0.mpr (oY.mp q) (ae (dD hk.2 33) (aK hn.symm)))
 refine bQ e<|bw<|aw<|cD<|lW<|ak<|eg hX.g_KV<|ak<|aV<|eg hX.g_dtk<|ak<|bz<|af (.bytes (bX b c))<|ee (lower:=some _) (upper:=some _)<|aY (iH (Cu<|aY<|Bt (iH (fG (wd hz hk hn)<|aD ⟨iX,?_⟩))));have c1:=NU (l:=bX b c) 1 32 (by decide);have c2:=Oq (l:=bX b c) 32 (by decide);rw[show((1:Nat):Int)=1 from rfl,show((32:Nat):Int)=32 from rfl]at c1;rw[show((32:Nat):Int)=32 from rfl]at c2;refine aaE c1 ?_
 have e1:((bX b c).drop 1).take ((bX b c).length - 32 - 1)=eT b:=by
  refine aaE hn ?_;exact aaE (A8 (rfl)) rfl
 refine aaE e1<|bc (RG hX hz hb<|ak<|bz<|af (.bytes (bX b c))<|ee (lower:=some _) (upper:=none)<|Cu<|aY<|Bt (iH (fG (wd hz hk hn)<|aD ⟨by exact aaE df<|fZ rfl,?_⟩))) hA.mo;refine aaE c2 ?_
 have e2:(bX b c).drop ((bX b c).length - 32)=c:=by
  refine aaE hn ?_;exact aaE (uG (by simp)) rfl
 exact aaE e2<|h
end
noncomputable abbrev BD:=List (List UInt8×List UInt8)
noncomputable def BD.put:BD->List UInt8->List UInt8->BD
 |[],k,v=>[(k,v)]
 |(k',v')::l,k,v=>if k'=k then (k',v)::l else (k',v')::BD.put l k v
theorem KVs.value:∀{l:BD} {kvs:List (List UInt8×Value)},KVs l kvs->(∀b,l.lookup k=some b->∃t,valueAt kvs k=some (.bytes b.toArray t))/\(l.lookup k=none->valueAt kvs k=none)
 |[],_,h=>by
  exact aaE h<|⟨λb e=>(by exact be e),λx=>rfl⟩
 |(k',v)::l,_,h=>by
  obtain⟨t,r,rfl,h⟩:=h;obtain⟨h1,h2⟩:=KVs.value (k:=k) h
  by_cases e:k'=k
  ·clear h1 h2;subst e
   refine⟨λb e=>⟨t,?_⟩,λe=>?_⟩
   ·rw[List.lookup_cons_self]at e;(refine aaE (aq (bq e)) ?_)
    simp[valueAt]
   ·rw[List.lookup_cons_self]at e;exact bZ e
  ·have ek:(k==k')=false:=by exact aaE (propext cR)<|λq=>e q.symm
   have hv:valueAt ((k',Value.bytes v.toArray t)::r) k=valueAt r k:=by simp[valueAt,e]
   refine aaE hv<|⟨λb q=>h1 b ?_,λq=>h2 ?_⟩
   ·rw[cL,ek]at q;exact q
   ·rw[cL,ek]at q;exact q
theorem KVs.keys:∀{l:BD} {kvs:List (List UInt8×Value)},KVs l kvs->kvs.map (·.1)=l.map (·.1)
 |[],_,h=>by refine aaE h ?_;rfl
 |(k',v)::l,_,h=>by
  obtain⟨t,r,rfl,h⟩:=h
  (exact aaE eB<|aaE eB<|aaE (KVs.keys h) rfl)
theorem KVs.len(h:KVs l kvs):kvs.length=l.length:=by
 have:=bF List.length h.keys;simpa using this
theorem MO{k:List UInt8}{u v:Value}{r:List (List UInt8×Value)}(h:k ∉ r.map (·.1)):stored ((k,u)::r) k v=(k,v)::r:=by
 unfold stored
 (exact aaE (aA (by simp))<|aaE eB<|aaE (aA rfl)<|aaE (map_store_of_not_mem r k v h) rfl)
theorem ML{k k':List UInt8}{u v:Value}{r:List (List UInt8×Value)}(h:k'≠k):stored ((k',u)::r) k v=(k',u)::stored r k v:=by
 unfold stored;have e:List.any ((k',u)::r) (λkv=>decide (kv.1=k))=r.any λkv=>decide (kv.1=k):=by simp[h]
 refine aaE e ?_
 split
 ·(exact aaE eB<|aaE (ar h) rfl)
 ·rfl
theorem KVs.put{k b:List UInt8}{t:Tok}:∀{l:BD} {kvs:List (List UInt8×Value)},KVs l kvs->(l.map (·.1)).Nodup->KVs (l.put k b) (stored kvs k (.bytes b.toArray t))
 |[],_,h,_=>by
  obtain rfl:=h;exact(ey t ([]) rfl (by exact rfl))
 |(k',v)::l,_,h,hn=>by
  obtain⟨t',r,rfl,h⟩:=h;dsimp only[BD.put];rw[eB,sf]at hn
  split
  ·rename_i e
   subst e;refine aaE (MO (by rw[h.keys];exact hn.1)) ?_;exact(ey t r rfl h)
  ·rename_i e
   exact aaE (ML e)<|(ey t' _ rfl (KVs.put h hn.2))
theorem Go.setTrk(S:Sat X g σ s)(bf:σ a=some t)(k:Heap.SameBut a s.heap s'.heap)(h:TrkAt X.w g s'.heap a t')(f9:s'.os=s.os:=by rfl)(hg:s'.gens=s.gens:=by rfl):Go X aL g σ s g (σ.set a t') s':=by
 have jS:=(S.trk a t bf).1;have ne:∀b o,g b=some o->b≠a:=λb o e q=>by rw[q,jS]at e;exact be e
 have np:∀p∈X.tabs,p.2≠a:=λp hp q=>by have:=(S.tab p hp).2.1;rw[q,bf]at this;exact bZ this
 refine⟨⟨S.le,λb o e=>(k.2 b (ne b o e)).trans (S.in_ b o e),λb u e=>?_,λp hp=>?_⟩,.refl g,λ_ _ _ _=>rfl,λb o e _=>?_,f9,λb o e _=>?_,λb o e hb _ _=>?_,λp hp o vs e cZ=>⟨#[],?_⟩,by exact aaE hg<|bC _,λi x e _=>by exact aaE hg<|e,λi x e=>by rw[hg]at e;exact .inl e⟩
 ·unfold St.set at e
  split at e
  ·rename_i q;(refine aaE (aq (bq e)) ?_);exact aaE q<|⟨jS,h⟩
  ·rename_i q;exact⟨(S.trk b u e).1,(S.trk b u e).2.sameBut k q⟩
 ·refine iE (S.tab p hp) λe1 e2 e3 ps e4=>?_
  refine(mT e1 (by unfold St.set;exact aaE (ar (np p hp))<|e2) e3 ps (Ff e4 k ?_ (np p hp)))
  cases q:g p.1 with
  |none=>exact absurd q e3
  |some o=>exact ne _ o q
 ·unfold St.set
  split
  ·rename_i q;(refine aaE q<|aaE bf ?_);exact⟨λq=>(by exact bZ q),λq=>(by exact bZ q)⟩
  ·exact kb
 ·by_cases q:b=a
  ·clear bf k jS ne np;exact aaE q<|h.at
  ·exact⟨o,(k.2 b q).trans e⟩
 ·have q:b≠a:=λq=>by rw[q,bf]at hb;exact bZ hb
  exact .inl ((k.2 b q).trans e)
 ·(refine aaE (k.2 _ (np p hp))<|aaE e ?_);congr 1;obtain⟨c,d,dt,sl⟩:=o;clear e;refine aaE (aq cZ) ?_;simp
section
variable {X:Cx} {A:Around} {E:Value->Shared->Prop} {σ:St} {Q:AV->St->Prop} {a:Addr} {l:BD} {k:List UInt8}
theorem jC(S:Sat X g σ s)(h:σ a=some (.dict l)):∃kvs,s.heap.DictOf (bytesKind P0 X.w) a kvs/\KVs l kvs:=(S.trk a _ h).2
theorem qJ(bf:σ a=some (.dict l))(ha:a≠1)(h:Q (.bool (l.lookup k).isSome) σ):cU X A E (compareOp .In) (.bytes k) (.ref a) σ Q:=λg s v u S r r'=>by
 obtain⟨t,rfl⟩:=r;refine aaE r' ?_;refine ax (jC S bf) λkvs hd hk=>?_;refine wpAny_in_of (knd:=bytesKind P0 X.w) (k:=k) (qG P0 X.w k t) (by simpa [sysModules]using ha) hd.mapOf (Post.tok S .bool ?_)
 have e:(valueAt kvs k).isSome=(l.lookup k).isSome:=by
  obtain⟨h1,h2⟩:=hk.value (k:=k)
  cases q:l.lookup k with
  |none=>refine aaE (h2 q) ?_;rfl
  |some b=>obtain⟨t,e⟩:=h1 b q;refine aaE e ?_;rfl
 exact aaE e<|h
theorem fw(bf:σ a=some (.dict l))(hl:l.lookup k=some b)(h:Q (.bytes b) σ):cU X A E (subscriptTail value slice) (.ref a) (.bytes k) σ Q:=λg s v u S r r'=>by
 obtain⟨t,rfl⟩:=r';refine aaE r ?_;refine az λkk=>?_;refine ax (jC S bf) λkvs hd hk=>?_;obtain⟨t',e⟩:=(hk.value (k:=k)).1 b hl;exact kk<|qU hd.typeIs slot_dict_getitem.lookup (wpAny_getItem_of (knd:=bytesKind P0 X.w) (k:=k) (qG P0 X.w k t) hd.mapOf e (Post.tok S .bytes h))
theorem KVs.nodup{g:View}{s:Shared}{kvs:List (List UInt8×Value)}{l:BD}(hd:s.heap.DictOf (bytesKind P0 X.w) a kvs)(hk:KVs l kvs):(l.map (·.1)).Nodup:=by
 exact aaE (aq hk.keys)<|hd.choose_spec.choose_spec.choose_spec.2.2.2.2.2
theorem sx{P:Pv}{env:Env}{m:Mp}{o i:Expr}{pos:Pos}{b:List UInt8}{Q:Mp->St->Prop}(h:Ev X A E env m o σ λV ay=>V=.ref a/\Ev X A E env m i ay λW aS=>W=.bytes k/\∃l,aS a=some (.dict l)/\l.length<=65536/\Q m (aS.set a (.dict (BD.put l k b)))):
  As X A E P env m (.Subscript o i pos) (.bytes b) σ Q:=λg s v S F r=>by
 refine aaE (assign_Subscript ..)<|ag (eL (aB (h g s S F) (λov s₁ zz=>zz.rec λaJ V ay ai aX aR=>bY aR λdr aF=>?_) i2));clear aR;subst dr;refine ag (eL (aB (aF aJ s₁ ai.sat (F.go ai)) (λiv s₂ zz=>zz.rec λbj W aS aN dJ ba=>Ry ba λDC l bf hz hq=>?_) i2));clear ba;subst DC;clear zz;obtain⟨t,rfl⟩:=r;clear zz;obtain⟨t',rfl⟩:=dJ;refine aaE aX ?_;refine ax (jC aN.sat bf) λkvs hd hk=>?_;refine ag (d7 (ag (eL (wpAny_setItem_pairs (knd:=bytesKind P0 X.w) (k:=k) (qG P0 X.w k t') hd (λh' cZ hs=>wpAny_release ?_) (by(refine aaE hk.len<|aaE df ?_);exact kA hz)))));have hn:=KVs.nodup (g:=bj) hd hk;have bL:=Go.setTrk (s':={s₂ with heap:=h',toks:=s₂.toks+1}) aN.sat bf hs (t':=.dict (BD.put l k b)) (aE _ cZ (hk.put hn));have G:=(ai.trans aN).trans bL;exact⟨bj,m,_,G.any,F.go G,hq⟩
theorem vq(hX:Base X)(h:∀a,σ a=none->a≠1->Q (.ref a) (σ.set a (.dict []))):Ev X A E env m (.Dict [] [] pos) σ Q:=λg s S F=>by
 refine wpAny_Dict_empty ?_;have hf:=dG (a:=s.heap.objs.size) S (bC _);have kp:∀b o,s.heap.get? b=some o->(s.heap.push {cls:=.type "dict",data:=.dict #[]}).get? b=some o:=λb o e=>bJ _ e;have S':=S.keeps (s':={s with heap:=s.heap.push {cls:=.type "dict",data:=.dict #[]}}) kp
 have G:Go X aL g σ s g (σ.set s.heap.objs.size (.dict [])) {s with heap:=s.heap.push {cls:=.type "dict",data:=.dict #[]}}:=by
  refine⟨⟨S'.le,S'.in_,λb u e=>?_,λp hp=>?_⟩,.refl g,λ_ _ _ _=>rfl,λb o e _=>?_,.keeps kp rfl rfl⟩
  ·unfold St.set at e
   split at e
   ·rename_i q;(refine aaE (aq (bq e)) ?_);rw[q];exact(dP hf.1 ([]) (Heap.DictOf.new _) (by exact rfl))
   ·exact S'.trk b u e
  ·refine az λkk=>?_
   refine iE (S'.tab p hp) λe1 e2 e3 ps e4=>?_;exact kk<|(mT e1 (by unfold St.set;rw[ar (hf.2.2 p hp)];exact e2) e3 ps e4)
  ·unfold St.set
   rw[ar (kP (cC e))]
 refine Post.to G (aE (.ref _) (by exact rfl) (h _ hf.2.1 λq=>?_));refine ax (hX.lim _ (S.in_.le S.le)) λ_ hn _=>?_;have:=hn.lt;rw[q]at this;exact absurd this (aI rfl)
variable (bf:σ a=some (.dict l)) (ha:a≠1)
include bf ha
theorem Bq(hz:l.length<=65536)(h:Q (.int l.length) σ):fy X A E (.blt "len") [.ref a] σ Q:=λg s fv vs S r rl=>by
 obtain rfl:=r;obtain⟨v,us,rfl,r,rl⟩:=rl;obtain rfl:=rl;obtain rfl:=r;obtain⟨kvs,hd,hk⟩:=jC S bf;have e:=hk.len;exact call_len_dict (by simpa [sysModules]using ha) hd (by exact aaE e<|wF hz rfl) (by exact aaE e<|Post.tok S .int h)
theorem Bf(h:Q (.blt "dict.get") σ):pz X A E "get" (.ref a) σ Q:=λg s v pl S r=>by
 refine aaE r<|az λkk=>?_;refine ax (jC S bf) λkvs hd hk=>?_;refine jc (id hd) λo es ep ho hex x=>?_;refine kk<|getMethod_builtin hd.typeIs PySem.F.plainAttrs_dict PySem.F.slot_dict_get PySem.F.type_dict_get (λb e=>by cases e;exact(aE o ho hex.2.1)) ?_;exact(gZ g _ σ (.refl S) (by exact rfl) rfl h)
theorem Nn(h:Q (.blt "dict.pop") σ):pz X A E "pop" (.ref a) σ Q:=λg s v pl S r=>by
 refine aaE r<|az λkk=>?_;refine ax (jC S bf) λkvs hd hk=>?_;refine jc (id hd) λo es ep ho hex x=>?_;refine kk<|getMethod_builtin hd.typeIs PySem.F.plainAttrs_dict PySem.F.slot_dict_pop PySem.F.type_dict_pop (λb e=>by cases e;exact(aE o ho hex.2.1)) ?_;exact(gZ g _ σ (.refl S) (by exact rfl) rfl h)
theorem Bc(h:Q (match l.lookup k with|some b=>.bytes b|none=>D) σ):fy X A E (.blt "dict.get") [.ref a,.bytes k,D] σ Q:=λg s fv vs S r rl=>by
 refine aaE r ?_;obtain⟨v,us,rfl,r,rl⟩:=rl;obtain⟨u,ws,rfl,r',rl⟩:=rl;obtain⟨w,zs,rfl,w5,rl⟩:=rl;obtain rfl:=rl;refine aaE r ?_;obtain⟨t,rfl⟩:=r';obtain⟨kvs,hd,hk⟩:=jC S bf;refine call_meetsIn PySem.F.slot_dict_get hd.typeIs PySem.F.entry_dict_get (PySem.F.args_dict_get_3 _ _ _) (meets_dict_get_default (bytesKind P0 X.w) a (qG P0 X.w k t) (by simpa [sysModules]using ha) w) (aE _ hd.mapOf ?_);obtain⟨h1,h2⟩:=hk.value (k:=k)
 cases q:l.lookup k with
 |none=>
  rw[q]at h;exact aaE (h2 q)<|Post.tok S w5 h
 |some b=>
  rw[q]at h;obtain⟨t',e⟩:=h1 b q;exact aaE e<|Post.tok S .bytes h
end
noncomputable abbrev By:=List UInt8
inductive T
 |leaf (v:By)
 |kv (b:By) (t:T)
 |br (l r:T)
noncomputable def tG:T->Bool
 |.kv _ _=>true
 |_=>false
def ck(b:By):Prop:=∀c∈b,c=0∨c=1
noncomputable def WF:Nat->T->Prop
 |n,.leaf v=>n=0/\v≠[]
 |n,.kv b t=>b≠[]/\ck b/\tG t=false/\∃k,n=b.length+k/\WF k t
 |n,.br l r=>∃k,n=k+1/\WF k l/\WF k r
noncomputable def look:T->By->Option By
 |.leaf v,[]=>some v
 |.leaf _,_=>none
 |.kv b t,p=>if p.take b.length=b then look t (p.drop b.length)else none
 |.br _ _,[]=>none
 |.br l r,c::p=>if c=0 then look l p else look r p
theorem vM:∀{n:Nat} {t:T},WF n t->∃p v,p.length=n/\ck p/\look t p=some v
 |n,.leaf v,h=>(cy ([]) v h.1.symm (λx q=>(by cases q)) rfl)
 |n,.kv b t,h=>by
  refine az λkk=>?_;refine eE h λhb cz hk k e h=>?_;refine cP (vM h) λp v hp dC hl=>?_;refine kk<|(cy (b++p) v (by(exact aaE cw<|aaE hp<|aaE e rfl)) (λc hc=>?_) ?_)
  ·refine az λkk=>?_
   rcases jw.mp hc with q|q
   ·exact kk<|cz c q
   ·exact kk<|dC c q
  ·show(if (b++p).take b.length=b then look t ((b++p).drop b.length)else none)=some v
   (refine aaE lP<|aaE (aA rfl)<|aaE si ?_);exact hl
 |n,.br l r,h=>by
  refine az λkk=>?_;refine dp h λk e h1 h2=>?_;refine cP (vM h1) λp v hp dC hl=>?_;refine kk<|(cy (0::p) v (by(exact aaE cW<|aaE hp<|aaE e rfl)) (λc hc=>?_) ?_)
  ·refine az λkk=>?_
   rcases dm.mp hc with rfl|q
   ·exact kk<|.inl rfl
   ·exact kk<|dC c q
  ·show(if (0:UInt8)=0 then look l p else look r p)=some v
   exact aaE (aA rfl)<|hl
def Eqv(n:Nat)(t t':T):Prop:=∀p,p.length=n->ck p->look t p=look t' p
theorem Eqv.symm(h:Eqv n t t'):Eqv n t' t:=λp hp hb=>(h p hp hb).symm
theorem Cy(h:WF n (.br l r))(h':WF n (.kv b t))(e:Eqv n (.br l r) (.kv b t)):False:=by
 refine dp h λk ek h1 h2=>?_;refine eE h' λhb cz hk k' qd h3=>?_;refine cP (vM h1) λp v hp dC hl=>?_;refine cP (vM h2) λp' v' da DL eU=>?_
 clear h' cz qd;cases b with
 |nil=>exact hb rfl
 |cons c b=>
  have e0:=e (0::p) (by(exact aaE cW<|aaE hp<|aaE ek rfl)) λx hx=>by
   rcases dm.mp hx with rfl|q
   ·exact .inl rfl
   ·exact dC x q
  have e1:=e (1::p') (by(exact aaE cW<|aaE da<|aaE ek rfl)) λx hx=>by
   rcases dm.mp hx with rfl|q
   ·exact .inr rfl
   ·exact DL x q
  have l0:look (.br l r) (0::p)=some v:=by show(if (0:UInt8)=0 then look l p else look r p)=some v;exact aaE (aA rfl)<|hl
  have l1:look (.br l r) (1::p')=some v':=by show(if (1:UInt8)=0 then look l p' else look r p')=some v';exact aaE (ar (by decide))<|eU
  rw[l0]at e0;rw[l1]at e1
  have k0:((0:UInt8)::p).take (c::b).length=c::b:=by
   by_cases q:((0:UInt8)::p).take (c::b).length=c::b
   ·exact q
   ·have:look (.kv (c::b) t) (0::p)=none:=by dsimp only[look];exact aaE (ar q) rfl
    rw[this]at e0;exact bZ e0
  have k1:((1:UInt8)::p').take (c::b).length=c::b:=by
   by_cases q:((1:UInt8)::p').take (c::b).length=c::b
   ·exact q
   ·have:look (.kv (c::b) t) (1::p')=none:=by dsimp only[look];exact aaE (ar q) rfl
    rw[this]at e1;exact bZ e1
  rw[cW,nN]at k0 k1;have a:=(iB k0).1;have b:=(iB k1).1;rw[←a]at b;exact absurd b (by decide)
theorem mO(ha:ck a)(hb:ck b):ck (a++b):=λc hc=>by
 rcases jw.mp hc with q|q
 ·exact ha c q
 ·exact hb c q
theorem pa(hc:c=0∨c=1)(hb:ck b):ck (c::b):=λx hx=>by
 rcases dm.mp hx with rfl|q
 ·exact hc
 ·exact hb x q
theorem uW:look (.kv b t) (b++p)=look t p:=by
 show(if (b++p).take b.length=b then look t ((b++p).drop b.length)else none)=_
 (exact aaE lP<|aaE (aA rfl)<|aaE si rfl)
theorem NG(h:look (.kv b t) p=some v):p.take b.length=b/\look t (p.drop b.length)=some v:=by
 have e:look (.kv b t) p=if p.take b.length=b then look t (p.drop b.length)else none:=rfl;rw[e]at h
 split at h
 ·exact⟨by assumption,h⟩
 ·exact be h
theorem GW(h:WF n (.kv b t))(h':WF n (.kv b' t'))(e:Eqv n (.kv b t) (.kv b' t'))(hl:b.length<=b'.length):b=b':=by
 refine az λkk=>?_;refine eE h λhb cz hk k ek hw=>?_;refine eE h' λel HP hU k' qd iw=>?_;refine cP (vM iw) λp v hp dC Ei=>?_;have e0:=e (b'++p) (by(exact aaE cw<|aaE hp<|aaE qd rfl)) (mO HP dC);rw[uW,Ei]at e0;obtain⟨h1,_⟩:=NG e0;rw[List.take_append_of_le_length hl]at h1;refine kk ?_
 have tR:b'=b++b'.drop b.length:=by
  have:=(i0 b.length b').symm;rw[h1]at this;exact this
 cases hc:b'.drop b.length with
 |nil=>rw[hc,jX]at tR;exact tR.symm
 |cons x c=>
  exfalso;rw[hc]at tR
  have iX:k=(x::c).length+k':=by
   have:b'.length=b.length+(x::c).length:=by(exact aaE (aq cw)<|aaE (aq tR) rfl)
   exact Tz ek qd this
  have Y9:ck (x::c):=λy hy=>HP y (by exact aaE tR<|oK _ hy);have w9:WF k (.kv (x::c) t'):=(nZ (by simp) Y9 hU k' iX iw)
  have e2:Eqv k t (.kv (x::c) t'):=λq hq rM=>by
   have:=e (b++q) (by(exact aaE cw<|aaE hq<|aaE ek rfl)) (mO cz rM);rw[uW]at this
   (refine aaE this<|aaE tR ?_)
   show(if (b++q).take (b++x::c).length=b++x::c then look t' ((b++q).drop (b++x::c).length)else none)=(if q.take (x::c).length=x::c then look t' (q.drop (x::c).length)else none)
   (refine aaE cw<|aaE (List.take_length_add_append ..)<|aaE (List.drop_length_add_append ..) ?_)
   simp only[ER]
  clear h e e0;cases t with
  |leaf w=>have:=hw.1;rw[cW]at iX;exact Ue iX this
  |kv _ _=>cases hk
  |br l r=>exact Cy hw w9 e2
theorem Ce:∀{t t':T} {n:Nat},WF n t->WF n t'->Eqv n t t'->t=t'
 |.leaf v,.leaf v',n,h,h',e=>by
  have:=e [] h.1.symm (λx q=>by cases q);clear h' e;obtain rfl:=bq this;rfl
 |.leaf v,.kv b t,n,h,h',e=>by
  refine eE h' λhb x x k ek x=>?_
  clear h' e;cases b with
  |nil=>exact absurd rfl hb
  |cons _ _=>have:=h.1;rw[cW]at ek;exact z1 this.symm (ek.trans (fq _ 1 k))
 |.leaf v,.br l r,n,h,h',e=>by refine ax h' λk ek x=>?_;have:=h.1;exact z1 this.symm ek
 |.kv b t,.leaf v,n,h',h,e=>by
  refine eE h' λhb x x k ek x=>?_
  clear h' e;cases b with
  |nil=>exact absurd rfl hb
  |cons _ _=>have:=h.1;rw[cW]at ek;exact z1 this.symm (ek.trans (fq _ 1 k))
 |.br l r,.leaf v,n,h',h,e=>by refine ax h' λk ek x=>?_;have:=h.1;exact z1 this.symm ek
 |.kv b t,.br l r,n,h,h',e=>(Cy h' h e.symm).elim
 |.br l r,.kv b t,n,h,h',e=>(Cy h h' e).elim
 |.br l r,.br l' r',n,h,h',e=>by
  refine dp h λk ek h1 h2=>?_;refine dp h' λk' qd h3 h4=>?_;have:=Jz ek qd;subst this
  have e1:=Ce h1 h3 λp hp hb=>by
   have:=e (0::p) (by(exact aaE cW<|aaE hp<|aaE ek rfl)) (pa (.inl rfl) hb);exact this
  have e2:=Ce h2 h4 λp hp hb=>by
   have:=e (1::p) (by(exact aaE cW<|aaE hp<|aaE ek rfl)) (pa (.inr rfl) hb);exact this
  (exact aaE e1<|aaE e2 rfl)
 |.kv b t,.kv b' t',n,h,h',e=>by
  have mA:b=b':=by
   rcases qF b.length b'.length with q|q
   ·exact GW h h' e q
   ·exact(GW h' h e.symm q).symm
  subst mA;refine eE h λhb cz hk k ek hw=>?_;refine eE h' λx x x k' qd iw=>?_;have:=r8 (qd.symm.trans ek);subst this
  have:=Ce hw iw λp hp dC=>by
   have:=e (b++p) (by(exact aaE cw<|aaE hp<|aaE ek rfl)) (mO cz dC);rw[uW,uW]at this;exact this
  exact aaE this rfl
noncomputable def cn:By->By->Nat
 |x::a,y::b=>if x=y then cn a b+1 else 0
 |_,_=>0
noncomputable def mX(b:By):T->T
 |.kv b' t=>.kv (b++b') t
 |t=>.kv b t
noncomputable def ku(p v:By)(c:Nat):T:=if p.length=c+1 then .leaf v else .kv (p.drop (c+1)) (.leaf v)
noncomputable def ji(b:By)(t:T)(c:Nat):T:=if b.length=c+1 then t else .kv (b.drop (c+1)) t
noncomputable def kr(b:By)(t:T)(p v:By)(c:Nat):T:=if (p.drop c).take 1=[1]then .br (ji b t c) (ku p v c)else .br (ku p v c) (ji b t c)
noncomputable def mW(b:By)(t:T)(p v:By)(c:Nat):T:=if c=0 then kr b t p v c else .kv (b.take c) (kr b t p v c)
noncomputable def upd:T->By->By->Option T
 |.leaf _,_,v=>if v=[]then none else some (.leaf v)
 |.kv b t,p,v=>if p.take b.length=b then (upd t (p.drop b.length) v).map (mX b)else if v=[]then some (.kv b t)else some (mW b t p v (cn b p))
 |.br l r,p,v=>if p.take 1=[0]then (match upd l (p.drop 1) v with|some l'=>some (.br l' r)|none=>some (mX [1] r))else (match upd r (p.drop 1) v with|some r'=>some (.br l r')|none=>some (mX [0] l))
theorem B5(hb:b≠[])(cz:ck b)(h:WF n t):WF (b.length+n) (mX b t):=by
 cases t with
 |leaf v=>exact(nZ hb cz rfl n rfl h)
 |kv b' t=>
  refine eE h λh1 h2 h3 k e h4=>?_;exact(nZ (by simp[hb]) (mO cz h2) h3 k (by(refine aaE cw<|aaE e ?_);exact UL e) h4)
 |br l r=>exact(nZ hb cz rfl n rfl h)
theorem ye(p:By):look (mX b t) p=look (.kv b t) p:=by
 cases t with
 |leaf v=>rfl
 |br l r=>rfl
 |kv b' t=>
  show(if p.take (b++b').length=b++b' then look t (p.drop (b++b').length)else none)=(if p.take b.length=b then (if (p.drop b.length).take b'.length=b' then look t ((p.drop b.length).drop b'.length)else none)else none)
  by_cases h:p.take b.length=b
  ·refine aaE (aA h) ?_
   have e:p=b++p.drop b.length:=by have:=(i0 b.length p).symm;rw[h]at this;exact this
   generalize p.drop b.length=q at e ⊢;clear h;refine aaE e ?_
   (refine aaE cw<|aaE (List.take_length_add_append ..)<|aaE (List.drop_length_add_append ..) ?_)
   simp only[ER]
  ·rw[ar h,ar]
   intro q;apply h;have:=bF (List.take b.length) q;rw[oR,cw,gS (bB _ _),lP]at this;exact this
theorem yP:∀(a b:By),cn a b<=a.length/\cn a b<=b.length/\a.take (cn a b)=b.take (cn a b)
 |[],b=>by simp[cn]
 |x::a,[]=>by simp[cn]
 |x::a,y::b=>by
  refine ei (yP a b) λh1 h2 h3=>?_;dsimp only[cn]
  split
  ·rename_i e;subst e
   refine⟨by simp;exact h1,by simp;exact h2,by(exact aaE nN<|aaE nN<|aaE h3 rfl)⟩
  ·simp
theorem BP:∀{a b:By},cn a b<a.length->cn a b<b.length->a[cn a b]?≠b[cn a b]?
 |[],b,h,_=>by cases h
 |x::a,[],_,h=>by cases h
 |x::a,y::b,h1,h2=>by
  dsimp only[cn]at h1 h2 ⊢
  split
  ·rename_i e
   rw[aA e]at h1 h2;rw[List.getElem?_cons_succ,List.getElem?_cons_succ];exact BP (by simpa using h1) (by simpa using h2)
  ·rename_i e
   simpa using e
theorem GY(h:cn a b=a.length):b.take a.length=a:=by
 have:=(yP a b).2.2;rw[h,xx]at this;exact this.symm
noncomputable def WC(n:Nat)(t:T)(p v:By):Option T->Prop
 |none=>v=[]/\∀p',p'.length=n->ck p'->p'≠p->look t p'=none
 |some t'=>WF n t'/\∀p',p'.length=n->ck p'->look t' p'=if p'=p then (if v=[]then none else some v)else look t p'
theorem ij(b:By)(t:T)(p:By):look (.kv b t) p=if p.take b.length=b then look t (p.drop b.length)else none:=rfl
theorem g6(l r:T)(c:UInt8)(p:By):look (.br l r) (c::p)=if c=0 then look l p else look r p:=rfl
theorem vr(x d:UInt8)(t:T)(q:By):look (.kv [x] t) (d::q)=if d=x then look t q else none:=by
 refine aaE (ij ..) ?_;show(if [d]=[x]then look t q else none)=_;simp only[nT,and_true]
theorem GX(t:T)(q:By):look (.kv [] t) q=look t q:=by rw[ij];exact aA rfl
theorem sp(a b:By)(t:T)(p:By):look (.kv (a++b) t) p=look (.kv a (.kv b t)) p:=ye (b:=a) (t:=.kv b t) p
theorem QW(hb:ck b2)(hk:tG t=false)(hw:WF k t):WF (b2.length+k) (ji (a++x::b2) t a.length)/\∀q,look (ji (a++x::b2) t a.length) q=look (.kv b2 t) q:=by
 have hd:(a++x::b2).drop (a.length+1)=b2:=by(refine aaE (aq kN)<|aaE si ?_);rfl
 unfold ji
 first|(refine aaE hd ?_;done)|(refine aq (hd)▸?_)|rw[hd]
 split
 ·rename_i h
  have:=oI (by rw[cw,cW]at h;exact IY h);clear hb hd h;subst this;exact⟨by simpa using hw,λq=>(GX t q).symm⟩
 ·rename_i h
  refine⟨(nZ (λe=>h (by clear hb hd h;subst e;simp)) hb hk k rfl hw),λq=>rfl⟩
theorem QV(hb:ck p2)(hv:v≠[]):WF p2.length (ku (a++y::p2) v a.length)/\∀q,q.length=p2.length->look (ku (a++y::p2) v a.length) q=if q=p2 then some v else none:=by
 have hd:(a++y::p2).drop (a.length+1)=p2:=by(refine aaE (aq kN)<|aaE si ?_);rfl
 unfold ku
 first|(refine aaE hd ?_;done)|(refine aq (hd)▸?_)|rw[hd]
 split
 ·rename_i h
  have:=oI (by rw[cw,cW]at h;exact IY h);clear hb hd h;subst this;refine⟨⟨rfl,hv⟩,λq hq=>?_⟩;have:=oI hq;clear hq;refine aaE this<|aaE (aA rfl) ?_;rfl
 ·rename_i h
  refine⟨⟨λe=>h (by clear hb hd h;subst e;simp),hb,rfl,0,rfl,rfl,hv⟩,λq hq=>?_⟩
  first|((refine aaE (ij ..)<|aaE (aq hq)<|aaE xx<|aaE List.drop_length ?_);done)|(refine aq (ij)▸?_;refine(hq)▸?_;refine aq (xx)▸?_;refine aq (List.drop_length)▸?_)|(refine aaE (ij ..)<|aaE (aq hq)<|aaE xx<|aaE List.drop_length ?_)
  by_cases e:q=p2
  ·rw[aA e,aA e];rfl
  ·first|(rw[ar e,ar e];done)|(refine aq (ar e)▸?_;refine aq (ar e)▸?_)|rw[ar e,ar e]
theorem Ph(h:WF n (.kv b t))(hp:p.length=n)(dC:ck p)(hm:p.take b.length≠b)(hv:v≠[]):
  WF n (mW b t p v (cn b p))/\∀p',p'.length=n->ck p'->look (mW b t p v (cn b p)) p'=if p'=p then some v else look (.kv b t) p':=by
 obtain⟨hb,cz,hk,k,ek,hw⟩:=h;obtain⟨c1,c2,c3⟩:=yP b p
 have hc:cn b p<b.length:=by
  rcases uR (cn b p) b.length with q|q
  ·exact q
  ·exact absurd (GY (uC c1 q)) hm
 have dA:=bT hc (ae (bB _ _) (aK (ek.symm.trans hp.symm)));have nj:=BP hc dA;generalize jU:cn b p=c at *;have eb:b=b.take c++b[c]::b.drop (c+1):=by(exact aaE (aq (ET hc))<|aaE (i0 ..) rfl)
 have ep:p=p.take c++p[c]::p.drop (c+1):=by(exact aaE (aq (ET dA))<|aaE (i0 ..) rfl)
 rw[hZ hc,hZ dA]at nj;have lD:b[c]≠p[c]:=λe=>nj (by exact aaE e rfl);have hx:=cz _ (List.getElem_mem hc);have hy:=dC _ (List.getElem_mem dA);have iZ:(b.take c).length=c:=by exact aaE jW<|JF hc
 have Za:ck (b.take c):=λz hz=>cz z (E7 hz);have Aa:ck (b.drop (c+1)):=λz hz=>cz z (uw hz);have uf:ck (p.drop (c+1)):=λz hz=>dC z (uw hz);rw[←c3]at ep;generalize b[c]=x at *;generalize p[c]=y at *;generalize b.take c=a at *;generalize b.drop (c+1)=b2 at *;generalize p.drop (c+1)=p2 at *;clear nj c3 hc dA c1 c2 jU;subst eb ep iZ;have hlen:p2.length=b2.length+k:=by simp only[cw,cW]at ek hp;exact i8 (r8 (n:=_) (hp.trans (ek.trans ((kO _ (_+1) _).trans (bF (_+·) (Nat.succ_add _ _))))))
 obtain⟨o1,o2⟩:=QW (a:=a) (x:=x) Aa hk hw;obtain⟨v1,v2⟩:=QV (a:=a) (y:=y) uf hv;rw[←hlen]at o1;have n10:¬(1:UInt8)=0:=by decide
 have mv:WF (p2.length+1) (kr (a++x::b2) t (a++y::p2) v a.length)/\tG (kr (a++x::b2) t (a++y::p2) v a.length)=false/\
   ∀d q,(d=0∨d=1)->q.length=p2.length->look (kr (a++x::b2) t (a++y::p2) v a.length) (d::q)=if d=y then (if q=p2 then some v else none)else look (.kv b2 t) q:=by
  unfold kr
  first|((refine aaE si<|aaE (show(y::p2).take 1=[y]from rfl) ?_);done)|(refine aq (si)▸?_;refine aq (show(y::p2).take 1=[y]from rfl)▸?_)|rw[si,show(y::p2).take 1=[y]from rfl]
  rcases hy with rfl|rfl
  ·first|(refine aaE (ar (λz=>n10 (iB z).1.symm)) ?_;done)|(refine aq (ar (λz=>n10 (iB z).1.symm))▸?_)|rw[ar (λz=>n10 (iB z).1.symm)]
   refine⟨⟨_,rfl,v1,o1⟩,rfl,λd q hd hq=>?_⟩
   first|((exact aaE (g6 ..)<|aaE (v2 q hq)<|aaE (o2 ..) rfl);done)|(refine aq (g6)▸?_;refine aq (v2 q hq)▸?_;refine aq (o2)▸?_)|rw[g6,v2 q hq,o2]
  ·first|(refine aaE (aA rfl) ?_;done)|(refine aq (aA rfl)▸?_)|rw[aA rfl]
   refine⟨⟨_,rfl,o1,v1⟩,rfl,λd q hd hq=>?_⟩
   first|((refine aaE (g6 ..)<|aaE (v2 q hq)<|aaE (o2 ..) ?_);done)|(refine aq (g6)▸?_;refine aq (v2 q hq)▸?_;refine aq (o2)▸?_)|(refine aaE (g6 ..)<|aaE (v2 q hq)<|aaE (o2 ..) ?_)
   rcases hd with rfl|rfl
   ·first|(rw[aA rfl,ar (λz=>n10 z.symm)];done)|(refine aq (aA rfl)▸?_;refine aq (ar (λz=>n10 z.symm))▸?_)|rw[aA rfl,ar (λz=>n10 z.symm)]
   ·first|(rw[ar n10,aA rfl];done)|(refine aq (ar n10)▸?_;refine aq (aA rfl)▸?_)|rw[ar n10,aA rfl]
 obtain⟨s1,s2,s3⟩:=mv
 have xa:∀q,look (mW (a++x::b2) t (a++y::p2) v a.length) q=look (.kv a (kr (a++x::b2) t (a++y::p2) v a.length)) q:=λq=>by
  unfold mW
  split
  ·rename_i h
   have:=oI h;subst this;exact(GX _ q).symm
  ·first|(exact aaE lP rfl;done)|(refine aq (lP)▸?_)|rw[lP]
 refine⟨?_,λp' da el=>?_⟩
 ·have hn:n=a.length+(p2.length+1):=by simp only[cw,cW]at hp;exact hp.symm
  unfold mW
  split
  ·rename_i h
   have:=oI h;subst this;refine aaE hn ?_;simpa using s1
  ·rename_i h
   first|(refine aaE lP ?_;done)|(refine aq (lP)▸?_)|rw[lP]
   exact⟨λe=>h (by refine aaE e ?_;rfl),Za,s2,_,hn,s1⟩
 ·first|((refine aaE (xa ..)<|aaE (ij ..)<|aaE (sp ..)<|aaE (ij (b:=a) ..) ?_);done)|(refine aq (xa)▸?_;refine aq (ij)▸?_;refine aq (sp)▸?_;refine aq (ij (b:=a))▸?_)|(refine aaE (xa ..)<|aaE (ij ..)<|aaE (sp ..)<|aaE (ij (b:=a) ..) ?_)
  by_cases ht:p'.take a.length=a
  ·first|((refine aaE (aA ht)<|aaE (aA ht) ?_);done)|(refine aq (aA ht)▸?_;refine aq (aA ht)▸?_)|rw[aA ht,aA ht]
   have e:p'=a++p'.drop a.length:=by have:=(i0 a.length p').symm;rw[ht]at this;exact this
   generalize p'.drop a.length=r at e ⊢;subst e
   cases r with
   |nil=>simp only[cw,cW,oP]at hp da;exact z1 (r8 (da.trans hp.symm)) rfl
   |cons d q=>
    have hq:q.length=p2.length:=by simp only[cw,cW]at hp da;exact i8 (r8 (da.trans hp.symm))
    have hd:=el d (oK _ cV)
    first|(refine aaE (s3 d q hd hq) ?_;done)|(refine aq (s3 d q hd hq)▸?_)|rw[s3 d q hd hq]
    have e1:look (.kv (x::b2) t) (d::q)=if d=x then look (.kv b2 t) q else none:=by
     first|((exact aaE (show x::b2=[x]++b2 from rfl)<|aaE (sp ..)<|aaE (vr ..) rfl);done)|(refine aq (show x::b2=[x]++b2 from rfl)▸?_;refine aq (sp)▸?_;refine aq (vr)▸?_)|rw[show x::b2=[x]++b2 from rfl,sp,vr]
    first|(refine aaE e1 ?_;done)|(refine aq (e1)▸?_)|rw[e1]
    simp only[ER,nT]
    by_cases qe:d=y
    ·clear hy hp dC hm v1 v2 s1 s2 s3 xa;subst qe
     have Ej:¬d=x:=λz=>lD z.symm;simp only[true_and,if_true,Ej,j7]
    ·first|(rw[ar qe,ar (λz=>qe z.1),aA];done)|(refine aq (ar qe)▸?_;refine aq (ar (λz=>qe z.1))▸?_;refine aq (aA)▸?_)|rw[ar qe,ar (λz=>qe z.1),aA]
     clear hb cz ek hp dC hm o1 o2 v1 v2 s1 s2 s3 xa da el ht e1;rcases hx with rfl|rfl<;>rcases hy with rfl|rfl<;>rcases hd with rfl|rfl<;>first|rfl|exact absurd rfl qe|exact absurd rfl lD
  ·first|(rw[ar ht,ar ht,ar];done)|(refine aq (ar ht)▸?_;refine aq (ar ht)▸?_;refine aq (ar)▸?_)|rw[ar ht,ar ht,ar]
   intro e;subst e;rw[lP]at ht;exact ht rfl
theorem l5:∀{t:T} {n:Nat} {p v:By},WF n t->p.length=n->ck p->WC n t p v (upd t p v)
 |.leaf w,n,p,v,h,hp,dC=>by
  obtain⟨rfl,hw⟩:=h;have:=oI hp;subst this;dsimp only[upd]
  by_cases hv:v=[]
  ·exact aaE (aA hv)<|⟨hv,λp' da _ bR=>absurd (oI da) bR⟩
  ·refine aaE (ar hv)<|⟨⟨rfl,hv⟩,λp' da _=>?_⟩
   have:=oI da;subst this
   (refine aaE (aA rfl)<|aaE (ar hv) ?_);rfl
 |.kv b t,n,p,v,h,hp,dC=>by
  dsimp only[upd]
  by_cases hm:p.take b.length=b
  ·refine aaE (aA hm)<|eE h λhb cz hk k ek hw=>?_
   have e:p=b++p.drop b.length:=by have:=(i0 b.length p).symm;rw[hm]at this;exact this
   generalize hq:p.drop b.length=q at e ⊢;have Ab:q.length=k:=by have:=bF List.length e;rw[cw]at this;exact r8 (this.symm.trans (hp.trans ek))
   have rM:ck q:=λc hc=>dC c (by exact aaE e<|oK _ hc);have ih:=l5 (v:=v) hw Ab rM
   have part:∀p':By,p'.length=n->p'≠p->p'.take b.length=b->p'.drop b.length≠q:=λp' _ bR ht hd=>bR (by
    (refine aaE e<|aaE (aq hd) ?_);have:=(i0 b.length p').symm;rw[ht]at this;exact this)
   cases hu:upd t q v with
   |none=>
    rw[hu]at ih;refine⟨ih.1,λp' da el bR=>?_⟩;refine aaE (ij ..) ?_
    split
    ·rename_i ht
     exact ih.2 _ (by exact aaE dE<|wg ek da) (λc hc=>el c (uw hc)) (part p' da bR ht)
    ·rfl
   |some t'=>
    rw[hu]at ih;refine⟨by exact aaE ek<|B5 hb cz ih.1,λp' da el=>?_⟩
    (refine aaE (ye ..)<|aaE (ij ..) ?_)
    by_cases Ac:p'=p
    ·(exact aaE (aA Ac)<|aaE Ac<|aaE (aA hm)<|aaE hq<|aaE (ih.2 q Ab rM)<|aaE (aA rfl) rfl)
    ·(refine aaE (ar Ac)<|aaE (ij ..) ?_)
     split
     ·rename_i ht
      refine aaE (ih.2 _ (by rw[dE];exact wg ek da) (λc hc=>el c (uw hc))) ?_;exact aaE (ar (part p' da Ac ht)) rfl
     ·rfl
  ·refine aaE (ar hm) ?_
   by_cases hv:v=[]
   ·refine aaE (aA hv)<|⟨h,λp' da el=>?_⟩
    by_cases e:p'=p
    ·(exact aaE (aA e)<|aaE (aA hv)<|aaE e<|aaE (ij ..)<|aaE (ar hm) rfl)
    ·exact aaE (ar e) rfl
   ·refine aaE (ar hv) ?_
    obtain⟨h1,h2⟩:=Ph h hp dC hm hv;refine⟨h1,λp' da el=>?_⟩
    (exact aaE (h2 p' da el)<|aaE (ar hv) rfl)
 |.br l r,n,p,v,h,hp,dC=>by
  refine dp h λk ek h1 h2=>?_
  cases p with
  |nil=>rw[oP]at hp;exact z1 hp ek
  |cons c q=>
   have hq:q.length=k:=by rw[cW]at hp;exact nB ek hp
   have rM:ck q:=λx hx=>dC x (cj _ hx);have hc:=dC c cV;dsimp only[upd]
   (refine aaE (show(c::q).drop 1=q from rfl)<|aaE (show(c::q).take 1=[c]from rfl) ?_)
   have za:∀{d:UInt8} {q':By},(d::q').length=n->ck (d::q')->(d=0∨d=1)/\q'.length=k/\ck q':=λ{d q'} hl hb=>⟨hb d cV,by rw[cW]at hl;exact nB ek hl,λx hx=>hb x (cj _ hx)⟩;have n10:¬(1:UInt8)=0:=by decide
   clear hp dC;rcases hc with rfl|rfl
   ·refine aaE (aA rfl) ?_
    have ih:=l5 (v:=v) h1 hq rM
    cases hu:upd l q v with
    |some l'=>
     rw[hu]at ih;refine⟨⟨k,ek,ih.1,h2⟩,λp' da el=>?_⟩
     cases p' with
     |nil=>rw[oP]at da;exact z1 da ek
     |cons d q'=>
      refine ei (za da el) λhd eU rN=>?_
      (refine aaE (g6 ..)<|aaE (g6 ..) ?_)
      rcases hd with rfl|rfl
      ·(refine aaE (aA rfl)<|aaE (aA rfl)<|aaE (ih.2 q' eU rN) ?_)
       simp only[nT,true_and]
      ·rw[ar n10,ar n10,ar]
       intro q;exact n10 (iB q).1
    |none=>
     rw[hu]at ih;refine⟨by(refine aaE ek<|aaE (eD ..) ?_);exact B5 (b:=[1]) (by simp) (λc hc=>.inr (by simpa using hc)) h2,λp' da el=>?_⟩
     cases p' with
     |nil=>rw[oP]at da;exact z1 da ek
     |cons d q'=>
      refine ei (za da el) λhd eU rN=>?_
      (refine aaE (ye ..)<|aaE (vr ..)<|aaE (g6 ..) ?_)
      rcases hd with rfl|rfl
      ·(refine aaE (ar (λz=>n10 z.symm))<|aaE (aA rfl) ?_)
       by_cases e:q'=q
       ·(exact aaE (aA (by rw[e]))<|aaE (aA ih.1) rfl)
       ·refine aaE (ar (by intro z;exact e (iB z).2)) ?_
        exact(ih.2 q' eU rN e).symm
      ·rw[aA rfl,ar n10,ar (by intro z;exact n10 (iB z).1)]
   ·refine aaE (ar (by intro z;exact n10 (iB z).1)) ?_
    have ih:=l5 (v:=v) h2 hq rM
    cases hu:upd r q v with
    |some r'=>
     rw[hu]at ih;refine⟨⟨k,ek,h1,ih.1⟩,λp' da el=>?_⟩
     cases p' with
     |nil=>rw[oP]at da;exact z1 da ek
     |cons d q'=>
      refine ei (za da el) λhd eU rN=>?_
      (refine aaE (g6 ..)<|aaE (g6 ..) ?_)
      rcases hd with rfl|rfl
      ·rw[aA rfl,aA rfl,ar]
       intro q;exact n10 (iB q).1.symm
      ·rw[ar n10,ar n10,ih.2 q' eU rN]
       simp only[nT,true_and]
    |none=>
     rw[hu]at ih;refine⟨by(refine aaE ek<|aaE (eD ..) ?_);exact B5 (b:=[0]) (by simp) (λc hc=>.inl (by simpa using hc)) h1,λp' da el=>?_⟩
     cases p' with
     |nil=>rw[oP]at da;exact z1 da ek
     |cons d q'=>
      refine ei (za da el) λhd eU rN=>?_
      (refine aaE (ye ..)<|aaE (vr ..)<|aaE (g6 ..) ?_)
      rcases hd with rfl|rfl
      ·rw[aA rfl,aA rfl,ar (by intro z;exact n10 (iB z).1.symm)]
      ·rw[ar n10,ar n10]
       by_cases e:q'=q
       ·(exact aaE (aA (by rw[e]))<|aaE (aA ih.1) rfl)
       ·refine aaE (ar (by intro z;exact e (iB z).2)) ?_
        exact(ih.2 q' eU rN e).symm
noncomputable def Named(N:BD):T->By->Prop
 |.leaf v,h=>N.lookup (fi v)=some h
 |.kv b t,h=>∃h',Named N t h'/\N.lookup (bX b h')=some h
 |.br l r,h=>∃hl hr,Named N l hl/\Named N r hr/\N.lookup (b9 hl hr)=some h
def BD.Sub(N N':BD):Prop:=∀k v,N.lookup k=some v->N'.lookup k=some v
theorem BD.Sub.refl(N:BD):BD.Sub N N:=λx x h=>h
theorem BD.Sub.trans(x:BD.Sub N N')(y:BD.Sub N' Zb):BD.Sub N Zb:=λk v h=>y k v (x k v h)
theorem Named.mono(s:BD.Sub N N'):∀{t:T} {h:By},Named N t h->Named N' t h
 |.leaf v,h,x=>s _ _ x
 |.kv b t,h,x=>by refine ax x λh' x1 x2=>?_;exact(aE h' (x1.mono s) (s _ _ x2))
 |.br l r,h,x=>by refine cP x λhl hr x1 x2 x3=>?_;exact(cy hl hr (x1.mono s) (x2.mono s) (s _ _ x3))
theorem Named.fn:∀{t:T} {h h':By},Named N t h->Named N t h'->h=h'
 |.leaf v,h,h',x,y=>by have:=x.symm.trans y;(refine aaE (bq this) ?_);rfl
 |.kv b t,h,h',x,y=>by
  refine ax x λa x1 x2=>?_;refine ax y λa' y1 y2=>?_;have:=x1.fn y1;clear y1;subst this;have:=x2.symm.trans y2;(first|exact be this|exact bZ this|exact gy this|exact gN this|(clear y y2;refine aaE (bq this) ?_)|subst this|cases this);rfl
 |.br l r,h,h',x,y=>by
  refine cP x λa c x1 x2 x3=>?_;refine cP y λa' c' y1 y2 y3=>?_;have:=x1.fn y1;clear y1;subst this;have:=x2.fn y2;clear y2;subst this;have:=x3.symm.trans y3;(first|exact be this|exact bZ this|exact gy this|exact gN this|(clear y y3;refine aaE (bq this) ?_)|subst this|cases this);rfl
structure NmOk(N:BD):Prop where
 len:∀k h,N.lookup k=some h->h.length=32
 blank:∀k h,N.lookup k=some h->h≠blank
 inj:∀k k' h,N.lookup k=some h->N.lookup k'=some h->k=k'
def nE(N D:BD):Prop:=∀h x,D.lookup h=some x->N.lookup x=some h
noncomputable def K(N D:BD):T->By->By->Prop
 |.leaf v,h,_=>N.lookup (fi v)=some h/\D.lookup h=some (fi v)
 |.kv b t,h,p=>∃h',Named N t h'/\N.lookup (bX b h')=some h/\D.lookup h=some (bX b h')/\(p.take b.length=b->K N D t h' (p.drop b.length))
 |.br l r,h,p=>∃hl hr,Named N l hl/\Named N r hr/\N.lookup (b9 hl hr)=some h/\D.lookup h=some (b9 hl hr)/\(if p.take 1=[0]then K N D l hl (p.drop 1)else K N D r hr (p.drop 1))
theorem K.named:∀{t:T} {h p:By},K N D t h p->Named N t h
 |.leaf v,h,p,x=>x.1
 |.kv b t,h,p,x=>by refine dp x λh' x1 x2 y=>?_;exact(aE h' x1 x2)
 |.br l r,h,p,x=>by refine j8 x λhl hr x1 x2 x3 y=>?_;exact(cy hl hr x1 x2 x3)
theorem K.mono(s:BD.Sub N N')(d:BD.Sub D D'):∀{t:T} {h p:By},K N D t h p->K N' D' t h p
 |.leaf v,h,p,x=>⟨s _ _ x.1,d _ _ x.2⟩
 |.kv b t,h,p,x=>by refine kX x λh' x1 x2 x3 x4=>?_;exact(jG h' (x1.mono s) (s _ _ x2) (d _ _ x3) (λq=>(x4 q).mono s d))
 |.br l r,h,p,x=>by
  refine pf x λhl hr x1 x2 x3 x4 x5=>?_;refine(qP hl hr (x1.mono s) (x2.mono s) (s _ _ x3) (d _ _ x4) ?_)
  split
  ·rename_i q;rw[aA q]at x5;exact x5.mono s d
  ·rename_i q;rw[ar q]at x5;exact x5.mono s d
noncomputable def Full(N D:BD):T->By->List By->Prop
 |.leaf v,h,L=>N.lookup (fi v)=some h/\D.lookup h=some (fi v)/\L=[fi v]
 |.kv b t,h,L=>∃h' L',Full N D t h' L'/\N.lookup (bX b h')=some h/\D.lookup h=some (bX b h')/\L=bX b h'::L'
 |.br l r,h,L=>∃hl hr Ll Lr,Full N D l hl Ll/\Full N D r hr Lr/\N.lookup (b9 hl hr)=some h/\D.lookup h=some (b9 hl hr)/\L=b9 hl hr::(Ll++Lr)
theorem Full.named:∀{t:T} {h:By} {L:List By},Full N D t h L->Named N t h
 |.leaf v,h,L,x=>x.1
 |.kv b t,h,L,x=>by refine cP x λh' L' x1 x2 y=>?_;exact(aE h' x1.named x2)
 |.br l r,h,L,x=>by refine lT x λhl hr Ll Lr x1 x2 x3 y=>?_;exact(cy hl hr x1.named x2.named x3)
theorem Named.len(hN:NmOk N):∀{t:T} {h:By},Named N t h->h.length=32
 |.leaf v,h,x=>hN.len _ _ x
 |.kv b t,h,x=>by refine ax x λh' y x2=>?_;exact hN.len _ _ x2
 |.br l r,h,x=>by refine cP x λhl hr y y x3=>?_;exact hN.len _ _ x3
noncomputable def fA:T->Prop
 |.leaf v=>v.length<=16
 |.kv _ t=>fA t
 |.br l r=>fA l/\fA r
section
variable {X:Cx} {σ:St} (hX:Base X)
include hX
theorem sy:cQ X σ (.ref 228):=by refine bk hX.f_parse λx x F'=>?_;exact F'.keep
theorem yr:cQ X σ (.ref 256):=by refine bk hX.f_gtn λx x F'=>?_;exact F'.keep
theorem yQ{a:Addr}{h:By}{L:List By}{k:Nat}{Q:AP}(hz:L.length<=65536)(hg:sX X k (.ref 263) [.ref a,.bytes h] σ (L.map .bytes))(hq:Q (.tup (L.map .bytes)) σ):CallOk X (k+7) (.ref 256) [.ref a,.bytes h] σ Q:=by
 refine bk hX.f_gtn λcode pm F=>?_;refine dQ F ["db","node_hash"] (c7 ["db","node_hash"] λvs hv=>?_) rfl λA L hA=>?_
 ·(apply gG hv;intro v w;rfl)
 have iX:cQ X σ (.ref 263):=by refine bk hX.f_gtn_ λx x F'=>?_;exact F'.keep
 exact aw<|cD<|NC (hs:=by rfl) hX.lim hA (eg hX.g_tuple ⟨rfl,rfl⟩) (BM (hst:=by rfl) hA.mo<|eg hX.g_gtn_<|ak<|af (.ref a)<|ak<|af (.bytes h)<|aD ⟨rfl,iX,hg⟩) (by simpa using hz) hq
theorem yD(bf:σ a=some (.dict D))(ha:a≠1)(hN:NmOk N):∀{t:T} {n:Nat} {h:By} {L:List By},WF n t->n<=64->fA t->Full N D t h L->L.length<=65536->sX X (20+10*n) (.ref 263) [.ref a,.bytes h] σ (L.map .bytes)
 |.leaf v,n,h,L,hw,hn,hs,hf,hz=>by
  refine az λkk=>?_;refine ei hf λf1 f2 aR=>?_;subst aR;refine bk hX.f_gtn_ λpm c F=>?_;refine kk<|vo (hclo:=by rfl) (hco:=by rfl) (hgen:=by rfl) (hk:=by rfl) F ["db","node_hash"] (c7 ["db","node_hash"] λvs hv=>?_) rfl λL=>?_
  ·(apply gG hv;intro v w;rfl)
  refine eQ<|mV λA' cp=>aT<|af (.bytes h)<|af (.ref a)<|qJ bf ha (kt (?_));refine aaE f2<|⟨rfl,eQ<|qQ λc6 bI=>bE<|bz<|af (.ref a)<|af (.bytes h)<|fw bf f2<|aQ ⟨rfl,gq ?_⟩⟩;refine eQ<|qQ λc6 bI=>bE<|aV<|eg hX.g_parse<|ak<|af (.bytes (fi v))<|aD ⟨sy hX,bc (so hX (by have:=hs;exact ly this) hw.2 ?_) (bI.mono (Du))⟩;refine eR bI.handled rfl rfl<|bG<|aQ<|bG<|aQ<|bG<|aQ<|eS ⟨rfl,?_⟩;refine eQ<|mV λc6 bI=>aT<|af (.int 2)<|eg hX.g_KV<|cu (kt ⟨rfl,?_⟩);refine eQ<|mV λc6 bI=>aT<|af (.int 2)<|eg hX.g_BR<|cu (kt ⟨rfl,?_⟩);refine eQ<|mV λc6 bI=>aT<|af (.int 2)<|eg hX.g_LEAF<|cu (kt ⟨rfl,?_⟩);exact eQ<|qO λc6 bI=>af (.bytes (fi v)) ⟨rfl,rfl,gq<|gq<|gq<|gq ⟨rfl,.inl rfl⟩⟩
 |.kv b t,n,h,L,hw,hn,hs,hf,hz=>by
  refine az λkk=>?_;refine j8 hf λh' L' f0 f1 f2 ba=>?_;subst ba;refine eE hw λhb cz hk n' en iw=>?_;have kD:1<=b.length:=by clear hw hs f1 f2 hf hz kk cz en;cases b with|nil=>exact absurd rfl hb|cons _ _=>simp
  have ih:=yD bf ha hN iw (wj hn en) hs f0 (by simp at hz;exact Dr hz);refine bk hX.f_gtn_ λpm c F=>?_;refine kk<|vo (hclo:=by rfl) (hco:=by rfl) (hgen:=by rfl) (hk:=by rfl) F ["db","node_hash"] (c7 ["db","node_hash"] λvs hv=>?_) rfl λL=>?_
  ·(apply gG hv;intro v w;rfl)
  refine eQ<|mV λA' cp=>aT<|af (.bytes h)<|af (.ref a)<|qJ bf ha (kt (?_));refine aaE f2<|⟨rfl,eQ<|qQ λc6 bI=>bE<|bz<|af (.ref a)<|af (.bytes h)<|fw bf f2<|aQ ⟨rfl,gq ?_⟩⟩;refine eQ<|qQ λc6 bI=>bE<|aV<|eg hX.g_parse<|ak<|af (.bytes (bX b h'))<|aD ⟨sy hX,bc (qH hX (ze hn en) cz (f0.named.len hN) ?_) (bI.mono (Du))⟩;refine eR bI.handled rfl rfl<|bG<|aQ<|bG<|aQ<|bG<|aQ<|eS ⟨rfl,?_⟩;refine eQ<|mV λc6 bI=>aT<|af (.int 0)<|eg hX.g_KV<|cu (kt ⟨rfl,?_⟩)
  (refine aaE eB<|aaE (aq (jX (L'.map AV.bytes))) ?_)
  refine eQ<|qO λc6 bI=>af (.bytes (bX b h')) ⟨rfl,rfl,?_⟩;exact eQ<|xJ λc6 bI=>aV<|eg hX.g_gtn<|ak<|af (.ref a)<|ak<|af (.bytes h')<|aD ⟨yr hX,bc (yQ hX (k:=20+10*n') (by simp at hz;exact Dr hz) ih ⟨rfl,rfl,gq<|gq ⟨rfl,.inl rfl⟩⟩) (bI.mono (tW en kD (lb rfl)))⟩
 |.br l r,n,h,L,hw,hn,hs,hf,hz=>by
  refine az λkk=>?_;refine sr hf λhl hr Ll Lr f0 ix f1 f2 bh=>?_;clear hf;subst bh;refine dp hw λn' en xb w9=>?_;have ih1:=yD bf ha hN xb (pT hn en) hs.1 f0 (by simp at hz;exact Dk hz);have ih2:=yD bf ha hN w9 (pT hn en) hs.2 ix (by simp at hz;exact C4 hz);refine bk hX.f_gtn_ λpm c F=>?_;refine kk<|vo (hclo:=by rfl) (hco:=by rfl) (hgen:=by rfl) (hk:=by rfl) F ["db","node_hash"] (c7 ["db","node_hash"] λvs hv=>?_) rfl λL=>?_
  ·(apply gG hv;intro v w;rfl)
  refine eQ<|mV λA' cp=>aT<|af (.bytes h)<|af (.ref a)<|qJ bf ha (kt (?_));refine aaE f2<|⟨rfl,eQ<|qQ λc6 bI=>bE<|bz<|af (.ref a)<|af (.bytes h)<|fw bf f2<|aQ ⟨rfl,gq ?_⟩⟩;refine eQ<|qQ λc6 bI=>bE<|aV<|eg hX.g_parse<|ak<|af (.bytes (b9 hl hr))<|aD ⟨sy hX,bc (qI hX (f0.named.len hN) (ix.named.len hN) ?_) (bI.mono (Du))⟩;refine eR bI.handled rfl rfl<|bG<|aQ<|bG<|aQ<|bG<|aQ<|eS ⟨rfl,?_⟩;refine eQ<|mV λc6 bI=>aT<|af (.int 1)<|eg hX.g_KV<|cu (kt ⟨rfl,?_⟩);refine eQ<|mV λc6 bI=>aT<|af (.int 1)<|eg hX.g_BR<|cu (kt ⟨rfl,?_⟩)
  (refine aaE eB<|aaE qC<|aaE (aq (jX (Lr.map AV.bytes))) ?_)
  refine eQ<|qO λc6 bI=>af (.bytes (b9 hl hr)) ⟨rfl,rfl,?_⟩;refine eQ<|xJ λc6 bI=>aV<|eg hX.g_gtn<|ak<|af (.ref a)<|ak<|af (.bytes hl)<|aD ⟨yr hX,bc (yQ hX (k:=20+10*n') (by simp at hz;exact Dk hz) ih1 ⟨rfl,rfl,?_⟩) (bI.mono (Jc en))⟩;exact eQ<|xJ λc6 bI=>aV<|eg hX.g_gtn<|ak<|af (.ref a)<|ak<|af (.bytes hr)<|aD ⟨yr hX,bc (yQ hX (k:=20+10*n') (by simp at hz;exact C4 hz) ih2 ⟨rfl,rfl,gq<|gq<|gq ⟨rfl,.inl rfl⟩⟩) (bI.mono (Jc en))⟩
end
open AutoSeq1 (wpAny_loadPart')
section
variable {prog:Program} {w:World} {A:Around} {E:Value->Shared->Prop} {s:Shared} {b:Array UInt8} {t:Tok}
theorem sb(hit:KBw.IsBytesIter s.heap it b t i)(hx:b[i]?=some c)
  (hQ:∀h',KBw.IsBytesIter h' it b t (i+1)->Heap.SameBut it s.heap h'->Q (.int (c.toNat:Int) s.toks) {s with heap:=h',toks:=s.toks+1}):wpAny (model prog w) A (Builtin.SmallTypes.nextOf (.ref it)) Q E s:=by
 refine az λkk=>?_;refine dp (id hit) λo ho hc hd=>?_;refine kk ?_;unfold Builtin.SmallTypes.nextOf
 refine ag (mE (name:=PySem.Str.ofString "__next__") (A9 hit) Bk
  (i7 Bk (A9 hit) KBw.entry_next ?_ (KBw.args_next _)))
 show wpAny _ _ (field (.ref it) 0>>= _) _ _ s;refine ag (d9 ho hd (x:=.bytes b t) rfl ?_);refine aaE (ar (show ¬((Value.bytes b t==Value.none)=true)from kK))<|ag (d9 ho hd (x:=.int i 0) rfl ?_);refine ag (dn (a:=b) rfl ?_);simp only[kM,hx];refine ag (xG ho hd (by simp) (ag (wpAny_mkInt (aO (aE _ rfl (aO (hQ _ ?_ (i6 ..))))))))
 exact(dh _ (lK _ ho (AA (ux hd _))) ((Obj.cls_mapFields ..).trans hc) (by
  refine aaE (ux hd ..) ?_;simp[rawInt]))
theorem xE(hh:A.handled=none)(hit:KBw.IsBytesIter s.heap it b t i)(hx:b[i]?=none)
  (hE:∀h' e,Heap.ExtBut it s.heap h'->(∃o,h'.get? e=some o/\o.cls=.type "StopIteration")->E (.ref e) {s with heap:=h'}):wpAny (model prog w) A (Builtin.SmallTypes.nextOf (.ref it)) Q E s:=by
 refine az λkk=>?_;refine dp (id hit) λo ho hc hd=>?_;refine kk ?_;unfold Builtin.SmallTypes.nextOf
 refine ag (mE (name:=PySem.Str.ofString "__next__") (A9 hit) Bk
  (i7 Bk (A9 hit) KBw.entry_next ?_ (KBw.args_next _)))
 show wpAny _ _ (field (.ref it) 0>>= _) _ _ s;refine ag (d9 ho hd (x:=.bytes b t) rfl ?_);refine aaE (ar (show ¬((Value.bytes b t==Value.none)=true)from kK)) ?_;refine ag (d9 ho hd (x:=.int i 0) rfl ?_);refine ag (dn (a:=b) rfl ?_);simp only[kM,hx];refine ag (gX (ag (xG ho hd (by simp) ?_)));refine ag ?_;simp only[newExc,newTuple];refine ag (iz ?_ (by size_fits));refine ag (m:=firstArgMember _ _) (dn (a:=Value.none) (by first|rfl|(simp only[firstArgMember];rfl)) ?_);refine iz ?_ (by size_fits);simp only[raiseNew];refine ag (xK ?_)
 first|refine aaE (show A.in1.handled=none from hh) ?_|rw[hh]
 refine ag (aO (xV ?_));exact hE _ _ (((i6 ..).extBut.push _).push _) ⟨_,cB _ rfl,rfl⟩
end
structure ZD(z TI TO i1 i2:Addr):Prop where
 TIz:TI≠z
 TOz:TO≠z
 i1z:i1≠z
 i2z:i2≠z
 TITO:TI≠TO
 TIi1:TI≠i1
 TIi2:TI≠i2
 TOi1:TO≠i1
 TOi2:TO≠i2
 i12:i1≠i2
noncomputable abbrev gw(f0 f1:Value)(TI TO:Addr):Obj:={cls:=.type "zip",dict:=none,data:=.fields #[f0,f1,.bool false,.ref TI,.ref TO],slots:=#[]}
structure ZSt(h:Heap)(z TI TO i1 i2:Addr)(b1:Array UInt8)(t1:Tok)(b2:Array UInt8)(t2:Tok)(k:Nat):Prop where
 z:∃f0 f1,h.get? z=some (gw f0 f1 TI TO)/\(f0=.none∨∃T:Addr,f0=rawInt T/\∃o,h.get? T=some o)
 ti:IsPair h TI (.ref i1) (.ref i2)
 to:∃a b,IsPair h TO a b
 h1:KBw.IsBytesIter h i1 b1 t1 k
 h2:KBw.IsBytesIter h i2 b2 t2 k
theorem fI(x:KBw.IsBytesIter h a b t i)(k:∀o,h.get? a=some o->h'.get? a=some o):KBw.IsBytesIter h' a b t i:=ax (x) λo e r=>⟨o,k o e,r⟩
section
variable {prog:Program} {w:World} {A:Around} {E:Value->Shared->Prop} {s:Shared} {b1 b2:Array UInt8} {t1 t2:Tok} {z TI TO i1 i2:Addr} {k:Nat}
theorem N8(h:Q (s.heap.get? a) s):wpAny (model prog w) A (loadIfAlive a) Q E s:=λx x x=>h
theorem yt(hz:s.heap.get? z=some (gw f0 f1 TI TO))(hf:f0=.none∨∃T:Addr,f0=rawInt T/\∃o,s.heap.get? T=some o)
  (h0:f0=.none->Q true s)(h1:∀T:Addr,f0=rawInt T->∀h' iy,h'.get? z=some (gw f0 iy TI TO)->Heap.SameBut z s.heap h'->Q false {s with heap:=h'}):wpAny (model prog w) A (Builtin.SmallTypes.ownedTupleIsFree (.ref z)) Q E s:=by
 unfold Builtin.SmallTypes.ownedTupleIsFree;refine ag (d9 hz rfl (x:=f0) rfl ?_);rcases hf with rfl|⟨T,rfl,o,ho⟩
 ·exact aO (h0 rfl)
 ·refine ag (N8 ?_)
  (refine aaE (show((T:Nat):Int).toNat=T from kM T)<|aaE ho ?_)
  refine ag (d9 hz rfl (x:=f1) rfl ?_)
  split
  ·refine ag (lL hz (by simp) λh' iY dM=>aO ?_)
   exact h1 T rfl h' (.bool true) iY dM
  ·exact aO (h1 T rfl s.heap f1 hz ⟨rfl,λy y=>rfl⟩)
end
noncomputable def s8(s:Shared):Shared:={s with heap:={s.heap with life:={s.heap.life with registered:=[]}}}
noncomputable def lV(s:Shared)(c:Code):Bool:= !closingShows (s8 s) [] c true
noncomputable def mn(l:List Frame):Bool:=(splitAtGen l).elim false λx=>x.1.any Frame.guarded
noncomputable def nh(s:Shared)(t:Thread):Bool:=(t.atCollectorCode&& !t.atExit)||(t.yieldsInsideHandler&&(!lV s t.code||mn t.stack))
theorem JT{v:Value}{g:Bool}{l:List Value}{k:Resume->Sem Fin}{c:Code}{p:Pos}{st:List Frame}:Thread.yieldsInsideHandler ⟨.yield v g l k,c,p,st⟩=(g||mn st):=by
 delta Thread.yieldsInsideHandler mn;dsimp only;cases splitAtGen st<;>rfl
theorem Yu:∀{g a d:Bool},a=false->(g=true->d=true)->((g||a)&&(!d||a))=false
 |false,false,_,_,_=>rfl
 |true,false,d,_,h=>by refine aaE (h rfl) ?_;rfl
theorem Yt:∀{g a d:Bool},((g||a)&&(!d||a))=false->a=false/\(g&& !d)=false
 |_,true,_,h=>by rw[Bool.or_true,Bool.or_true]at h;cases h
 |false,false,_,_=>⟨rfl,rfl⟩
 |true,false,true,_=>⟨rfl,rfl⟩
 |true,false,false,h=>absurd h.symm kK
theorem Np(h:s.heap.get? a=some o)(hn:o.genNumber?.isSome=true):lV s (fU a)=true:=by
 have e:delegateShows (s8 s) (.ref a)=false:=by
  delta delegateShows;dsimp only;refine aaE (show(s8 s).heap.get? a=some o from h) ?_;dsimp only;refine du (Ax.mp hn) λn e=>?_;refine aaE e ?_
  rfl
 show(!delegateShows (s8 s) (.ref a))=true;refine aaE e ?_;rfl
noncomputable def rt(s:Shared):End->Prop
 |.ret _=>True
 |.susp _ g _ _ c _ fs=>fs.any Frame.guarded=false/\(g=true->lV s c=true)
theorem HD(h:e.quiet=true):rt s e:=by
 cases e with
 |ret r=>trivial
 |susp v g l k c p fs=>
  simp only[End.quiet,AU,AG]at h;exact⟨h.2,λq=>by rw[h.1]at q;exact gy q⟩
noncomputable def il(M:Model)(s:Shared)(t:Thread):Step:=if nh s t then .halt (.stuck "loud") s else stepK M.den M.prog M.w s t
theorem xU(h:nh s t=false):il M s t=stepK M.den M.prog M.w s t:=by simp[il,h]
theorem G6(hl:t.loud=false):nh s t=false:=by
 refine bY (AG.mp hl) λh1 h2=>?_;unfold nh
 (refine aaE h1<|aaE h2 ?_);rfl
theorem iD(h:M.step s t=.go s' t'):il M s t=.go s' t':=by
 cases hl:t.loud with
 |true=>rw[Model.step_loud M hl]at h;cases h
 |false=>
  rw[Model.step_quiet M hl]at h;exact aaE (xU (G6 hl))<|h
inductive ReachJ(M:Model)(base:List Frame):Shared->Sem Fin->Code->Pos->List Frame->Shared->End->Prop
 |exit {s t c p pre e}:Exits e t c p pre->ReachJ M base s t c p pre s e
 |step {s t c p pre s₁ t₁ c₁ fN pre₁ s' e}:il M s ⟨t,c,p,pre++base⟩=.go s₁ ⟨t₁,c₁,fN,pre₁++base⟩->ReachJ M base s₁ t₁ c₁ fN pre₁ s' e->ReachJ M base s t c p pre s' e
variable {M:Model}
theorem ReachJ.of{base s t c p pre s' e}(h:Reach M base s t c p pre s' e):ReachJ M base s t c p pre s' e:=by
 induction h with
 |exit hx=>exact .exit hx
 |step hs _ ih=>exact .step (iD hs) ih
theorem ReachJ.under{s t c p pre s₁ dr s' e}(h:ReachJ M (B++base) s t c p pre s₁ dr)
  (hk:∀t' c' p' gM,Exits dr t' c' p' gM->ReachJ M base s₁ t' c' p' (gM++B) s' e):ReachJ M base s t c p (pre++B) s' e:=by
 induction h with
 |exit hx=>exact hk _ _ _ _ hx
 |step hs _ ih=>exact .step (by simpa only[qw]using hs) (ih hk)
theorem M8{dr t' c' p' gM}(s₁:Shared)(g k l c p)(st:List Frame)(hx:Exits dr t' c' p' gM)(hok:rt s₁ dr):
  il M s₁ ⟨t',c',p',gM++.gen g k l c p::st⟩=.go (s₁.setGen g dr.genState) ⟨k dr.result,c,p,st⟩:=by
 cases dr with
 |ret r=>obtain⟨rfl,rfl⟩:=hx;exact iD (step_leaf_gen ..)
 |susp v av mq jP c₀ lq fs=>
  obtain⟨rfl,rfl,rfl,rfl,rK⟩:=hx;have h:splitAtGen (gM++.gen g k l c p::st)=some (gM,(g,k,c,p),st):=by(refine aaE (splitAtGen_append_none _ rK)<|aaE (splitAtGen_gen ..) ?_);simp
  have hq:nh s₁ ⟨.yield v av mq jP,c',p',gM++.gen g k l c p::st⟩=false:=by
   show(_&&(!lV s₁ c'||mn (gM++.gen g k l c p::st)))=false;exact aaE JT<|Yu (by unfold mn;exact aaE h<|hok.1) hok.2
  refine aaE (xU hq) ?_;simp only[PySem.stepK,PySem.step,h];rfl
def RunsJ(M:Model)(Γ:Ctx)(p:Pos)(t:Sem Fin)(fs:List Frame)(s:Shared)(e:End)(s':Shared):Prop:=
 ∀base,Γ.Fits base->ReachJ M base s t Γ.code p fs s' e
theorem RunsJ.of{Γ p t fs s e s'}(h:Runs M Γ p t fs s e s'):RunsJ M Γ p t fs s e s':=λb hf=>.of (runs_reach h b hf)
theorem RunsJ.leaf{p s}(r:Result):RunsJ M Γ p (leafOf r) [] s (.ret r) s:=λx x=>.exit ⟨rfl,rfl⟩
theorem RunsJ.go{fs s s₁ e s'}(hs:∀st,il M s ⟨t,Γ.code,p,st⟩=.go s₁ ⟨t₁,c₁,fN,st⟩)(h:RunsJ M (Γ.goto c₁) fN t₁ fs s₁ e s'):RunsJ M Γ p t fs s e s':=λb hf=>
 .step (pre₁:=fs) (hs _) (h b (hf.goto _))
theorem RunsJ.call{c h g l k p fs s r s₁ e s'}(aF:RunsJ M ((Γ.over fs).enter c h p) p (M.den c) [] s (.ret r) s₁)(bA:RunsJ M Γ p (k r) fs s₁ e s'):RunsJ M Γ p (.call c h g l k) fs s e s':=λb hf=>by
 refine .step (pre₁:=.ret k h g l Γ.code p []::fs) (iD (step_call ..))<|ReachJ.under (B:=.ret k h g l Γ.code p []::fs) (pre:=[]) (aF _ ((hf.over fs).enter c k h g l p [])) ?_;rintro _ _ _ _ ⟨rfl,rfl⟩;exact .step (pre₁:=fs) (iD (step_leaf_ret ..)) (bA b hf)
theorem RunsJ.push{c h g l k p fs s e s'}(aF:RunsJ M (Γ.goto c) p (M.den c) (.ret k h g l Γ.code p []::fs) s e s'):RunsJ M Γ p (.call c h g l k) fs s e s':=λb hf=>
 .step (pre₁:=.ret k h g l Γ.code p []::fs) (iD (step_call ..)) (aF b (hf.goto _))
theorem RunsJ.pop{p k h g l c₁ fN kp fs s e s'}(r:Result)(hr:RunsJ M (Γ.goto c₁) fN (k r) fs s e s'):RunsJ M Γ p (leafOf r) (.ret k h g l c₁ fN kp::fs) s e s':=λb hf=>
 .step (pre₁:=fs) (iD (step_leaf_ret ..)) (hr b (hf.goto _))
inductive WakesJ(M:Model)(Γ:Ctx)(p:Pos)(g:Nat):Resume->Shared->GenResult->Shared->Prop
 |fresh {c s dr s₁} (hg:s.gens[g]?=some (.fresh c)) (a:RunsJ M (Γ.wake c p) p (M.den c) [] (s.setGen g .running) dr s₁) (q:rt s₁ dr):WakesJ M Γ p g (.send .none) s dr.result (s₁.setGen g dr.genState)
 |js {c s v} (hg:s.gens[g]?=some (.fresh c)) (hv:v≠.none):WakesJ M Γ p g (.send v) s .justStarted s
 |tf {c s x} (hg:s.gens[g]?=some (.fresh c)):WakesJ M Γ p g (.throw x) s (.raised x) (s.setGen g .finished)
 |susp {jP mq c₀ lq fs cl r s dr s₁} (hg:s.gens[g]?=some (.suspended jP mq c₀ lq fs cl)) (a:RunsJ M (Γ.wake c₀ p) lq (jP r) fs (s.setGen g .running) dr s₁) (q:rt s₁ dr):WakesJ M Γ p g r s dr.result (s₁.setGen g dr.genState)
 |run {r s} (hg:s.gens[g]?=some .running):WakesJ M Γ p g r s .running s
 |fin {r s} (hg:s.gens[g]?=some .finished):WakesJ M Γ p g r s .finished s
theorem WakesJ.of{Γ p g r s res s'}(h:Wakes M Γ p g r s res s'):WakesJ M Γ p g r s res s':=by
 unfold Wakes at h
 cases hg:s.gens[g]? with
 |none=>rw[hg]at h;exact h.elim
 |some gs=>
  rw[hg]at h
  cases gs with
  |fresh c=>
   cases r with
   |send v=>
    by_cases hv:v=.none
    ·subst hv;obtain⟨dr,s₁,a,q,rfl,rfl⟩:=h;exact .fresh hg (.of a) (HD q)
    ·have k:res=.justStarted/\s'=s:=by cases v<;>first|exact absurd rfl hv|exact h
     (refine aaE k.1<|aaE k.2 ?_);exact .js hg hv
   |throw x=>(refine aaE h.1<|aaE h.2 ?_);exact .tf hg
  |suspended jP mq c₀ lq fs cl=>obtain⟨dr,s₁,a,q,rfl,rfl⟩:=h;exact .susp hg (.of a) (HD q)
  |running=>(refine aaE h.1<|aaE h.2 ?_);exact .run hg
  |finished=>(refine aaE h.1<|aaE h.2 ?_);exact .fin hg
theorem RunsJ.resume{g r l k p fs s res s₁ e s'}(h:WakesJ M (Γ.over fs) p g r s res s₁)(bA:RunsJ M Γ p (k res) fs s₁ e s'):RunsJ M Γ p (.resume g r l k) fs s e s':=by
 intro b hf
 have ex:∀{dr t' c' p' gM s₂},Exits dr t' c' p' gM->rt s₂ dr->RunsJ M Γ p (k dr.result) fs (s₂.setGen g dr.genState) e s'->ReachJ M b s₂ t' c' p' (gM++.gen g k l Γ.code p::fs) s' e:=λ{x x x x gM x} hx q z=>
  .step (pre₁:=fs) ((bF (λst=>il M _ ⟨_,_,_,st⟩) (qw gM (.gen g k l Γ.code p::fs) b)).trans (M8 _ _ _ _ _ _ _ hx q)) (z b hf)
 cases h with
 |fresh hg a q=>
  exact .step (pre₁:=.gen g k l Γ.code p::fs) (iD (step_resume_fresh _ _ _ _ _ _ _ hg)) (ReachJ.under (B:=.gen g k l Γ.code p::fs) (pre:=[]) (a _ ((hf.over fs).wake _ g k l p)) λx x x x hx=>ex hx q bA)
 |js hg hv=>exact .step (pre₁:=fs) (iD (step_resume_justStarted _ _ _ _ _ _ _ hg hv)) (bA b hf)
 |tf hg=>exact .step (pre₁:=fs) (iD (step_resume_throwFresh _ _ _ _ _ _ _ _ hg)) (bA b hf)
 |susp hg a q=>
  exact .step (iD ((step_resume_suspended _ _ _ _ _ _ _ _ hg).trans (by(refine aaE (aq A4)<|aaE (aq (qw ..)) ?_);rfl))) (ReachJ.under (B:=.gen g k l Γ.code p::fs) (a _ ((hf.over fs).wake _ g k l p)) λx x x x hx=>ex hx q bA)
 |run hg=>exact .step (pre₁:=fs) (iD (step_resume_running _ _ _ _ _ _ _ _ hg)) (bA b hf)
 |fin hg=>exact .step (pre₁:=fs) (iD (step_resume_finished _ _ _ _ _ _ _ _ hg)) (bA b hf)
inductive RJ(M:Model)(Γ:Ctx)(Φ:End->Shared->Prop)(p:Pos)(t:Sem Fin)(fs:List Frame)(s:Shared):Prop
 |mk (e:End) (s':Shared) (r:RunsJ M Γ p t fs s e s') (q:Φ e s')
theorem RJ.go{fs s s₁}(h:RJ M Γ Φ fN t₁ fs s₁)(hs:∀st,M.step s ⟨t,Γ.code,p,st⟩=.go s₁ ⟨t₁,Γ.code,fN,st⟩):RJ M Γ Φ p t fs s:=
 h.rec λe s' r q=>⟨e,s',r.go λst=>iD (hs st),q⟩
def fQ{α:Type}(M:Model)(Γ:Ctx)(m:Sem α)(Q:α->Pos->Shared->Prop)(E:Value->Pos->Shared->Prop)(p:Pos)(s:Shared):Prop:=
 ∀(iG:Ctx) fs (K:α->Sem Fin) (H:Value->Sem Fin) gd lv (Φ:End->Shared->Prop),Γ=iG.over fs->(∀a p' s',Q a p' s'->RJ M iG Φ p' (K a) fs s')->(∀x p' s',E x p' s'->RJ M iG Φ p' (H x) fs s')->RJ M iG Φ p (m.wrap K H gd lv) fs s
section
variable {α β:Type} {Γ:Ctx}
theorem qR{E p s}(h:Q a p s):fQ M Γ (.pure a) Q E p s:=λx x x x x x x x hQ x=>hQ a p s h
theorem Gz{c h g l}{E p s r s'}(a:RunsJ M (Γ.enter c h p) p (M.den c) [] s (.ret r) s')(b:fQ M Γ (k r) Q E p s'):fQ M Γ (.call c h g l k) Q E p s:=λiG fs K H gd lv Φ e hQ hE=>
 (b iG fs K H gd lv Φ e hQ hE).rec λe' aU r' q=>⟨e',aU,.call (e▸a) r',q⟩
theorem FO{g r l}{E p s res s'}(a:WakesJ M Γ p g r s res s')(b:fQ M Γ (k res) Q E p s'):fQ M Γ (.resume g r l k) Q E p s:=λiG fs K H gd lv Φ e hQ hE=>
 (b iG fs K H gd lv Φ e hQ hE).rec λe' aU r' q=>⟨e',aU,.resume (e▸a) r',q⟩
theorem RL(m:Sem α){Q E p s}(h:Sem.wp M Γ m Q E p s):fQ M Γ m Q E p s:=λiG fs K H gd lv Φ e hQ hE=>by
 subst e
 revert p s
 induction m with
 |pure a=>exact λh=>hQ a _ _ h
 |raise x=>exact λh=>hE x _ _ h
 |unsupported what=>exact False.elim
 |finish x=>exact False.elim
 |register a k=>exact False.elim
 |yield v g l k=>exact False.elim
 |fork c k=>exact False.elim
 |await a f d l k=>exact False.elim
 |rule tag k ih=>exact λh=>(ih () h).go λst=>step_rule ..
 |«at» p' k ih=>exact λh=>(ih () h).go λst=>step_at ..
 |load a part k ih=>exact λh=>h.elim λo h=>(ih o h.2).go λst=>step_load _ _ _ _ _ _ _ h.1
 |update a part f k ih=>exact λh=>(ih () h.2).go λst=>step_update _ _ _ _ _ _ _ _ h.1
 |alloc o k ih=>exact λh=>(ih _ h).go λst=>step_alloc ..
 |loadIfAlive a k ih=>exact λh=>(ih _ h).go λst=>step_loadIfAlive ..
 |point l k ih=>exact λh=>(ih () h).go λst=>step_point ..
 |fresh k ih=>exact λh=>(ih _ h).go λst=>step_fresh ..
 |ask k ih=>exact λh=>(ih _ h).go λst=>step_ask ..
 |choose src n k ih=>exact λh=>(ih _ h.2).go λst=>step_choose _ _ _ _ _ _ _ h.1
 |os q l k ih=>exact λh=>(ih _ h).go λst=>step_os ..
 |call c hh g l k ih=>exact λh=>h.elim λr h=>h.elim λs₁ h=>(ih r h.2).rec λe' aU r' q=>⟨e',aU,.call (.of h.1) r',q⟩
 |handled own k ih=>
  intro p s h;refine(ih _ h).rec λe' aU r' q=>⟨e',aU,λb hf=>.step (pre₁:=fs) ?_ (r' b hf),q⟩;have eH:=hf.over fs
  have e:(if own=true then (iG.over fs).own else (iG.over fs).handled)=topHandled (if own then ownFrames (fs++b)else fs++b):=by
   clear h r';cases own
   ·exact eH.handled
   ·exact eH.own
  exact aaE e<|iD (step_handled ..)
 |newGen c k ih=>exact λh=>(ih _ h).go λst=>step_newGen ..
 |genState g k ih=>exact λh=>h.elim λo h=>(ih _ h.2).go λst=>step_genState _ _ _ _ _ _ h.1
 |resume g r l k ih=>exact λh=>h.elim λres h=>h.elim λs₁ h=>(ih res h.2).rec λe' aU r' q=>⟨e',aU,.resume (.of h.1) r',q⟩
 |stack k ih=>
  intro p s h;refine(ih _ h).rec λe' aU r' q=>⟨e',aU,λb hf=>.step (pre₁:=fs) ?_ (r' b hf),q⟩;exact aaE ((hf.over fs).below)<|iD (step_stack ..)
 |thread k ih=>exact λh=>(ih _ h).go λst=>step_thread ..
theorem qS(m:Sem α)(hQ:∀a p s,Q a p s->Q' a p s)(hE:∀e p s,E e p s->E' e p s){p s}(h:fQ M Γ m Q E p s):fQ M Γ m Q' E' p s:=
 λiG fs K H gd lv Φ e kQ kE=>h iG fs K H gd lv Φ e (λa p s x=>kQ a p s (hQ a p s x)) λa p s x=>kE a p s (hE a p s x)
theorem yv{m:Sem α}{K:α->Sem β}{H:Value->Sem β}{gd lv Q E p s}(h:fQ M Γ m (λa p s=>fQ M Γ (K a) Q E p s) (λx p s=>fQ M Γ (H x) Q E p s) p s):fQ M Γ (m.wrap K H gd lv) Q E p s:=λiG fs K' H' Mf nG Φ e kQ kE=>by
 exact aaE (jZ ..)<|h iG fs _ _ _ _ Φ e (λa p s x=>x iG fs K' H' Mf nG Φ e kQ kE) λa p s x=>x iG fs K' H' Mf nG Φ e kQ kE
theorem BC{p s}(h:E x p s):fQ M Γ (.raise x) Q E p s:=λy y y y y y y y y hE=>hE x p s h
theorem Po{m:Sem α}{f:α->Sem β}{Q E p s}(h:fQ M Γ m (λa p' s'=>fQ M Γ (f a) Q E p' s') E p s):fQ M Γ (m>>= f) Q E p s:=by
 exact aaE (ju ..)<|yv (qS m (λy y y x=>x) (λy y y x=>BC x) h)
theorem N9{m:Sem α}{Q:Except Value α->Pos->Shared->Prop}{E p s}(h:fQ M Γ m (λa=>Q (.ok a)) (λe=>Q (.error e)) p s):fQ M Γ m.attempt Q E p s:=by
 unfold Sem.attempt
 (refine aaE (Sem.tryCatch_eq_wrap ..)<|aaE (Sem.bind_eq_wrap ..)<|aaE (jZ ..) ?_)
 refine yv (qS m (λy y y x=>?_) (λy y y x=>?_) h)
 ·exact qR x
 ·exact qR x
theorem G5{vs:List Value}{m:Sem α}{Q E p s}(h:fQ M Γ m Q E p s):fQ M Γ (m.keep vs) Q E p s:=by
 exact aaE (Sem.keep_eq_wrap ..)<|yv (qS m (λy y y x=>qR x) (λy y y x=>BC x) h)
theorem Oa{m:Sem α}{h':Value->Sem Unit}{Q p s}(h:fQ M Γ m Q (λy y y=>False) p s){E}:fQ M Γ (m.onRaise h') Q E p s:=by
 exact aaE (qs ..)<|yv (qS m (λy y y x=>qR x) (λy y y x=>x.elim) h)
end
def bS{α:Type}(M:Model)(A:Around)(t:Sem α)(Q:α->Shared->Prop)(E:VP)(s:Shared):Prop:=
 ∀Γ p,Γ.In A->fQ M Γ t (λa x s'=>Q a s') (λe x s'=>E e s') p s
def gu(M:Model)(A:Around)(c:Code)(R:Result->Shared->Prop)(s:Shared):Prop:=
 ∀Γ p,Γ.code=c->Γ.Below A->∃r s',RunsJ M Γ p (M.den c) [] s (.ret r) s'/\R r s'
section
variable {α β:Type} {A:Around} {E:Value->Shared->Prop} {s:Shared}
theorem iN(h:wpAny M A t Q E s):bS M A t Q E s:=λΓ p cJ=>RL t (h Γ p cJ)
theorem jb(h:bS M A t Q E s)(hQ:∀a s,Q a s->Q' a s)(hE:∀e s,E e s->E' e s):bS M A t Q' E' s:=
 λΓ p cJ=>qS t (λa x s=>hQ a s) (λe x s=>hE e s) (h Γ p cJ)
theorem uZ(h:gu M A c R s)(hR:∀r s,R r s->R' r s):gu M A c R' s:=λΓ p hc cJ=>by
 refine az λkk=>?_;obtain⟨r,s',a,b⟩:=h Γ p hc cJ;exact kk<|(ey r s' a (hR _ _ b))
theorem fH(h:Q a s):bS M A (pure a) Q E s:=λx x x=>qR h
theorem ie(h:bS M A m (λa s'=>bS M A (f a) Q E s') E s):bS M A (m>>= f) Q E s:=λΓ p cJ=>
 Po (qS m (λa p' s' h'=>h' Γ p' cJ) (λx x x h'=>h') (h Γ p cJ))
theorem dy(h:wpAny M A m (λa s'=>bS M A (f a) Q E s') E s):bS M A (m>>= f) Q E s:=ie (iN h)
theorem xT{m:Sem α}{Q:Except Value α->Shared->Prop}(h:bS M A m (λa=>Q (.ok a)) (λe=>Q (.error e)) s):bS M A m.attempt Q E s:=λΓ p cJ=>N9 (h Γ p cJ)
theorem xS(h:bS M A m Q E s):bS M A (holding vs m) Q E s:=λΓ p cJ=>by exact aaE (holding_eq_keep ..)<|G5 (h Γ p cJ)
theorem FP(h:bS M A m Q aC s):bS M A (m.onRaise k) Q E s:=λΓ p cJ=>Oa (qS m (λx x x h'=>h') (λe p' s' h'=>h'.elim) (h Γ p cJ))
theorem Fz(hc:gu M A c (λr s'=>∃v,r=.ok (.ret v)/\Q v s') s):bS M A (runValue c) Q E s:=λΓ p cJ=>by
 obtain⟨r,s',hr,v,rfl,hq⟩:=hc _ p rfl (cJ.enter c none p (by intro x;exact be x));exact Gz hr (qR hq)
theorem yu(hc:gu M A (.call f ⟨pos,kw⟩) (λr s'=>∃v,r=.ok (.ret v)/\Q v s') s):bS M A (call f pos kw) Q E s:=Fz hc
theorem Hn(t:Sem Fin):t.wrap .pure .raise id id=t:=by
 induction t<;>simp only[Sem.wrap,id, *]
theorem oU{c:Code}{R:Result->Shared->Prop}(h:bS M (A.under c) (M.den c) (λfin s'=>match fin with|.done f=>R (.ok f) s'|.again c'=>c'.quiet=true/\gu M A c' R s') (λe s'=>R (.error e) s') s):gu M A c R s:=λΓ p hc cJ=>by
 subst hc
 obtain⟨e,s',hr,r,rfl,hR⟩:=h Γ p cJ.in Γ [] .pure .raise id id (λe s'=>∃r,e=.ret r/\R r s') rfl (λfin p' s' h'=>by
   cases fin with
   |done f=>exact⟨_,s',.leaf (.ok f),_,rfl,h'⟩
   |again c'=>
    obtain⟨r,aU,hr,hR⟩:=h'.2 (Γ.goto c') p' rfl (cJ.goto c')
    exact⟨_,aU,RunsJ.go (c₁:=c') (λst=>iD (step_again _ _ _ _ _ _ h'.1)) hr,r,rfl,hR⟩) (λx p' s' h'=>⟨_,s',.leaf (.error x),_,rfl,h'⟩)
 rw[Hn]at hr;exact⟨r,s',hr,hR⟩
end
def SegG(M:Model)(A:Around)(c:Code)(t:Sem Fin)(fs:List Frame)(s:Shared)(P:End->Shared->Prop):Prop:=
 ∀Γ p,Γ.code=c->Γ.Woken A->∃e s',RunsJ M Γ p t fs s e s'/\rt s' e/\P e s'
section
variable {A:Around} {c:Code} {fs:List Frame} {P:End->Shared->Prop} {s:Shared} {t:Sem Fin}
theorem SegG.mono(x:SegG M A c t fs s P)(h:∀e s',P e s'->P' e s'):SegG M A c t fs s P':=λΓ p hc cJ=>by
 refine az λkk=>?_;obtain⟨e,s',hr,hq,hp⟩:=x Γ p hc cJ;exact kk<|(cy e s' hr hq (h e s' hp))
theorem F9{α:Type}{m:Sem α}{K:α->Sem Fin}{H:Value->Sem Fin}{gd:Bool->Bool}{lv:List Value->List Value}
  (h:bS M (A.over c fs) m (λa s'=>SegG M A c (K a) fs s' P) aC s):SegG M A c (m.wrap K H gd lv) fs s P:=by
 rintro Γ p rfl cJ;exact(h (Γ.over fs) p (cJ.over fs) Γ fs K H gd lv (λe s'=>rt s' e/\P e s') rfl (λa p' s' h'=>(h' Γ p' rfl cJ).elim λe z=>z.elim λaU z=>⟨e,aU,z.1,z.2⟩) (λx p' s' h'=>h'.elim)).rec λe aU r q=>⟨e,aU,r,q⟩
theorem lS{α:Type}{m:Sem α}{K:α->Sem Fin}(h:bS M (A.over c fs) m (λa s'=>SegG M A c (K a) fs s' P) aC s):SegG M A c (m>>= K) fs s P:=by
 exact aaE (ju ..)<|F9 h
theorem Pp(x:∀p,SegG M A c' (M.den c') (.ret k hd g l c p []::fs) s P):SegG M A c (.call c' hd g l k) fs s P:=by
 rintro Γ p rfl cJ;refine az λkk=>?_;obtain⟨e,s',hr,hq⟩:=x p (Γ.goto c') p rfl (cJ.goto c');exact kk<|(ey e s' (.push hr) hq)
theorem Gc(hq:c'.quiet=true)(x:SegG M A c' (M.den c') fs s P):SegG M A c (.pure (.again c')) fs s P:=by
 rintro Γ p rfl cJ;refine az λkk=>?_;obtain⟨e,s',hr,fp⟩:=x (Γ.goto c') p rfl (cJ.goto c');exact kk<|(ey e s' (hr.go (λst=>iD (step_again _ _ _ _ _ _ hq))) fp)
theorem GZ{kp}(x:SegG M A c₁ (k r) fs s P):SegG M A c (leafOf r) (.ret k hd g l c₁ fN kp::fs) s P:=by
 rintro Γ p rfl cJ;refine az λkk=>?_;obtain⟨e,s',hr,hq⟩:=x (Γ.goto c₁) fN rfl (cJ.goto c₁);exact kk<|(ey e s' (.pop r hr) hq)
theorem Qd(x:P (.ret r) s):SegG M A c (leafOf r) [] s P:=by
 rintro Γ p rfl _;exact(cy (.ret r) s (.leaf r) trivial x)
theorem Gd(rK:splitAtGen fs=none)(pZ:fs.any Frame.guarded=false)(hg:gf=true->lV s c=true)(x:∀p,P (.susp v gf l k c p fs) s):SegG M A c (.yield v gf l k) fs s P:=by
 rintro Γ p rfl _;exact(cy (.susp v gf l k Γ.code p fs) s (λb y=>.exit (l7 rfl rfl rfl rfl rK)) ⟨pZ,hg⟩ (x p))
end
noncomputable def Cx.wb(X:Cx)(b:Nat->Prop):Cx:={X with u:=λi=>X.u i∨b i}
section
variable {X:Cx} {P:Pv} {g g':View} {σ ab:St} {s s':Shared} {b b':Nat->Prop}
theorem Sat.wb(S:Sat X g σ s):Sat (X.wb b) g σ s:=⟨S.le,S.in_,S.trk,S.tab⟩
theorem Sat.unwb(S:Sat (X.wb b) g σ s):Sat X g σ s:=⟨S.le,S.in_,S.trk,S.tab⟩
theorem Frm.wb(F:Frm X env m g σ s):Frm (X.wb b) env m g σ s:=⟨F.kind,F.free,F.ns,F.cells,F.var,F.inj,F.csz,F.own⟩
theorem Frm.unwb(F:Frm (X.wb b) env m g σ s):Frm X env m g σ s:=⟨F.kind,F.free,F.ns,F.cells,F.var,F.inj,F.csz,F.own⟩
theorem Go.wb(G:Go X P g σ s g' ab s'):Go (X.wb b) P g σ s g' ab s':=
 ⟨G.sat.wb,G.le,G.new,G.st,G.run.os,G.run.dom,G.run.keep,G.run.tab,G.run.gsize,G.run.gold,λi x e=>(G.run.gbare i x e).imp id λh=>h.imp id .inl⟩
theorem Go.rewb(G:Go (X.wb b) P g σ s g' ab s')(h:∀i x,b i->s'.gens[i]?=some x->x.bare=true∨b' i):Go (X.wb b') P g σ s g' ab s':=
 ⟨G.sat.unwb.wb,G.le,G.new,G.st,G.run.os,G.run.dom,G.run.keep,G.run.tab,G.run.gsize,G.run.gold,λi x e=>(G.run.gbare i x e).imp id λq=>by
  rcases q with q|q|q
  ·exact .inl q
  ·exact .inr (.inl q)
  ·exact(h i x q e).imp id .inr⟩
theorem Go.unwb(G:Go (X.wb b) P g σ s g' ab s')(h:∀i x,b i->s'.gens[i]?=some x->x.bare=true):Go X P g σ s g' ab s':=
 ⟨G.sat.unwb,G.le,G.new,G.st,G.run.os,G.run.dom,G.run.keep,G.run.tab,G.run.gsize,G.run.gold,λi x e=>(G.run.gbare i x e).imp id λq=>by
  rcases q with q|q|q
  ·exact .inl q
  ·exact .inr q
  ·exact .inl (h i x q e)⟩
theorem Go.setGenU(S:Sat X g σ s)(hP:P.n i)(hx:X.u i):Go X P g σ s g σ (s.setGen i x):=by
 refine⟨S.heap rfl,.refl g,λ_ _ _ _=>rfl,λ_ _ _ _=>kb,rfl,λa o e _=>⟨o,e⟩,λa o e _ _ _=>.inl e,λp _ o vs e hd=>⟨#[],by(refine aaE (xR ..)<|aaE e ?_);congr 1;obtain⟨c,d,dt,sl⟩:=o;clear e;refine aaE (aq hd) ?_;simp⟩,by exact aaE jz<|bC _,λj y e hp=>?_,λj y e=>?_⟩
 ·rw[gW,ar];exact e
  rintro⟨rfl,_⟩;exact hp hP
 ·rw[gW]at e
  split at e
  ·rename_i q;(refine aaE (bq e) ?_);exact .inr (.inr (q.1▸hx))
  ·exact .inl e
theorem Go.underGenU(G:Go X P g σ (s.setGen i x) g' ab s')(hi:i<s.gens.size)(hP:¬P.n i):Go X P g σ (s.setGen i y) g' ab (s'.setGen i y):=by
 have hs:=bT (by exact aaE jz<|hi) G.run.gsize;refine⟨G.sat.heap rfl,G.le,G.new,G.st,G.run.os,G.run.dom,G.run.keep,G.run.tab,?_,λj z e hp=>?_,λj z e=>?_⟩
 ·(refine aaE jz<|aaE jz ?_);have:=G.run.gsize;rwa [jz]at this
 ·rw[gW]at e ⊢
  by_cases hj:j=i
  ·clear G hP;subst hj;rw[aA ⟨rfl,hi⟩]at e;exact aaE (aA ⟨rfl,hs⟩)<|e
  ·rw[ar (λq=>hj q.1)]at e ⊢
   exact G.run.gold j z (by(refine aaE gW<|aaE (ar (λq=>hj q.1)) ?_);exact e) hp
 ·rw[gW]at e
  by_cases hj:j=i
  ·clear G hP;subst hj;rw[aA ⟨rfl,hs⟩]at e;(refine aaE (bq e) ?_);left;(exact aaE gW<|aaE (aA ⟨rfl,hi⟩) rfl)
  ·rw[ar (λq=>hj q.1)]at e
   rcases G.run.gbare j z e with h|h
   ·left;rw[gW,ar (λq=>hj q.1)]at h ⊢;exact h
   ·exact .inr h
end
noncomputable def PstG(X:Cx)(k:Nat)(σ:St):List AV->Pv->(Nat->Prop)->View->Shared->End->Shared->Prop
 |[],own,b,av,aj,e,s'=>(∃f,e=.ret (.ok f)/\(f=.next∨f=.ret .none))/\∃g',Go X own av σ aj g' σ s'/\∀i x,b i->s'.gens[i]?=some x->x.bare=true
 |V::l,own,b,av,aj,e,s'=>∃v gf lv kk c' p gQ g' bU b',e=.susp v gf lv kk c' p gQ/\bU.Le aj own/\bU.Ex s'/\(∀i,b' i->bU.n i)/\Go (X.wb b') own av σ aj g' σ s'/\(∀i x,b i->s'.gens[i]?=some x->x.bare=true∨b' i)/\Rep g' V v/\
   ∀P b8 aU,Go X P g' σ s' b8 σ aU->bU.Apart P->∀A,Room A (k+1)->SegG (model P0 X.w) A c' (kk (.send .none)) gQ aU (PstG X k σ l bU b' b8 aU)
theorem PstG.rebase(hu:∀i,¬X.u i)(G:Go X own av σ aj aJ σ s₁)(hle:SV.Le aj own)(hb:∀i x,b i->s₁.gens[i]?=some x->x.bare=true)
  (h:PstG X k σ l SV (λy=>False) aJ s₁ e s'):PstG X k σ l own b av aj e s':=by
 cases l with
 |nil=>
  obtain⟨h1,g',G',_⟩:=h
  exact(dP h1 g' (G.comp G' hle) (λi x hi ex=>by
   rcases G'.run.gbare i x ex with q|q|q
   ·exact hb i x hi q
   ·exact q
   ·exact(hu i q).elim))
 |cons V l=>
  obtain⟨v,gf,lv,kk,c',p,gQ,g',bU,b',rfl,h1,h2,h3,G',h4,h5,h6⟩:=h;refine⟨v,gf,lv,kk,c',p,gQ,g',bU,b',rfl,h1.back' G.run hle,h2,h3,G.wb.comp G' hle,λi x hi ex=>?_,h5,h6⟩;rcases G'.run.gbare i x ex with q|q|q|q
  ·exact .inl (hb i x hi q)
  ·exact .inl q
  ·exact(hu i q).elim
  ·exact .inr q
noncomputable def gF(X:Cx)(k:Nat)(σ:St):Mach X k σ where
 Z A l aM av aj c t fs s:=SegG (model P0 X.w) A c t fs s (PstG X k σ l aM (λx=>False) av aj)
 okY c gf s:=gf=true->lV s c=true
 wrap h:=F9 (iN h)
 call h:=Pp h
 leaf f h:=GZ (r:=.ok f) h
 again hq h:=Gc hq h
 ok0 _ _:=λh=>by cases h
 yld {A l aM av aj c fs s V v gf lv own g kk} rK pZ hg G hle hex r h:=
  Gd rK pZ hg λp=>⟨v,gf,lv,kk,c,p,fs,g,own,λx=>False,rfl,hle,hex,λx h=>h.elim,G.wb,λx x h=>h.elim,r,h⟩
 fin {A aM av aj c s g f} G hf:=Qd (r:=.ok f) ⟨⟨f,rfl,hf⟩,g,G,λx x h=>h.elim⟩
def IsGenS(h:Heap)(a:Addr)(g:Nat):Prop:=∃o nm qn,h.get? a=some o/\o.cls=.type "generator"/\o.data=.fields #[.int g 0,nm,qn]/\(o.slots=#[]∨o.slots=#[some (rawInt 0)])
theorem IsGenS.of{a g}(x:h.IsGen a g):IsGenS h a g:=sP (x) λo nm qn h1 h2 h3 h4=>(gZ o nm qn h1 h2 h3 (.inl h4))
theorem IsGenS.typeIs{s:Shared}{a g}(x:IsGenS s.heap a g):s.TypeIs (.ref a) "generator":=jc (x) λo y y ho hc y=>⟨o,ho,hc⟩
theorem OG(hg:IsGenS s.heap a g)(h:Q g s):wpAny M A (Builtin.Generator.genNumber (.ref a)) Q E s:=by
 obtain⟨o,nm,qn,ho,_,hd,rO⟩:=hg;unfold Builtin.Generator.genNumber;refine ag (sD ho ?_);rcases rO with rO|rO
 ·(refine aaE rO<|aaE hd ?_)
  show wpAny M A (pure ((g:Int).toNat)) Q E s;exact aaE (kM ..)<|aO h
 ·(refine aaE rO<|aaE hd ?_)
  show wpAny M A (pure ((g:Int).toNat)) Q E s;exact aaE (kM ..)<|aO h
def ReadyG(X:Cx)(k:Nat)(σ:St)(gi:Nat)(l:List AV)(own:Pv)(b:Nat->Prop)(g:View)(s:Shared):Prop:=
 ∃gs c₀ t₀ fs₀,s.gens[gi]?=some gs/\((gs=.fresh c₀/\t₀=denote table c₀/\fs₀=[])∨(∃jP mq lq cl,gs=.suspended jP mq c₀ lq fs₀ cl/\t₀=jP (.send .none)))/\
  ∀P b8 aU,Go X P g σ s b8 σ aU->own.Apart P->¬P.n gi->∀A,Room A (k+1)->SegG (model P0 X.w) A c₀ t₀ fs₀ (aU.setGen gi .running) (PstG X k σ l own b b8 (aU.setGen gi .running))
theorem ReadyG.go(R:ReadyG X k σ gi l ob b g s)(G:Go X P g σ s g' σ s')(ha:ob.Apart P)(hn:¬P.n gi):ReadyG X k σ gi l ob b g' s':=by
 refine az λkk=>?_;obtain⟨gs,c₀,t₀,fs₀,lA,me,kz⟩:=R;refine kk<|(vn gs c₀ t₀ fs₀ (G.run.gold gi gs lA hn) me (λP' b8 aU G' oE eO A hA=>?_));refine kz (P.sup P') b8 aU ((G.weaken Pv.le_left).trans (G'.weaken Pv.le_right)) ⟨λa h1 h2=>?_,λi h1 h2=>?_⟩ (λq=>?_) A hA
 ·rcases h2 with h2|h2;exact ha.1 a h1 h2;exact oE.1 a h1 h2
 ·rcases h2 with h2|h2;exact ha.2 i h1 h2;exact oE.2 i h1 h2
 ·rcases q with q|q;exact hn q;exact eO q
theorem Nq(hc:gu M A c (λr s'=>match r with|.ok (.ret v)=>Q v s'|.ok _=>False|.error e=>E e s') s):bS M A (runValue c) Q E s:=λΓ p cJ=>by
 obtain⟨r,s',hr,hq⟩:=hc _ p rfl (cJ.enter c none p (by intro x;exact be x));refine Gz hr ?_
 cases r with
 |error e=>exact BC hq
 |ok f=>(first|exact be f|exact bZ f|exact gy f|exact gN f|(refine aaE (bq f) ?_)|subst f|clear hr;cases f)<;>first|exact qR hq|exact hq.elim
theorem sk{prog:Program}{w:World}{A:Around}{s:Shared}{R:Result->Shared->Prop}{id:String}{args:Args}{b:Builtin}(hp:plainId id=true)(hb:entryFor table id=some b)
  (h:bS (model prog w) A.in1 (b args) (λfin s'=>match fin with|.done f=>R (.ok f) s'|.again c'=>c'.quiet=true/\gu (model prog w) A c' R s') (λe s'=>R (.error e) s') s):gu (model prog w) A (.builtin id args) R s:=by
 refine oU<|aaE (oM hp ..) ?_;show bS _ _ (match entryFor table id with|some b=>b args|none=>unsupported ((withoutEnding? id "#data").getD id)) _ _ s;exact aaE hb<|h
theorem MK{prog:Program}{w:World}{A:Around}{s:Shared}{R:Result->Shared->Prop}{id:String}{args:Args}{b:Builtin}(hp:plainId id=true)(hb:entryFor table id=some b)
  (h:wpAny (model prog w) A.in1 (checkBuiltinCall id args) (λy s₁=>bS (model prog w) A.in1 (b args) (λfin s'=>match fin with|.done f=>R (.ok f) s'|.again c'=>c'.quiet=true/\gu (model prog w) A c' R s') (λe s'=>R (.error e) s') s₁) aC s):
  gu (model prog w) A (.call (.builtin id) args) R s:=by
 refine oU ?_;have hu:A.under (.call (.builtin id) args)=A.in1:=by first|rfl|exact Around.under_plain rfl rfl
 refine aaE hu ?_;show bS _ _ (do checkBuiltinCall id args;again (.builtin id args)) _ _ s;refine dy (aB h (λy s₁ aF=>fH ⟨lQ hp _,sk hp hb aF⟩) λy y x=>x.elim)
section
variable {X:Cx} {k:Nat} {σ:St}
theorem xN(c9:s.heap.NoLimit)(hA:Room A (k+2))(hG:IsGenS s.heap a gi)(hn:¬ob.n gi)(dN:gi<s.gens.size)(S:Sat X g σ s)
  (R:ReadyG X k σ gi l ob b g s)
  (hY:∀V l',l=V::l'->∀v g' cg b' s',cg.Le s ob->cg.Ex s'->(∀i,b' i->cg.n i)->Go (X.wb λi=>b' i∨i=gi) (ob.gn gi) g σ s g' σ s'->(∀i x,b i->s'.gens[i]?=some x->x.bare=true∨b' i∨i=gi)->Rep g' V v->ReadyG X k σ gi l' cg b' g' s'->Q (some v) s')
  (hE:l=[]->∀e g' s',B1 e s'->Go X (ob.gn gi) g σ s g' σ s'->(∀i x,(b i∨i=gi)->s'.gens[i]?=some x->x.bare=true)->E e s'):bS (model P0 X.w) A (callSpecial? (.ref a) (Str.ofString "__next__")) Q E s:=by
 obtain⟨gs,c₀,t₀,fs₀,lA,me,kz⟩:=R;have tP:=kz aL g s (.refl S) Pv.Apart.noP id A.in1 ⟨hA.handled,by have:=hA.depth;show A.depth+_<_;exact Jp this,by have:=hA.units;exact IZ this⟩;have hgen:∀s',ob.Le s' (ob.gn gi):=λs'=>⟨λ_ _ _ h=>h,λ_ _ h=>.inl h⟩;have Grun:Go X (ob.gn gi) g σ s g σ (s.setGen gi .running):=Go.setGen S (.inr rfl) rfl;simp only[callSpecial?];refine dy (se hG.typeIs sm.lookup ?_);simp only[sm.bind];refine xS (dy (aO (ie ?_)));refine Nq (MK sm.plain entry_gen_next (sm.check _ _ _ _ _ _ _ _ hG.typeIs (args_gen_next _) ?_));show bS _ A.in1 (Builtin.Generator.genWake (.ref a) (.send .none)) _ _ s;unfold Builtin.Generator.genWake;refine dy (eL (OG hG (dy (wpAny_genState lA ?_))))
 have wake:∀{α:Type} {kk:GenResult->Sem α} {Q':α->Shared->Prop} {E':VP} {lv:List Value},
   (∀V l',l=V::l'->∀v g' cg b' s',cg.Le s ob->cg.Ex s'->(∀i,b' i->cg.n i)->Go (X.wb λi=>b' i∨i=gi) (ob.gn gi) g σ s g' σ s'->(∀i x,b i->s'.gens[i]?=some x->x.bare=true∨b' i∨i=gi)->Rep g' V v->ReadyG X k σ gi l' cg b' g' s'->bS (model P0 X.w) A.in1 (kk (.yielded v)) Q' E' s')->
   (∀g' s',l=[]->Go X (ob.gn gi) g σ s g' σ s'->(∀i x,(b i∨i=gi)->s'.gens[i]?=some x->x.bare=true)->bS (model P0 X.w) A.in1 (kk (.returned .none)) Q' E' s')->
   bS (model P0 X.w) A.in1 (.resume gi (.send .none) lv kk) Q' E' s:=by
  intro α kk Q' E' lv hy he Γ p cJ
  have fin:∀dr s₁,PstG X k σ l ob b g (s.setGen gi .running) dr s₁->fQ (model P0 X.w) Γ (kk dr.result) (λa _ s'=>Q' a s') (λe _ s'=>E' e s') p (s₁.setGen gi dr.genState):=λdr s₁ hp=>by
   clear hY hE kz tP;cases l with
   |nil=>
    obtain⟨⟨f,rfl,hf⟩,g',G,vY⟩:=hp;have ai:=Grun.trans (G.weaken (hgen _));have aN:Go X (ob.gn gi) g σ s g' σ (s₁.setGen gi .finished):=ai.trans (Go.setGen ai.sat (.inr rfl) rfl);have hr:(End.ret (.ok f)).result=.returned .none:=by rcases hf with rfl|rfl<;>rfl
    refine aaE hr<|he g' _ rfl aN (λi x hi e=>?_) Γ p cJ;rw[gW]at e
    split at e
    ·(refine aaE (aq (bq e)) ?_);rfl
    ·rename_i bR
     rcases hi with hi|hi
     ·exact vY i x hi e
     ·have hs:=bT dN ai.run.gsize
      exact absurd ⟨hi,hs⟩ bR
   |cons V l'=>
    obtain⟨v,gf,nG,k',c',p',gQ,g',cg,b',rfl,hle,lu,ug,G,mA,rv,CF⟩:=hp;have ai:=Grun.wb.trans (G.weaken (hgen _));have gx:cg.Le s ob:=⟨λb o e q=>hle.1 b o (by exact aaE (xR ..)<|e) q,λi hi q=>hle.2 i (by exact aaE jz<|hi) q⟩;have q6:=bT dN ai.run.gsize;have eO:¬cg.n gi:=λq=>hn (gx.2 gi dN q);have vK:=G.run.gold gi _ (by(exact aaE gW<|aaE (aA ⟨rfl,dN⟩) rfl)) hn
    have aN:Go (X.wb λi=>b' i∨i=gi) (ob.gn gi) g σ s g' σ (s₁.setGen gi (.suspended k' nG c' p' gQ (gf||gQ.any Frame.guarded))):=
     (ai.rewb (b':=λi=>b' i∨i=gi) λi x h _=>.inr (.inl h)).trans (Go.setGenU ai.sat.unwb.wb (.inr rfl) (.inr (.inr rfl)))
    refine hy V l' rfl v g' cg b' (s₁.setGen gi (.suspended k' nG c' p' gQ (gf||gQ.any Frame.guarded))) gx ⟨lu.1,λi q=>by exact aaE jz<|lu.2 i q⟩ ug aN (λi x hi e=>?_) rv ?_ Γ p cJ
    ·rw[gW]at e
     split at e
     ·rename_i q;exact .inr (.inr q.1)
     ·exact(mA i x hi e).imp id .inl
    ·refine(vn _ c' (k' (.send .none)) gQ (by(exact aaE gW<|aaE (aA ⟨rfl,q6⟩) rfl)) (.inr (sU k' nG p' _ rfl rfl)) (λP b8 aU G' aZ D8 A' cp=>?_))
     refine CF P b8 (aU.setGen gi .running) ?_ aZ A' cp
     have oh:s₁=s₁.setGen gi .running:=by
      show s₁={s₁ with gens:=s₁.gens.setIfInBounds gi .running}
      have:s₁.gens.setIfInBounds gi .running=s₁.gens:=by
       apply Array.ext_getElem?;intro j;refine aaE (EP) ?_
       split
       ·rename_i q;subst q;first|exact vK.symm|(rw[aA q6];exact vK.symm)
       ·rfl
      exact aaE this rfl
     exact aaE oh<|Go.underGenU G' q6 D8
  have hW:=(Γ.wake c₀ p);clear kz;rcases me with ⟨rfl,rfl,rfl⟩|⟨jP,mq,lq,cl,rfl,rfl⟩
  ·obtain⟨dr,s₁,hr,hok,hp⟩:=tP (Γ.wake c₀ p) p rfl (cJ.wake c₀ p)
   exact FO (.fresh lA hr hok) (fin dr s₁ hp)
  ·obtain⟨dr,s₁,hr,hok,hp⟩:=tP (Γ.wake c₀ p) lq rfl (cJ.wake c₀ p)
   exact FO (.susp lA hr hok) (fin dr s₁ hp)
 clear lA;cases gs with
 |running=>rcases me with ⟨h,_⟩|⟨_,_,_,_,h,_⟩<;>cases h
 |finished=>rcases me with ⟨h,_⟩|⟨_,_,_,_,h,_⟩<;>cases h
 |_=>
  refine dy (wpAny_roomToWake c9 (by have:=hA.depth;exact zk this) ?_);show bS _ A.in1 (.resume gi (.send .none) [] _) _ _ s;refine wake (λV l' hl v g' cg b' s' h1 h2 h3 h4 h5 h6 h7=>fH (fH (hY V l' hl v g' cg b' s' h1 h2 h3 h4 h5 h6 h7))) λg' s' hl G hb=>?_;refine iN ?_;show wpAny _ A.in1 (newExc (.type "StopIteration") []>>= _) _ _ _;refine ag ?_;simp only[newExc,newTuple];refine ag (iz ?_ (by size_fits));refine ag (m:=firstArgMember _ _) (dn (a:=Value.none) (by first|rfl|(simp only[firstArgMember];rfl)) ?_);refine iz ?_ (by size_fits);simp only[raiseNew];refine ag (ag (xK ?_));exact aaE (show A.in1.handled=none from hA.handled)<|xV<|hE hl _ g' _ (o9 _ _ _ rfl (cB _ rfl) rfl rfl rfl) (G.trans (Go.keeps G.sat λb o e=>bJ _ (bJ _ e))) hb
end
set_option backward.match.sparseCases true
theorem NI:typeLookup (.type "generator") "close"=pure (some (.builtin "generator.close")):=by(refine aaE (A6 ..)<|aaE AB ?_);kernel_rfl
theorem GA(ho:s.heap.get? a=some o)(hc:o.cls=.type "generator")
  (hn:(o.slots=#[]/\n=0)∨o.slots=#[some (rawInt n)])
  (hQ:∀h',h'.get? a=some {o with slots:=#[some (rawInt (if more then n+1 else n - 1))]}->Heap.SameBut a s.heap h'->Q () {s with heap:=h'})(hd:o.data=.fields vs):wpAny M A (Builtin.Generator.sleptOver (.ref a) more) Q E s:=by
 unfold Builtin.Generator.sleptOver;refine ag (sD ho ?_);have:(o.cls !=.type "generator")=false:=by refine aaE hc ?_;rfl
 refine aaE (ar (by rw[this];exact kK)) ?_
 have hs:(match (o.slots[0]?:Option (Option Value))with
  |some (some (Value.int n _))=>n
  |_=>0)=n:=by
  refine az λkk=>?_;rcases hn with ⟨h1,h2⟩|h1
  ·refine kk ?_
   (refine aaE h1<|aaE h2 ?_);rfl
  ·refine kk<|aaE h1 ?_;rfl
 show wpAny M A (setSlotAt a 0 (some (rawInt (if more=true then (match (o.slots[0]?:Option (Option Value))with
  |some (some (Value.int n _))=>n
  |_=>0)+1 else (match (o.slots[0]?:Option (Option Value))with
  |some (some (Value.int n _))=>n
  |_=>0) - 1)))) Q E s
 refine aaE hs ?_;unfold setSlotAt;refine aaE (ar (by rw[df];decide)) ?_;refine wpAny_updatePart ho (hQ _ ?_ (i6 ..));rw[lK _ ho]
 ·rcases hn with ⟨h1,h2⟩|h1<;>refine aaE h1 ?_<;>rfl
 ·exact AA (vs:=vs) hd
section
variable {X:Cx} {k:Nat} {σ:St}
abbrev YS0(X:Cx)(σ:St)(N:Addr)(env:Env)(m:Mp)(aM:Pv)(av:View)(aj:Shared)(own:Pv)(g:View)(s:Shared):Prop:=YS X σ N env ⟨λx=>False,λx=>False⟩ (λx x=>True) m aM av aj own g s
theorem YS0.rebase(Y:YS0 X σ N env m aM av aj own g s)(G:Go (X.wb B) P g σ s g' σ s')(aZ:own.Apart P):YS0 X σ N env m own g' s' own g' s':=by
 have F':=(Y.frm.wb.goP G (λh=>aZ.1 _ Y.foL h) λx c hc h=>aZ.1 _ (Y.foC x c hc) h).unwb;exact⟨.refl G.sat.unwb,Pv.Le.refl _ _,⟨λa h=>du (Y.ex.1 a h) λo e=>G.dom e (aZ.1 a h),λi h=>bT (Y.ex.2 i h) G.run.gsize⟩,F',Y.foL,Y.foC,⟨λy h=>h.elim,λy h=>h.elim⟩,Y.jap,Y.jle,trivial⟩
def GenItG(X:Cx)(k:Nat)(σ:St)(a:Addr)(gi:Nat)(own:Pv)(b:Nat->Prop)(l:List AV)(g:View)(s:Shared):Prop:=
 IsGenS s.heap a gi/\Free X g σ a/\∃ob:Pv,own=ob.gen a gi/\¬ob.a a/\¬ob.n gi/\ob.Ex s/\(∀i,b i->ob.n i)/\gi<s.gens.size/\ReadyG X k σ gi l ob b g s
theorem IsGenS.go{a gi}(hG:IsGenS s.heap a gi)(hf:Free X g σ a)(G:Go (X.wb B) P g σ s g' ab s')(hp:¬P.a a):IsGenS s'.heap a gi:=by
 refine az λkk=>?_;refine jc hG λo nm qn ho hc r=>?_;rcases G.run.keep a o ho hf.2.1 hf.2.2 hp with q|⟨q,_⟩
 ·exact kk<|(pg o nm qn q hc r)
 ·refine bk q λx x q=>?_;rw[r.1]at q;cases q
theorem GenItG.go(h:GenItG X k σ a gi own b l g s)(G:Go X P g σ s g' σ s')(aZ:own.Apart P):GenItG X k σ a gi own b l g' s':=by
 refine az λkk=>?_;refine uT h λhG hf ob ba gc hn hex hb dN R=>?_;clear h;subst ba;have p0:=aZ.1 a (.inr rfl);have t9:=aZ.2 gi (.inr rfl);have eW:ob.Apart P:=⟨λb h1=>aZ.1 b (.inl h1),λi h1=>aZ.2 i (.inl h1)⟩;refine mU (id hG) λoa x x nH x=>?_;exact kk<|(FF (hG.go hf (G.wb (b:=λx=>False)) p0) (hf.go G nH p0) ob rfl gc hn ⟨λb q=>du (hex.1 b q) λo e=>G.dom e (eW.1 b q),λi q=>bT (hex.2 i q) G.run.gsize⟩ hb (bT dN G.run.gsize) (R.go G eW t9))
section
variable {N:Addr} {env:Env}
theorem RM{o:Obj}{i:Int}{t:Tok}{x y:Value}(hc:o.cls=.type "generator")(hd:o.data=.fields #[.int i t,x,y]):o.genNumber?.isSome=true:=by
 obtain⟨c,d,dt,sl⟩:=o;subst hc hd;rfl
theorem QX(hu:∀i,¬X.u i){kin:Nat}(zE:kin+3<=k)(c9:∀h:Heap,X.B.In h->h.NoLimit){a:Addr}{gi:Nat}{c:Code}{fs:List Frame}{kk:Result->Sem Fin}{lv:List Value}{p:Pos}{m:Mp}{l:List AV}
  (hc:GC k c fs)(hq:(fU a).quiet=true)
  (iX:∀A aM av aj own g s,Room A (k+1)->YS0 X σ N env m aM av aj own g s->(gF X k σ).Z A l aM av aj c (kk (.ok (.ret .none))) fs s):
  ∀(R:List AV) A aM (b:Nat->Prop) av aj own g s ob (bi:Nat->Prop),Room A (k+1)->YS0 X σ N env m aM av aj own g s->(ob.gen a gi).Le aj aM->(ob.gen a gi).Apart own->IsGenS s.heap a gi->Free X g σ a->¬ob.a a->¬ob.n gi->ob.Ex s->(∀i,bi i->ob.n i)->gi<s.gens.size->
   ReadyG X kin σ gi R ob bi g s->(∀i,b i->bi i∨i=gi)->SegG (model P0 X.w) A (fU a) (denote table (fU a)) (.ret kk none false lv c p []::fs) s (PstG X k σ (R++l) aM b av aj):=by
 have room:∀{A:Around},Room A (k+1)->Room (A.over (fU a) (.ret kk none false lv c p []::fs)) (kin+2):=λ{A} hA=>by
  have h:=vh A c (fU a) fs kk false lv p [];have hr:=hc.room hA;have hw:(fU a).weight=0:=plainId_weight (by decide+kernel) _;have xc:(fU a).cUnits=1:=plainId_units (by decide+kernel) _;exact⟨h.1.trans hr.handled,by(refine aaE h.2.1<|aaE hw ?_);have:=hr.depth;exact dw (cK (ae (gV _) zE) _) this,by(refine aaE h.2.2<|aaE xc ?_);have:=hr.units;exact tV (n:=1) (b:=_+3) (dw (cK (ia 40 (fF zE)) _) this) (lb rfl)⟩
 have split:splitAtGen (Frame.ret kk none false lv c p []::fs)=none:=by
  show(splitAtGen fs).map _=none;refine aaE hc.split ?_;rfl
 have gn_le:∀{ob:Pv} {s₁ s₂:Shared} {Q:Pv},(ob.gen a gi).Le s₁ Q->(ob.gn gi).Le s₁ Q:=λh=>⟨λb o e q=>h.1 b o e (.inl q),λi hi q=>h.2 i hi q⟩;intro R
 induction R with
 |nil=>
  intro A aM b av aj own g s ob bi hA Y hle aZ hG hf gc hn hex Ef dN R hb;refine aaE (yN ..)<|lS (xT (xS (dy (gX (ie (xN (c9 _ (Y.go.sat.in_.le Y.go.sat.le)) (room hA) hG hn dN Y.go.sat R (λV l' h=>by cases h) λy e g' s' hst G vY=>?_))))));unfold yM;refine lS (iN (aB (Hl hst (Q:=λr aU=>r=true/\aU=s') ⟨rfl,rfl⟩) (λr aU aR=>bY aR λe1 e2=>?_) i2));subst e1 e2;refine aaE (aA rfl)<|mM (id hst) λx obj ws bh ho dA cZ h5=>?_;subst bh;refine lS (iN (gX (lS (iN (d9 ho cZ h5 ?_)))));refine GZ (r:=.ok (.ret .none)) ?_;have jk:own.Apart (ob.gn gi):=⟨λb h1 h2=>aZ.1 b (.inl h2) h1,λi h1 h2=>aZ.2 i h2 h1⟩;have Gt:Go X aM av σ aj g' σ _:=Y.go.comp G (gn_le (s₂:=aj) hle);refine SegG.mono (iX A own g' _ own g' _ hA (YS0.rebase Y (G.wb (b:=λy=>False)) jk)) λe' aU hp=>?_;exact hp.rebase hu Gt Y.le λi x hi ex=>vY i x (hb i hi) ex
 |cons V Rl ih=>
  intro A aM b av aj own g s ob bi hA Y hle aZ hG hf gc hn hex Ef dN Rd hb;refine aaE (yN ..)<|lS (xT (xS (dy (gX (ie (xN (c9 _ (Y.go.sat.in_.le Y.go.sat.le)) (room hA) hG hn dN Y.go.sat Rd (λV' l' h v g' cg b' s' gx lu ug G mA rv R'=>?_) λh=>by cases h))))));cases h;refine fH ?_;show SegG _ A (fU a) (ta (.ref a) v) _ _ _;have p0:¬(ob.gn gi).a a:=gc;have rJ:=hG.go hf G p0;refine mU (id hG) λoa0 y y wD y=>?_;have eH:Free X g' σ a:=Free.go (X:=X.wb _) hf G wD p0;refine sP (id rJ) λoa nm qn nH wV oG rO=>?_;unfold ta;refine lS (iN (wpAny_typeOf rJ.typeIs ?_));refine lS (iN (dn NI ?_));refine lS (iN (aO ?_));refine lS (iN (GA (n:=0) nH wV (rO.imp (λh=>⟨h,rfl⟩) id) (λaF tz fC=>?_) oG));rw[aA rfl]at tz;have jk:own.Apart (ob.gn gi):=⟨λb h1 h2=>aZ.1 b (.inl h2) h1,λi h1 h2=>aZ.2 i h2 h1⟩;have Gs:Go (X.wb λi=>b' i∨i=gi) (cH a) g' σ s' g' σ {s' with heap:=aF}:=Go.sameBut G.sat fC eH rfl;have wZ:(cH a).Le aj aM:=⟨λc o e h=>by rw[show c=a from h]at e ⊢;exact hle.1 a o e (.inr rfl),λy y h=>h.elim⟩;have Gt:Go (X.wb λi=>b' i∨i=gi) aM av σ aj g' σ {s' with heap:=aF}:=(Y.go.wb.comp G (gn_le (s₂:=aj) hle)).comp Gs wZ;have Gst:Go (X.wb λi=>b' i∨i=gi) (ob.gen a gi) g σ s g' σ {s' with heap:=aF}:=(G.weaken (P':=ob.gen a gi) ⟨λy y y h=>Or.inl h,λy y h=>h⟩).trans (Gs.weaken (P':=ob.gen a gi) ⟨λc y y h=>Or.inr h,λy y h=>h.elim⟩);have Y':YS0 X σ N env m own g' {s' with heap:=aF} own g' {s' with heap:=aF}:=YS0.rebase Y Gst aZ.symm;have mB:(cg.gen a gi).Le s (ob.gen a gi):=⟨λc o e h=>h.imp (gx.1 c o e) id,λi hi h=>h.imp (gx.2 i hi) id⟩
  have Lv:(cg.gen a gi).Apart own:=⟨λc h1 h2=>by
    obtain⟨o,e⟩:=Y.ex.1 c h2
    exact aZ.1 c (mB.1 c o e h1) h2,λi h1 h2=>aZ.2 i (mB.2 i (Y.ex.2 i h2) h1) h2⟩
  have Xo:lV {s' with heap:=aF} (fU a)=true:=by
   exact Np tz (RM wV oG)
  refine Gd (v:=v) (gf:=true) (l:=[]) (k:=λwoken=>Builtin.Generator.sleptOver (.ref a) false>>= λy=>HA (.ref a) woken) split (by refine aaE hc.guard ?_;rfl) (λy=>Xo) λp'=>?_
  refine aaE A4<|⟨v,true,[],_,fU a,p',_,g',own.sup (cg.gen a gi),λi=>b' i∨i=gi,rfl,⟨λc o e h=>?_,λi hi h=>?_⟩,⟨λc h=>?_,λi h=>?_⟩,λi h=>?_,Gt,λi x hi e=>?_,rv,λP g3 s3 G3 zF A' cp=>?_⟩
  ·rcases h with h|h
   ·exact Y.le.1 c o e h
   ·have hx:=mB.back' Y.go.run hle
    exact hx.1 c o e h
  ·rcases h with h|h
   ·exact Y.le.2 i hi h
   ·have hx:=mB.back' Y.go.run hle
    exact hx.2 i hi h
  ·rcases h with h|h|h
   ·exact Y'.ex.1 c h
   ·obtain⟨o,e⟩:=lu.1 c h
    by_cases rm:c=a
    ·exact⟨_,by exact aaE rm<|tz⟩
    ·exact⟨o,fC.extBut c o rm e⟩
   ·exact⟨_,by exact aaE h<|tz⟩
  ·rcases h with h|h|h
   ·exact Y'.ex.2 i h
   ·exact lu.2 i h
   ·exact aaE h<|bT dN G.run.gsize
  ·rcases h with h|h
   ·exact .inr (.inl (ug i h))
   ·exact .inr (.inr h)
  ·rcases hb i hi with q|q
   ·exact mA i x q e
   ·exact .inr (.inr q)
  ·have Xp:own.Apart P:=⟨λc h=>zF.1 c (.inl h),λi h=>zF.2 i (.inl h)⟩
   have zG:(cg.gen a gi).Apart P:=⟨λc h=>zF.1 c (.inr h),λi h=>zF.2 i (.inr h)⟩;have Lx:¬P.a a:=zG.1 a (.inr rfl)
   have Zc:s3.heap.get? a=some {oa with slots:=#[some (rawInt 1)]}:=by
    rcases G3.run.keep a _ tz eH.2.1 eH.2.2 Lx with q|⟨q,_⟩
    ·exact q
    ·refine bk q λy y q=>?_;exact absurd (oG.symm.trans q) (by simp)
   have Mg:Free X g3 σ a:=eH.go G3 tz Lx;refine lS (iN (GA (n:=1) Zc wV (.inr rfl) (λir IL mj=>?_) oG));rw[ar kK]at IL;refine lS (iN (aO ?_));refine Gc hq ?_;have Y3:=YS0.rebase Y' (G3.wb (b:=λy=>False)) Xp;have G4:Go X (cH a) g3 σ s3 g3 σ {s3 with heap:=ir}:=Go.sameBut G3.sat mj Mg rfl;have VX:own.Apart (cH a):=⟨λc h1 h2=>Lv.1 c (by exact aaE (show c=a from h2)<|.inr rfl) h1,λy y h=>h.elim⟩
   have Y4:YS0 X σ N env m (own.sup (cg.gen a gi)) g3 s3 own g3 {s3 with heap:=ir}:=by
    have:=YS0.rebase Y3 (G4.wb (b:=λy=>False)) VX;exact⟨G4.weaken ⟨λc y y h=>.inr (.inr h),λy y h=>h.elim⟩,Pv.le_left,this.ex,this.frm,this.foL,this.foC,this.jex,this.jap,this.jle,trivial⟩
   have tT:¬cg.a a:=λq=>gc (gx.1 a _ wD q);have CO:¬cg.n gi:=λq=>hn (gx.2 gi dN q);have Ly:cg.Apart P:=⟨λc h=>zG.1 c (.inl h),λi h=>zG.2 i (.inl h)⟩;have R1:ReadyG X kin σ gi Rl cg b' g' {s' with heap:=aF}:=R'.go (P:=cH a) (Go.sameBut (s':={s' with heap:=aF}) G.sat.unwb fC eH rfl) ⟨λc h1 h2=>tT (by exact aaE (aq (show c=a from h2))<|h1),λy y h=>h.elim⟩ id;have R3:=R1.go G3 Ly (zG.2 gi (.inr rfl));have R4:=R3.go G4 ⟨λc h1 h2=>tT (by exact aaE (aq (show c=a from h2))<|h1),λy y h=>h.elim⟩ id;have Xq:=bT (bT dN G.run.gsize) G3.run.gsize;have Zd:IsGenS ir a gi:=(gZ _ nm qn IL wV oG (.inr rfl))
   have Ze:cg.Ex {s3 with heap:=ir}:=by
    refine⟨λc h=>?_,λi h=>bT (lu.2 i h) G3.run.gsize⟩;obtain⟨o,e⟩:=lu.1 c h;have rm:c≠a:=λq=>tT (q▸h);obtain⟨o',e'⟩:=G3.dom (fC.extBut c o rm e) (Ly.1 c h);exact⟨o',mj.extBut c o' rm e'⟩
   have pN:=ih A' (own.sup (cg.gen a gi)) (λi=>b' i∨i=gi) g3 s3 own g3 {s3 with heap:=ir} cg b' cp Y4 Pv.le_right Lv Zd Mg tT CO Ze ug Xq R4 (λi h=>h);have hd:∀c,(model P0 X.w).den c=denote table c:=λy=>rfl;exact aaE (hd ..)<|pN
end
end
set_option backward.match.sparseCases false
section
variable {X:Cx} {k:Nat} {σ:St}
def Dy(X:Cx)(k:Nat)(σ:St)(N:Addr)(env:Env)(t:Sem Flow)(m:Mp)(l:List AV)(Q:AFl->Mp->List AV->Prop):Prop:=
 ∀c fs,GC k c fs->∀A K H gd lv aM av aj own g s,Room A (k+1)->gd false=false->YS0 X σ N env m aM av aj own g s->
  (∀A f F m l aM av aj own g s,Room A (k+1)->YS0 X σ N env m aM av aj own g s->zo g F f->Q F m l->(gF X k σ).Z A l aM av aj c (K f) fs s)->(gF X k σ).Z A l aM av aj c (t.wrap K H gd lv) fs s
def tH(X:Cx)(k:Nat)(σ:St)(N:Addr)(env:Env)(m:Mp)(st:Stmt)(l:List AV)(Q:AFl->Mp->List AV->Prop):Prop:=Dy X k σ N env (exec st env) m l Q
def pB(X:Cx)(k:Nat)(σ:St)(N:Addr)(env:Env)(m:Mp)(st:List Stmt)(l:List AV)(Q:AFl->Mp->List AV->Prop):Prop:=Dy X k σ N env (execs st env) m l Q
variable {N:Addr} {env:Env} {m:Mp} {l:List AV} {Q:AFl->Mp->List AV->Prop}
theorem ExT.to0(h:ExT (gF X k σ) N env t m l Q):Dy X k σ N env t m l Q:=λc fs hc A K H gd lv aM av aj own g s hA fD Y hK=>
 h c fs _ _ hc (λx x x=>trivial) A K H gd lv aM av aj own g s hA fD Y hK
theorem sH{st:Stmt}(h:∀A',Room A' k->Ex X A' aC (bg N env) env m st σ (Iq σ Q l)):tH X k σ N env m st l Q:=(qQ (M:=gF X k σ) h).to0
theorem va(h:∀A',Room A' k->Ev X A' aC env m e σ (zq σ m Q l V))(hco:env.scope.isCoroutine=false)(hi:interactive env=false):
  tH X k σ N env m (.Expr (.Yield (some e) ypos) pos) (V::l) Q:=(qO (M:=gF X k σ) h hco hi).to0
theorem xF(h:∀A',Room A' k->Ev X A' aC env m e σ (zq σ m Q l (.tup R)))(hi:interactive env=false):
  tH X k σ N env m (.Expr (.YieldFrom e ypos) pos) (R++l) Q:=(xJ (M:=gF X k σ) h hi).to0
theorem dO(h:Q .next m l):pB X k σ N env m [] l Q:=(gq (M:=gF X k σ) h).to0
theorem dV{st:Stmt}{rest:List Stmt}(h:tH X k σ N env m st l (wm (pB X k σ N env) rest Q)):pB X k σ N env m (st::rest) l Q:=λc fs hc A K H gd lv aM av aj own g s hA fD Y hK=>by
 refine aaE (execs_cons_wrap ..)<|h c fs hc A _ H gd lv aM av aj own g s hA fD Y λA' f F m' l' eZ fk fg bU g' s' cp Y' rf q=>?_
 cases F with
 |next=>subst rf;exact q c fs hc A' K H gd lv eZ fk fg bU g' s' cp fD Y' hK
 |brk=>subst rf;exact hK A' .brk .brk m' l' eZ fk fg bU g' s' cp Y' rfl q
 |cont=>subst rf;exact hK A' .cont .cont m' l' eZ fk fg bU g' s' cp Y' rfl q
 |ret V=>refine ax rf λv c5 r=>?_;clear rf;exact aaE c5<|hK A' (.ret v) (.ret V) m' l' eZ fk fg bU g' s' cp Y' (aE v rfl r) q
theorem iM{pos}(h:∀A',Room A' k->EvB X A' aC env m t σ (JR (pB X k σ N env m) a b σ Q l)):tH X k σ N env m (.If t a b pos) l Q:=λc fs hc A K H gd lv aM av aj own g s hA fD Y hK=>by
 have hJ:j9 X σ ⟨λx=>False,λx=>False⟩ (λx x=>True):=λx x x=>trivial;have e:exec (.If t a b pos) env=(do standAt pos;let r ←isTrue t env (eval t env);if r then execs a env else execs b env):=rfl;refine aaE e<|Mach.bind (M:=gF X k σ) (d7 (Mach.bind (aB (h _ (hc.room hA) g s Y.go.sat Y.frm) (λr s' zz=>zz.rec λg' ab G aR=>bY aR λe q=>?_) i2)));subst e;have Y':=Y.step hJ G.any (Y.frm.go G)
 clear zz aR;cases r with
 |true=>exact q c fs hc A K H gd lv aM av aj own g' s' hA fD Y' hK
 |false=>exact q c fs hc A K H gd lv aM av aj own g' s' hA fD Y' hK
def Dz(X:Cx)(A:Around)(E:VP)(k:Nat)(env:Env)(m:Mp)(e:Expr)(σ:St)(l:List AV):Prop:=
 ∀g s,Sat X g σ s->Frm X env m g σ s->wpAny (model P0 X.w) A (eval e env) (λv s₁=>∃a gi aJ own,v=.ref a/\Go X aL g σ s aJ σ s₁/\own.Le s aL/\GenItG X k σ a gi own (λx=>False) l aJ s₁) E s
theorem FQ{A:Around}{E:VP}{s:Shared}{a:Addr}{g:Nat}{Q:VP}(hT:s.TypeIs (.ref a) "generator")(h:Q (.ref a) s):wpAny (model P0 X.w) A (pyIter (.ref a)) Q E s:=by
 refine wpAny_pyIter_slot hT slot_gen_iter (i7 slot_gen_iter hT entry_gen_iter ?_ (args_gen_iter _));exact aO (GK _ rfl ("generator") _ hT sm.lookup h)
theorem Bg(hu:∀i,¬X.u i)(c9:∀h:Heap,X.B.In h->h.NoLimit){kin:Nat}(zE:kin+3<=k){e:Expr}{ypos pos:Pos}{R:List AV}(h:∀A',Room A' k->Dz X A' aC kin env m e σ R)(hq:Q .next m l)(hi:interactive env=false):
  tH X k σ N env m (.Expr (.YieldFrom e ypos) pos) (R++l) Q:=λc fs hc A K H gd lv aM av aj own g s hA fD Y hK=>by
 have hJ:j9 X σ ⟨λx=>False,λx=>False⟩ (λx x=>True):=λx x x=>trivial;refine aaE (exec_Expr env _ pos hi rfl)<|Mach.bind (M:=gF X k σ) (d7 ?_)
 (refine aaE (arm_eval_YieldFrom ..)<|aaE (ju ..)<|aaE (ju ..)<|aaE (jZ ..)<|aaE (jZ ..) ?_)
 refine(gF X k σ).wrap (aB (h _ (hc.room hA) g s Y.go.sat Y.frm) (λv s' ba=>lT ba λa gi g' og hv G ho hg=>?_) i2);clear ba;refine aaE hv ?_;have Y':=Y.step hJ G.any (Y.frm.go G);refine(gF X k σ).wrap (m:=standAt ypos) (H:=.raise) (gd:=id) (lv:=id) (d7 ?_);refine Mach.bind (M:=gF X k σ) (t:=typeOf (.ref a)) (wpAny_typeOf hg.1.typeIs ?_);dsimp only;refine aaE (ar (by decide))<|Mach.bind (M:=gF X k σ) (t:=holding [.ref a] (pyIter (.ref a))) (eL (FQ (g:=gi) hg.1.typeIs ?_));refine(gF X k σ).call λp=>?_;show(gF X k σ).Z _ _ _ _ _ (fU a) (denote table (fU a)) (.ret _ none (gd false) (lv []) c p []::fs) _;refine aaE fD<|az λkk=>?_;refine uT hg λhG hf ob dY gc hn hex hb dN R'=>?_;clear hg;subst dY
 have hle:(ob.gen a gi).Le aj aM:=by
  have h1:(ob.gen a gi).Le s aM:=⟨λb o e h=>(ho.1 b o e h).elim,λi hi h=>(ho.2 i hi h).elim⟩;exact h1.back' Y.go.run (Pv.Le.refl _ _)
 have aZ:(ob.gen a gi).Apart own:=⟨λb h1 h2=>du (Y.ex.1 b h2) λo e=>(ho.1 b o e h1).elim,λi h1 h2=>(ho.2 i (Y.ex.2 i h2) h1).elim⟩;refine kk<|QX hu zE c9 hc (Code.quiet_builtin _ (by decide+kernel)) (λA' eZ fk fg bU b8 aU cp Yy=>?_) R A aM (λx=>False) av aj own g' s' ob (λx=>False) hA Y' hle aZ hG hf gc hn hex (λx h=>h.elim) dN R' λx h=>h.elim;exact hK A' .next .next m l eZ fk fg bU b8 aU cp Yy rfl hq
theorem Ob(h:pB X k σ N env m body l λF x l'=>l'=[]/\(F=.next∨F=.ret .none))
  (hA:Room A (k+1))(Y:YS0 X σ N env m aM av aj own g s):
  (gF X k σ).Z A l aM av aj (.func body env) (denote table (.func body env)) [] s:=by
 refine Mach.bind0 (M:=gF X k σ) (xW ?_)
 (refine aaE (ju ..)<|aaE (qs ..)<|aaE (jZ ..) ?_)
 refine h _ _ Hm A _ _ _ _ aM av aj own g s hA rfl Y λA' f F m' l' eZ fk fg bU g' s' cp Y' rf bh=>bY bh λe q=>?_;subst e;clear bh;rcases q with rfl|rfl
 ·subst rf;exact(gF X k σ).fin Y'.go (.inr rfl)
 ·obtain⟨v,rfl,r⟩:=rf
  exact aaE r<|(gF X k σ).fin Y'.go (.inr rfl)
def BQ(X:Cx)(k:Nat)(f:AV)(args:List AV)(σ:St)(l:List AV):Prop:=
 ∀A g s fv vs,Room A (k+2)->Sat X g σ s->Rep g f fv->RepL g args vs->codeAny (model P0 X.w) A (.call fv ⟨vs,[]⟩) (λr s'=>∃a gi g' own,r=.ok (.ret (.ref a))/\Go X aL g σ s g' σ s'/\own.Le s aL/\GenItG X k σ a gi own (λx=>False) l g' s') s
theorem BE(F:FnAt X a fd body)(xs:List Str)
  (jI:∀g s vs,Sat X g σ s->RepL g args vs->∃dz,RepL g vX dz/\BindsTo s fd ⟨vs,[]⟩ (xs.zip dz))
  (hx:xs.all (λx=>fd.scope.names.lookup x==some .local||fd.scope.names.lookup x==some .cell)=true)
  (h:∀L,pB X k σ L (callEnvC fd L a) (g8 xs vX Mp.nil) body l λF z l'=>l'=[]/\(F=.next∨F=.ret .none))
  (hclo:fd.closure=[])(hco:fd.scope.isCoroutine=false)(hgen:fd.scope.isGenerator=true)(hk:fd.scope.kind=.function):
  BQ X k (.ref a) args σ l:=λA g s fv vs hA S hf r=>by
 refine aaE hf<|ax (F.obj S) λo ho hd=>?_;refine ax (jI g s vs S r) λdz r' hb=>?_;refine codeAny_call_generator (by have:=hA.depth;exact zk this) ho hd hco hgen F.body (F.cdRec S) (hb _ _ _ _ ?_);refine aaE hclo<|r5 hk (λy hy=>?_) λenv he s' x=>?_
 ·have hm:y.1∈xs:=(uE hy).1
  have:=nR.mp hx y.1 hm;rw[qy,cM,cM]at this;rcases this with q|q
  ·exact .inl q
  ·exact .inr ⟨q,du (nU fd.scope.names (s.heap.objs.size+1) [] q) λc hc=>by refine aaE hc ?_;rfl⟩
 ·have fX:env=callEnvC fd s.heap.objs.size a:=he
  clear he;subst fX;have Fr:=qD (a:=a) S r' hk hx x;have G:=qM S x (P:=aL);refine(GJ ((F.noLimit S).keeps x.toInCall.keep) s'.heap.objs.size s'.gens.size g ((bg s.heap.objs.size (callEnvC fd s.heap.objs.size a)).gen s'.heap.objs.size s'.gens.size) rfl ?_);generalize eW:({cls:=.type "generator",data:=.fields #[.int s'.gens.size 0,.str fd.name s'.toks,.str fd.qualname (s'.toks+1)]}:Obj)=ob;have kp:∀b o,s'.heap.get? b=some o->(s'.heap.push ob).get? b=some o:=λb o e=>bJ _ e;have aN:∀{P:Pv},Go X P g σ s' g σ {s' with gens:=s'.gens.push (.fresh (.func body (callEnvC fd s.heap.objs.size a))),toks:=s'.toks+1+1,heap:=s'.heap.push ob}:=Go.keepsG G.sat kp rfl rfl rfl;have hle:(bg s.heap.objs.size (callEnvC fd s.heap.objs.size a)).Le s aL:=pj (bC _)
  have hsz:∀o,s.heap.get? s'.heap.objs.size=some o->False:=λo e=>by
   obtain⟨o',e'⟩:=G.dom e id;exact de _ (cC e')
  refine⟨G.trans aN,⟨λb o e h=>?_,λi hi h=>?_⟩,.of (gZ ob (.str fd.name s'.toks) (.str fd.qualname (s'.toks+1)) (cB _ (by refine aaE (aq eW) ?_;rfl)) (by exact aaE (aq eW) rfl) (by exact aaE (aq eW) rfl) (by exact aaE (aq eW) rfl)),dG G.sat (bC _),_,rfl,λh=>?_,id,⟨λb h=>?_,λz h=>h.elim⟩,λz h=>h.elim,?_,?_⟩
  ·rcases h with h|rfl
   ·exact hle.1 b o e h
   ·exact hsz o e
  ·rcases h with h|rfl
   ·exact h.elim
   ·exact de _ (bT hi G.run.gsize)
  ·obtain⟨o',e'⟩:=pq Fr _ h
   exact de _ (cC e')
  ·obtain⟨o',e'⟩:=pq Fr _ h
   exact⟨o',kp _ _ e'⟩
  ·exact aaE (sg ..)<|lN _
  ·refine(vn (.fresh (.func body (callEnvC fd s.heap.objs.size a))) (.func body (callEnvC fd s.heap.objs.size a)) _ _ (by simp) (.inl (cA rfl rfl rfl)) (λP b8 aU dX aZ t9 A' cp=>?_))
   have Eb:=aZ.1 _ ⟨bC _,.inl rfl⟩;have wX:∀x c,(callEnvC fd s.heap.objs.size a).cells.lookup x=some c->¬P.a c:=λy c hc=>aZ.1 c ⟨dS (x.above y c (mem_of_lookup hc)),.inr ⟨y,hc⟩⟩;have jK:=(Fr.go aN).goP dX Eb wX;have Gr:Go X (bg s.heap.objs.size (callEnvC fd s.heap.objs.size a)) b8 σ (aU.setGen s'.gens.size .running) b8 σ (aU.setGen s'.gens.size .running):=.refl (dX.sat.heap rfl);have eN:Frm X (callEnvC fd s.heap.objs.size a) (g8 xs vX Mp.nil) b8 σ (aU.setGen s'.gens.size .running):=jK.heapEq rfl;exact Ob (h s.heap.objs.size) cp ⟨Gr,Pv.Le.refl _ _,⟨λb h=>pq eN b h,λz h=>h.elim⟩,eN,⟨bC _,.inl rfl⟩,λy c hc=>⟨dS (x.above y c (mem_of_lookup hc)),.inr ⟨y,hc⟩⟩,⟨λz h=>h.elim,λz h=>h.elim⟩,⟨λz h=>h.elim,λz h=>h.elim⟩,⟨λz h=>h.elim,λz h=>h.elim⟩,trivial⟩
theorem yf(hA:Room A (k+2))(h:Ev X A E env m fe σ (LQ X (iR X A E env m args pos) (BQ X k) σ l))
  (he:eval (.Call fe args [] pos) env=(do callWith pos (←eval fe env) [] (backTo pos (starEach args env)) (backToKw pos (keywordEach [] env))):=by rfl)
  (hst:(starEach args env).all (λx=> !x.1)=true):Dz X A E k env m (.Call fe args [] pos) σ l:=λg s S F=>
 Call_ (aB (h g s S F) (λfv s₁ zz=>zz.rec λaJ f ay ai aX aF=>by
  refine o6 (fvs:=[]) aX (aB (aF aJ s₁ ai.sat (F.go ai)) (λvs s₂ zz=>zz.rec λbj as aS aN dJ bN=>ei bN λe kv hg=>?_) i2) hst;clear h S F aF zz bN;clear zz;subst e;refine⟨(ey bj _ aN.sat kv),sC (gU (hg A bj s₂ fv vs hA aN.sat (aX.le aN.le) dJ) λr a8 cI=>lT cI λa gi eG own hr bL ho hi=>?_)⟩;clear cI;refine aaE hr ?_;have G:=ai.trans aN
  exact(lU a gi eG own rfl (G.trans bL) ⟨λb o e q=>du (G.dom e id) λo' e'=>ho.1 b o' e' q,λi gz q=>ho.2 i (bT gz G.run.gsize) q⟩ hi)) i2) he
end
set_option backward.match.sparseCases true
section
variable {prog:Program} {w:World} {A:Around} {s:Shared}
theorem Nb{R:Result->Shared->Prop}{id:String}{args:Args}{b:Builtin}(hb:entryFor table id=some b)
  (h:bS (model prog w) (A.under (.builtin id args)) (b args) (λfin s'=>match fin with|.done f=>R (.ok f) s'|.again c'=>c'.quiet=true/\gu (model prog w) A c' R s') (λe s'=>R (.error e) s') s):gu (model prog w) A (.builtin id args) R s:=by
 refine oU ?_;show bS _ _ (match entryFor table id with|some b=>b args|none=>unsupported ((withoutEnding? id "#data").getD id)) _ _ s;exact aaE hb<|h
theorem OH{T newId initId:String}{Bi:Builtin}{args:List Value}{Q:VP}(ft:TypeCalled T newId initId)(Zf:checkTypeCall T ⟨args,[]⟩=pure ())(entryI:entryFor table initId=some Bi)
  (zC:gu (model prog w) A.in1 (.call (.builtin newId) ⟨.type T::args,[]⟩) (λr s'=>∃obj,r=.ok (.ret obj)/\s'.TypeIs obj T/\argsOk initId ⟨obj::args,[]⟩/\
   wpAny (model prog w) A.in1.in1 (Bi ⟨obj::args,[]⟩) (λfin s'=>match fin with|.done f=>wants (λr s₂=>r=.none/\Q obj s₂) aC (.ok f) s'|.again c'=>c'.quiet=true/\codeAny (model prog w) A.in1 c' (wants (λr s₂=>r=.none/\Q obj s₂) aC) s')
    (λe s'=>wants (λr s₂=>r=.none/\Q obj s₂) aC (.error e) s') s') s):
  bS (model prog w) A (call (.type T) args) Q aC s:=by
 refine bk ft.mro λc tl Xr=>?_;have VY:=ft.made;have mv:=ft.sub;refine yu (oU ?_);refine fH ⟨Code.quiet_builtin _ (by decide+kernel),Nb F.entry_type_call ?_⟩;refine aaE (Around.under_plain (weight_type_call_type T args []) rfl) ?_;have h1:=ft.notType;have h2:=ft.canCreate;unfold Builtin.«type.__call__»;dsimp only
 (refine aaE h1<|aaE h2<|aaE Zf<|aaE Xr<|aaE VY ?_)
 simp only[nO,j7,pure_bind,List.isEmpty_cons];refine ie (xS (yu (uZ zC λr s₁ aR=>kX aR λobj hr hT hok Zg=>?_)));refine⟨obj,hr,iN ?_⟩;refine ag (lO hT mv ?_);refine aaE (ar (by decide))<|ag (eL (mE hT ft.init (sC (gU (codeAny_call_builtin ft.init.plain entryI (ft.init.check _ _ _ _ _ _ _ _ hT hok Zg)) λdJ s₂ CP=>?_))))
 cases dJ with
 |error e=>exact CP.elim
 |ok VZ=>
  cases VZ with
  |ret r=>
   obtain⟨rfl,hq⟩:=CP;dsimp only;exact aaE (ar (by decide))<|aO ⟨_,rfl,hq⟩
  |_=>exact CP.elim
end
theorem Na(x:Value):Builtin.«tuple.__new__» ⟨[.type "tuple",x],[]⟩=(do
  let b ←Builtin.Tuple.tupleIsExact x
  if b then do rule "tuple.new.same-object";ret x else do
  let l ←collect x;let v ←Builtin.Tuple.tupleExact l.toArray
  ret v):=by
 have mv:=sub_tuple_self;have IJ:=init_tuple_lookup;have L8:=madeHere_tuple;unfold Builtin.«tuple.__new__»;dsimp only;have e1:isType (.type "tuple")=pure true:=rfl;refine aaE e1 ?_;simp only[pure_bind,Bool.not_true,nO,j7,mv,IJ,L8]
 (refine aaE (ar (by decide+kernel))<|aaE (aA rfl) ?_)
 (refine aaE (show noKeywords "tuple" ⟨[Value.type "tuple",x],[]⟩=pure ()from rfl)<|aaE (show checkCount "tuple" 0 1 [x].length=pure ()from rfl) ?_)
 simp only[pure_bind];exact aaE (aA rfl) rfl
section
variable {X:Cx} {k:Nat} {σ:St}
theorem NJ(hu:∀i,¬X.u i)(c9:∀h:Heap,X.B.In h->h.NoLimit)(hS:Pb.a S):
  ∀(l:List AV) A own b (B:Nat->Prop) out g s,Room A (k+3)->Go (X.wb B) Pb av σ aj g σ s->own.Le aj Pb->¬own.a S->GenItG X k σ a gi own b l g s->(∀i,B i->b i∨i=gi)->Dst X S out g σ s->out.length+l.length<=65536->
   gu (model P0 X.w) A (.builtin "list.extend.loop" ⟨[.ref S,.ref a,res],[]⟩) (λr s'=>r=.ok (.ret res)/\∃g',Go X Pb av σ aj g' σ s'/\Dst X S (out++l) g' σ s') s:=by
 intro l
 induction l with
 |nil=>
  intro A own b B out g s hA G ho eu hit hB hd hz;refine uT hit λhG hf ob dY gc hn hex hb dN R=>?_;subst dY;refine sk qt AL ?_;show bS _ A.in1 (pyNext (.ref a)>>= _) _ _ s;unfold pyNext;refine ie (ie (xT (xN (c9 _ (G.sat.in_.le G.sat.le)) hA.in1 hG hn dN G.sat.unwb R (λV l' h=>by cases h) λy e g' s' hst G' vY=>?_)));refine mM (id hst) λx obj ws iV dj dA cZ h5=>?_;refine aaE iV ?_;refine dy (lO (T:="StopIteration") (b:=true) (aE obj dj dA) Bd ?_);refine fH (fH (dP rfl g' ?_ ?_))
  ·refine Go.unwb (b:=B) (G.comp G'.wb ⟨λc o e h=>ho.1 c o e (.inl h),λi hi h=>ho.2 i hi h⟩) λi x hi e=>vY i x (hB i hi) e
  ·exact aaE (jX ..)<|hd.go G' λh=>eu (.inl h)
 |cons V l ih=>
  intro A own b B out g s hA G ho eu hit hB hd hz;refine uT hit λhG hf ob jl gc hn hex hb dN R=>?_;clear hit;subst jl;refine sk qt AL ?_;show bS _ A.in1 (pyNext (.ref a)>>= _) _ _ s;unfold pyNext;refine ie (ie (xT (xN (c9 _ (G.sat.in_.le G.sat.le)) hA.in1 hG hn dN G.sat.unwb R (λV' l' h v g' cg b' s' gx lu ug G' mA rv R'=>?_) λh=>by cases h)));cases h;refine fH ?_;refine mU (id hG) λoa0 y y wD y=>?_;have rJ:=hG.go hf G' gc;have eH:Free X g' σ a:=Free.go (X:=X.wb _) hf G' wD gc;have tT:¬cg.a a:=λq=>gc (gx.1 a _ wD q);have CO:¬cg.n gi:=λq=>hn (gx.2 gi dN q);have mB:(cg.gen a gi).Le s (ob.gen a gi):=⟨λc o e h=>h.imp (gx.1 c o e) id,λi hi h=>h.imp (gx.2 i hi) id⟩;have Zh:Dst (X.wb λi=>b' i∨i=gi) S out g σ s:=hd;refine fJ (Zh.go G' λh=>eu (.inl h)) λEk ys jL ry=>?_;obtain⟨oS,vQ,Ec,n,wY⟩:=jL;have hlen:ys.length=out.length:=ry.length;refine dy (qB vQ wY (fH ⟨lQ qt _,?_⟩) (by(refine aaE df<|aaE f3<|aaE hlen ?_);simp at hz;exact Jo hz) (by(refine aaE df<|aaE (sg ..)<|aaE f3<|aaE hlen ?_);simp at hz;exact Jx hz));obtain⟨n',wB⟩:=uF wY (·.push v);have tv:=lK (Obj.mapSeq (·.push v)) vQ (uy wB)
  have Ga:Go (X.wb λi=>B i∨b' i∨i=gi) Pb av σ aj g' σ s':=
   (G.rewb (b':=λi=>B i∨b' i∨i=gi) λi x h y=>.inr (.inl h)).comp (G'.rewb (b':=λi=>B i∨b' i∨i=gi) λi x h y=>.inr (.inr h)) ⟨λc o e h=>ho.1 c o e (.inl h),λi hi h=>ho.2 i hi h⟩
  have ai:Go (X.wb λi=>b' i∨i=gi) Pb av σ aj g' σ s':=Ga.rewb λi x h e=>by
   rcases h with h|h
   ·rcases hB i h with q|q
    ·exact mA i x q e
    ·exact .inr (.inr q)
   ·exact .inr h
  have aN:Go (X.wb λi=>b' i∨i=gi) Pb g' σ s' g' σ {s' with heap:=s'.heap.update S (Obj.mapSeq (·.push v))}:=Go.sameBut G'.sat (i6 ..) Ek hS;have CH:Go X (cH S) g' σ s' g' σ {s' with heap:=s'.heap.update S (Obj.mapSeq (·.push v))}:=Go.sameBut G'.sat.unwb (i6 ..) Ek rfl
  have pK:¬(cg.gen a gi).a S:=λq=>by
   obtain⟨o,e⟩:=hd.at;exact eu (mB.1 S o e q)
  have aZ:(cg.gen a gi).Apart (cH S):=⟨λc h1 h2=>pK (by exact aaE (aq (show c=S from h2))<|h1),λy y h=>h.elim⟩;have iu:GenItG X k σ a gi (cg.gen a gi) b' l g' s':=(FF rJ eH cg rfl tT CO lu ug (bT dN G'.run.gsize) R');have md:Dst X S (out++[V]) g' σ {s' with heap:=s'.heap.update S (Obj.mapSeq (·.push v))}:=(dP Ek (ys++[v]) (kY _ tv ((uI ..).trans Ec) n' (by refine aaE wB ?_;simp)) (ry.append (.cons rv .nil)));refine uZ (ih A (cg.gen a gi) b' (λi=>b' i∨i=gi) (out++[V]) g' _ hA (ai.trans aN) (mB.back' G.run ho) pK (iu.go CH aZ) (λi h=>h) md (by simp at hz ⊢;exact Dm hz)) λr s' ba=>fJ ba λh1 g' h2 h3=>(dP h1 g' h2 (by simpa using h3))
theorem Pq(hu:∀i,¬X.u i)(c9:∀h:Heap,X.B.In h->h.NoLimit)(hA:Room A (k+3))(G:Go X aL av σ aj g σ s)(mi:∀o,aj.heap.get? S=some o->False)(hd:Dst X S [] g σ s)
  (hgen:GenItG X k σ a gi own (λx=>False) l g s)(ho:own.Le aj aL)(eu:¬own.a S)(hz:l.length<=65536):
  bS (model P0 X.w) A.in1 (Builtin.List.listExtendWith (.ref S) (.ref a) res) (λfin s'=>match fin with
   |.done f=>(Except.ok f:Result)=.ok (.ret res)/\∃g',Go X aL av σ aj g' σ s'/\Dst X S l g' σ s'
   |.again c'=>c'.quiet=true/\gu (model P0 X.w) A c' (λr s'=>r=.ok (.ret res)/\∃g',Go X aL av σ aj g' σ s'/\Dst X S l g' σ s') s') aC s:=by
 have drop:∀{g':View} {s':Shared},Go X (cH S) av σ aj g' σ s'->Go X aL av σ aj g' σ s':=λG=>G.weaken ⟨λb o e h=>mi o (by exact aaE (aq (show b=S from h))<|e),λx x h=>h⟩;have zZ:own.Le aj (cH S):=⟨λb o e h=>(ho.1 b o e h).elim,λi hi h=>(ho.2 i hi h).elim⟩
 have wZ:S≠a:=λe=>by
  refine az λkk=>?_;refine jF hgen λx x ob rH x=>?_;exact kk<|eu (by(refine aaE rH<|aaE e ?_);exact .inr rfl)
 have hT:=hgen.1.typeIs;unfold Builtin.List.listExtendWith;refine dy (wpAny_typeOf hT ?_);have oh:Builtin.List.listSameRef (.ref S) (.ref a)=false:=by simp[Builtin.List.listSameRef,wZ]
 simp only[oh,show(Value.type "generator"==Value.type "list")=false from by decide,show(Value.type "generator"==Value.type "tuple")=false from by decide,Bool.or_false,nO,j7];refine dy (FQ (g:=gi) hT ?_);refine dy (eL (GQ hT λb tk=>?_));have Gt:Go X aL g σ s g σ {s with toks:=tk}:=Go.keeps G.sat λx x e=>e;have gz:=hgen.go Gt Pv.Apart.noP;have md:=hd.go Gt id;have aN:Go X (cH S) av σ aj g σ {s with toks:=tk}:=(G.trans Gt).any
 have loop:∀a8,Go X (cH S) g σ {s with toks:=tk} g σ a8->Dst X S [] g σ a8->bS (model P0 X.w) A.in1 (again (.builtin "list.extend.loop" ⟨[.ref S,.ref a,res],[]⟩)) (λfin s'=>match fin with
   |.done f=>(Except.ok f:Result)=.ok (.ret res)/\∃g',Go X aL av σ aj g' σ s'/\Dst X S l g' σ s'
   |.again c'=>c'.quiet=true/\gu (model P0 X.w) A c' (λr s'=>r=.ok (.ret res)/\∃g',Go X aL av σ aj g' σ s'/\Dst X S l g' σ s') s') aC a8:=λa8 bL tu=>by
  have aZ:own.Apart (cH S):=⟨λb h1 h2=>eu (by exact aaE (aq (show b=S from h2))<|h1),λx x h=>h.elim⟩;refine fH ⟨lQ qt _,uZ (NJ (Pb:=cH S) hu c9 rfl l A own _ (λx=>False) [] g a8 hA (aN.trans bL).wb zZ eu (gz.go bL aZ) (λx h=>h.elim) tu (by simpa using hz)) λr s' bh=>fJ bh λh1 g' h2 h3=>(dP h1 g' (drop h2) (by simpa using h3))⟩
 split
 ·refine dy (gX (dy ?_))
  refine az λkk=>?_;refine fJ (id md) λbH ys jM r=>?_;obtain⟨o,ho,hc,n,jn⟩:=jM;have e0:ys=[]:=by exact r
  subst e0;refine kk<|ag (qB ho jn ?_);obtain⟨n',cZ⟩:=uF jn (·.push Value.none);have fC:=lK (Obj.mapSeq (·.push Value.none)) ho (uy cZ);refine qB fC cZ ?_;obtain⟨my,wC⟩:=uF cZ (·.pop);have dW:=lK (Obj.mapSeq (·.pop)) fC (uy wC);have Ga:Go X (cH S) g σ {s with toks:=tk} g σ {s with toks:=tk,heap:=s.heap.update S (Obj.mapSeq (·.push Value.none))}:=Go.sameBut Gt.sat (i6 ..) bH rfl;have Gb:Go X (cH S) g σ {s with toks:=tk,heap:=s.heap.update S (Obj.mapSeq (·.push Value.none))} g σ {s with toks:=tk,heap:=(s.heap.update S (Obj.mapSeq (·.push Value.none))).update S (Obj.mapSeq (·.pop))}:=Go.sameBut Ga.sat (i6 ..) bH rfl;exact loop _ (Ga.trans Gb) (dP bH ([]) (kY _ dW ((uI ..).trans ((uI ..).trans hc)) my (by refine aaE wC ?_;rfl)) .nil)
 ·exact loop _ (.refl Gt.sat) md
theorem NK(hu:∀i,¬X.u i)(c9:∀h:Heap,X.B.In h->h.NoLimit)(hA:Room A (k+4))(G:Go X aL av σ aj g σ s)(hgen:GenItG X k σ a gi own (λy=>False) l g s)(ho:own.Le aj aL)(hz:l.length<=65536):
  bS (model P0 X.w) A (collect (.ref a)) (λvs s'=>∃g',Go X aL av σ aj g' σ s'/\RepL g' l vs) aC s:=by
 unfold collect;refine ie (Fz (sk (by decide+kernel) F.entry_proto_collect ?_));refine dy (iz ?_ (by size_fits));refine fH ⟨lQ AQ _,sk AQ F.entry_list_iadd ?_⟩;have Gk:Go X aL g σ s g σ {s with heap:=s.heap.push {cls:=.type "list",data:=.seq ([]:List Value).toArray}}:=Go.keeps G.sat λb o e=>bJ _ e;have tw:=hgen.go Gk Pv.Apart.noP;have hS:∀o,s.heap.get? s.heap.objs.size=some o->False:=λo e=>de _ (cC e);have mi:∀o,aj.heap.get? s.heap.objs.size=some o->False:=λo e=>du (G.dom e id) λo' e'=>hS o' e'
 have eu:¬own.a s.heap.objs.size:=λq=>by
  refine uT hgen λhG hf ob jN gc hn hex hb dN R=>?_;clear hgen ho tw;subst jN;rcases q with q|q
  ·obtain⟨o,e⟩:=hex.1 _ q;exact hS o e
  ·refine mU hG λo y y e y=>?_;rw[←q]at e;exact hS o e
 have hd:Dst X s.heap.objs.size [] g σ {s with heap:=s.heap.push {cls:=.type "list",data:=.seq ([]:List Value).toArray}}:=(dP (dG G.sat (bC _)) ([]) (kY _ (cB _ rfl) rfl 0 rfl) .nil);refine jb (Pq hu c9 (hA.mono (gV _)) (G.trans Gk) mi hd tw ho eu hz) (λfin s' h=>?_) λy y x=>x.elim
 have fin_:∀{s':Shared},(∃g',Go X aL av σ aj g' σ s'/\Dst X s.heap.objs.size l g' σ s')->bS (model P0 X.w) A (do match (←load s.heap.objs.size).data with
   |.seq xs _=>pure xs.toList
   |_=>unsupported "internal:collect") (λvs s'=>∃g',Go X aL av σ aj g' σ s'/\RepL g' l vs) aC s':=λ{s'} bN=>BW bN λg' h1 hf ys ⟨o,ho,hc,n,jn⟩ r=>by
  refine dy (sD ho ?_);exact aaE jn<|fH (aE g' h1 (by simpa using r))
 cases fin with
 |done f=>obtain⟨h1,h2⟩:=h;cases h1;exact(aE _ rfl (fin_ h2))
 |again c'=>exact⟨h.1,uZ h.2 λr aU c5=>bY c5 λh1 h2=>(aE _ h1 (fin_ h2))⟩
theorem MW(hu:∀i,¬X.u i)(c9:∀h:Heap,X.B.In h->h.NoLimit)(hA:Room A (k+6))(G:Go X aL av σ aj g σ s)(hgen:GenItG X k σ a gi own (λy=>False) l g s)(ho:own.Le aj aL)(hz:l.length<=65536)(h:Q (.tup l) σ):
  bS (model P0 X.w) A (call (.type "tuple") [.ref a]) (Post X aL av σ aj Q) aC s:=by
 refine OH uJ (F.typeCall_tuple_1 _) Fe (oU ?_);show bS _ A.in1.in1 (do checkBuiltinCall "tuple.__new__" ⟨[.type "tuple",.ref a],[]⟩;again (.builtin "tuple.__new__" ⟨[.type "tuple",.ref a],[]⟩)) _ _ s;refine dy (dn (F.newCall_tuple_1 _) (fH ⟨lQ AR _,sk AR F.entry_tuple_new ?_⟩));refine aaE (Na ..) ?_;have dB:=hgen.1.typeIs;refine dy (m:=Builtin.Tuple.tupleIsExact (.ref a)) (ag (wpAny_typeOf dB (aO ?_)));refine aaE (ar (by decide))<|ie (jb (NK hu c9 hA.in1.in1 G hgen ho hz) (λvs s' dY=>ax dY λg' G' rv=>?_) λy y x=>x.elim);have hn:=View.none_of G'.sat.in_ iJ;refine dy (iz ?_ (by show vs.toArray.size<=sizeLine;(refine aaE df<|aaE f3<|aaE rv.length ?_);exact kA hz));have gR:Shared.TypeIs {s' with heap:=s'.heap.push {cls:=.type "tuple",data:=.seq vs.toArray}} (.ref s'.heap.objs.size) "tuple":=(aE _ (cB _ rfl) rfl)
 have hP:Post X aL av σ aj Q (.ref s'.heap.objs.size) {s' with heap:=s'.heap.push {cls:=.type "tuple",data:=.seq vs.toArray}}:=by
  refine Post.to (G'.trans (Go.keeps_add G'.sat (λb o e=>bJ _ e) iJ (cB _ rfl))) (aE (.tup l) ?_ h);exact(cy _ vs rfl (qL rfl rfl) (rv.le (View.le_add _ hn)))
 refine fH (jG _ rfl gR (xp _ _) (object_init_meets uJ.init.lookup uJ.made (by decide) P0 X.w A.in1 _ _ (cA gR rfl hP)))
end
set_option backward.match.sparseCases false
set_option backward.match.sparseCases true
def zS(X:Cx)(A:Around)(env:Env)(m:Mp)(e:Expr)(σ:St)(Q:AP):Prop:=
 ∀g s,Sat X g σ s->Frm X env m g σ s->bS (model P0 X.w) A (eval e env) (Post X aL g σ s Q) aC s
def ExJ(X:Cx)(A:Around)(P:Pv)(env:Env)(m:Mp)(st:Stmt)(σ:St)(Q:AFl->Mp->St->Prop):Prop:=
 ∀g s,Sat X g σ s->Frm X env m g σ s->bS (model P0 X.w) A (exec st env) (PostX X P env g σ s Q) aC s
def wq(X:Cx)(A:Around)(P:Pv)(env:Env)(m:Mp)(st:List Stmt)(σ:St)(Q:AFl->Mp->St->Prop):Prop:=
 ∀g s,Sat X g σ s->Frm X env m g σ s->bS (model P0 X.w) A (execs st env) (PostX X P env g σ s Q) aC s
def Iv(X:Cx)(A:Around)(f:AV)(l:List AV)(σ:St)(Q:AP):Prop:=
 ∀g s fv vs,Sat X g σ s->Rep g f fv->RepL g l vs->bS (model P0 X.w) A (call fv vs []) (Post X aL g σ s Q) aC s
def B6(X:Cx)(k:Nat)(f:AV)(l:List AV)(σ:St)(Q:AP):Prop:=
 ∀A g s fv vs,Room A k->Sat X g σ s->Rep g f fv->RepL g l vs->gu (model P0 X.w) A (.call fv ⟨vs,[]⟩) (λr s'=>∃v,r=.ok (.ret v)/\Post X aL g σ s Q v s') s
theorem Qe{M:Model}{A:Around}{α:Type}{E:VP}{s:Shared}{vs:List Value}{m:Sem α}{Q:α->Shared->Prop}(h:bS M A m Q E s):bS M A (m.keep vs) Q E s:=λΓ p cJ=>G5 (h Γ p cJ)
section
variable {X:Cx} {A:Around} {P:Pv} {env:Env} {m:Mp} {σ:St} {Q:AFl->Mp->St->Prop}
theorem ExJ.of{st:Stmt}(h:Ex X A aC P env m st σ Q):ExJ X A P env m st σ Q:=λg s S F=>iN (h g s S F)
theorem iC{st:Stmt}{rest:List Stmt}(h:ExJ X A P env m st σ (wm (wq X A P env) rest Q)):wq X A P env m (st::rest) σ Q:=λg s S F=>by
 refine aaE (execs_cons ..)<|ie (jb (h g s S F) (λf s₁ zz=>zz.rec λaJ Fl m₁ ay ai fh aX aF=>?_) i2)
 cases Fl with
 |next=>subst aX;exact jb (aF aJ s₁ ai.sat fh) (λf s₂ bA=>bA.after ai) i2
 |brk=>subst aX;exact fH ⟨aJ,.brk,m₁,ay,ai,fh,rfl,aF⟩
 |cont=>subst aX;exact fH ⟨aJ,.cont,m₁,ay,ai,fh,rfl,aF⟩
 |ret V=>clear zz;obtain⟨v,rfl,r⟩:=aX;exact fH ⟨aJ,.ret V,m₁,ay,ai,fh,(aE v rfl r),aF⟩
theorem OI{pos}(h:zS X A env m e σ (JP m Q)):ExJ X A P env m (.Return (some e) pos) σ Q:=λg s S F=>by
 refine aaE (exec_Return_some ..)<|dy (d7 (ie (jb (h g s S F) (λv s₁ zz=>zz.rec λaJ V ay ai aX aF=>?_) i2)));exact fH ⟨aJ,.ret V,m,ay,ai.any,F.go ai,(aE v rfl aX),aF⟩
theorem QY{pos}(hA:Room A k)(h:zS X A env m iter σ λV ay=>rp X A aC k (some target) V ay λDep l aS=>pH X A Dep (bg N env) env target body Q l m aS)
  (hs:∀x,foldedSetIterable iter env x=pure x:=by intro y;rfl):ExJ X A (bg N env) env m (.For target iter body [] pos) σ Q:=λg s S F=>by
 refine aaE (exec_For ..)<|dy (d7 (ie (jb (h g s S F) (λv s₁ zz=>zz.rec λaJ V ay ai aX aF=>iN (ag (dn (hs v) (ag (d7 (ag (eL ?_))))))) i2)));refine aB (aF aJ s₁ v ai.sat aX) (λit s₂ zz=>zz.rec λbj aS Dep It own l G ho I hit bA=>?_) i2;have dj:own.Le s aL:=⟨λb o e q=>du (ai.dom e id) λo' e'=>ho.1 b o' e' q,λi hi q=>ho.2 i (bT hi ai.run.gsize) q⟩;have G':=ai.trans G;refine wpAny_runOwn (gU (FZ hA I F ⟨G'.any,F.go G',dj,hit⟩ bA) λr s' hr=>?_)
 cases r with
 |ok f=>exact hr
 |error e=>exact hr.elim
theorem OJ{f:AV}{fv:Value}{g:View}{s:Shared}{first:List Value}{args:List (Bool×Sem Value)}{pos:Pos}{R:VP}(r:Rep g f fv)(bP:args.any (·.1)=false)
  (h:wpAny (model P0 X.w) A (evalArgs fv true args []) (λa s₁=>(∃aJ ay,Sat X aJ ay s₁/\cQ X ay f)/\bS (model P0 X.w) A (call fv (first++a.pos) a.kw) R aC s₁) aC s):
  bS (model P0 X.w) A (callWith pos fv first args []) R aC s:=by
 refine dy (eL (aB h (λa s₁ ⟨⟨aJ,ay,S,K⟩,c⟩=>dy (d7 ?_)) i2))
 have hk:∃k,(k=Keeper.frame∨k=Keeper.machine∨k=Keeper.boundFrame)/\Looks (model P0 X.w) s₁.heap (keeperOf fv) k:=by
  cases f with
  |ref a=>
   clear c h;refine aaE r ?_;rcases K with ⟨o,fd,e,d⟩|⟨Kf,hK,hk⟩
   case inr=>
    obtain⟨k,h1,h2⟩:=looks_keep hk (hK _ (S.in_.le S.le));exact(aE k (h1.elim .inl λq=>.inr (.inl q)) h2)
   have ho:s₁.heap.get? a=some o:=by
    rcases e with e|e
    ·exact S.in_ a o (S.le a o e)
    ·exact(S.trk a _ e).2
   obtain⟨c0,d0,dt,sl⟩:=o;clear e;subst d;exact(aE .frame (.inl rfl) ((Looks.ld (part:=none) ho).andThen .now))
  |blt n=>clear c h;obtain rfl:=r;exact(aE .machine (.inr (.inl rfl)) .now)
  |typ n=>clear c h;exact aaE r<|(aE .machine (.inr (.inl rfl)) .now)
  |_=>exact K.elim
 obtain⟨k,hU,L⟩:=hk;have Xs:(args.any (·.1)||([]:List (Option Str×Sem Value)).any (·.1.isNone))=false:=by refine aaE bP ?_;rfl
 refine aaE Xs<|dy (L.here ?_)
 have tail:∀{t:Sem Value},bS (model P0 X.w) A t R aC s₁->bS (model P0 X.w) A (t>>= λr=>holding [r] point>>= λ_=>pure r) R aC s₁:=
  λht=>ie (jb ht (λr s₂ hr=>iN (ag (eL (xW (aO hr))))) i2)
 have both:∀(p:Prop) [Decidable p] (mk:Value),bS (model P0 X.w) A (if p then call fv (first++a.pos) a.kw>>= λr=>holding [r] point>>= λ_=>pure r else callMarked mk fv (first++a.pos) a.kw>>= λr=>holding [r] point>>= λ_=>pure r) R aC s₁:=λp _ mk=>by
  by_cases hp:p
  ·exact aaE (aA hp)<|tail c
  ·exact aaE (ar hp)<|tail (Qe c)
 rcases hU with rfl|rfl|rfl
 ·exact both (args.length+2*([]:List (Option Str×Sem Value)).length>30) plainCall
 ·exact tail c
 ·exact both (args.length+2*([]:List (Option Str×Sem Value)).length>30) callOfAMethodObject
theorem Ge(r:Rep g f fv)
  (h:wpAny (model P0 X.w) A (spliced (backTo pos (starEach args env))) (λvs s₁=>(∃aJ ay,Sat X aJ ay s₁/\cQ X ay f)/\bS (model P0 X.w) A (call fv (fvs++vs) []) R aC s₁) aC s)
  (hst:(starEach args env).all (λx=> !x.1)=true):bS (model P0 X.w) A (callWith pos fv fvs (backTo pos (starEach args env)) []) R aC s:=by
 have bP:(backTo pos (starEach args env)).any (·.1)=false:=by
  (refine aaE sv<|aaE xo ?_);simp only[hst];rfl
 refine OJ (args:=backTo pos (starEach args env)) r bP ?_;have fin:=h
 cases hl:backTo pos (starEach args env)with
 |nil=>
  rw[hl]at fin;unfold evalArgs;refine ag (aB fin (λvs s₁ aF=>ag (aO ?_)) i2);exact eL<|ag (aO (ag (aO (aO aF))))
 |cons x rest=>
  obtain⟨b,t⟩:=x;rw[hl]at fin bP
  have:b=false:=by
   clear fin hl;cases b
   ·rfl
   ·simp at bP
  clear bP hl;subst this;exact uv fin
theorem Qg{fe:Expr}{args:List Expr}{pos:Pos}{Q:AP}(h:Ev X A aC env m fe σ (DS X (iR X A aC env m args pos) (Iv X A) Q))
  (he:eval (.Call fe args [] pos) env=(do callWith pos (←eval fe env) [] (backTo pos (starEach args env)) (backToKw pos (keywordEach [] env))):=by rfl)
  (hst:(starEach args env).all (λx=> !x.1)=true):zS X A env m (.Call fe args [] pos) σ Q:=λg s S F=>by
 refine aaE he<|dy (aB (h g s S F) (λfv s₁ zz=>zz.rec λaJ f ay ai aX aF=>?_) i2);refine Ge (fvs:=[]) aX (aB (aF aJ s₁ ai.sat (F.go ai)) (λvs s₂ zz=>zz.rec λbj l aS aN dJ bh=>bY bh λK c=>⟨(ey bj aS aN.sat K),?_⟩) i2) hst;exact jb (c bj s₂ fv vs aN.sat (aX.le aN.le) dJ) (λy y x=>x.after (ai.trans aN)) i2
theorem Qf{k:Nat}{f:AV}{l:List AV}{Q:AP}(h:B6 X k f l σ Q)(hA:Room A k):Iv X A f l σ Q:=λg s fv vs S r rl=>yu (h A g s fv vs hA S r rl)
theorem Nr{k:Nat}{fe e:Expr}{pos:Pos}{l:List AV}{Q:AP}(hu:∀i,¬X.u i)(c9:∀h:Heap,X.B.In h->h.NoLimit)(hA:Room A (k+6))(hf:Ev X A aC env m fe σ λF ay=>F=.typ "tuple"/\ay=σ)(he:Dz X A aC k env m e σ l)(hz:l.length<=65536)(h:Q (.tup l) σ)
  (heq:eval (.Call fe [e] [] pos) env=(do callWith pos (←eval fe env) [] (backTo pos (starEach [e] env)) (backToKw pos (keywordEach [] env))):=by rfl)
  (hs:starEach [e] env=(false,eval e env)::starEach [] env):zS X A env m (.Call fe [e] [] pos) σ Q:=λg s S F=>by
 refine aaE heq<|dy (aB (hf g s S F) (λfv s₁ zz=>zz.rec λaJ f ay ai aX bN=>bY bN λe1 e2=>?_) i2);subst e1 e2;refine Ge (fvs:=[]) aX (sL (aB (he aJ s₁ ai.sat (F.go ai)) (λv s₂ cI=>lT cI λa gi bj own hv aN ho hg=>?_) i2) hs) (by refine aaE hs ?_;rfl);subst hv;refine args_nil ⟨⟨bj,_,aN.sat,trivial⟩,?_⟩;have eH:fv=.type "tuple":=by exact aX
 clear aX zz;refine aaE eH ?_;have dj:own.Le s aL:=⟨λb o e q=>du (ai.dom e id) λo' e'=>ho.1 b o' e' q,λi hi q=>ho.2 i (bT hi ai.run.gsize) q⟩;exact MW hu c9 hA (ai.trans aN) hg dj hz h
theorem Fc(CM:A.depth<recursionLimit)(ho:s.heap.get? a=some o)
  (hd:o.data=.func fd)(hco:fd.scope.isCoroutine=false)(hgen:fd.scope.isGenerator=false)(CQ:fd.body=.stmts body)(hcd:s.heap.CodeRec fd.code fd.qualname)
  (h:wpAny (model P0 X.w) A.in1 (bindArgs fd args) (λbinds s₁=>wpAny (model P0 X.w) A.in1 (newFunctionEnv fd.scope fd.globals fd.closure binds (fd.qualname++".<locals>.") (some a) fd.code none fd.builtins)
    (λenv s₂=>s₂.heap.NoLimit/\gu (model P0 X.w) A (.func body env) R s₂) (λe s'=>R (.error e) s') s₁) (λe s'=>R (.error e) s') s):gu (model P0 X.w) A (.call (.ref a) args) R s:=by
 refine oU (dy (m:=load a) (sD ho ?_));refine aaE hd ?_;show bS _ A.in1 (callFunction a fd args) _ _ s;obtain⟨c,oc,vs,tq,hc,xd,oB,hq⟩:=hcd;unfold callFunction;rw[hc]at h ⊢
 (refine aaE CQ<|aaE hgen<|aaE hco ?_)
 exact dy (m:=field (.ref c) 1) (d9 xd oB hq (dy (aO (dy (aB h (λbinds s₁ aF=>dy (aB aF (λenv s₂ bA=>dy (wpAny_enterFrame bA.1 CM (fH (And.intro rfl bA.2)))) i2)) i2)))))
theorem RN{k:Nat}{a:Addr}{fd:FuncData}{body:List Stmt}{l l':List AV}{Q:AP}(F:FnAt X a fd body)(xs:List Str)
  (jI:∀g s vs,Sat X g σ s->RepL g l vs->∃dz,RepL g l' dz/\BindsTo s fd ⟨vs,[]⟩ (xs.zip dz))
  (hx:xs.all (λx=>fd.scope.names.lookup x==some .local||fd.scope.names.lookup x==some .cell)=true)
  (h:∀A L,Room A k->wq X A (bg L (callEnvC fd L a)) (callEnvC fd L a) (g8 xs l' Mp.nil) body σ (jR Q))
  (hclo:fd.closure=[])(hco:fd.scope.isCoroutine=false)(hgen:fd.scope.isGenerator=false)(hk:fd.scope.kind=.function):
  B6 X (k+1) (.ref a) l σ Q:=λA g s fv vs hA S hf r=>by
 refine az λkk=>?_;obtain rfl:=hf;obtain⟨o,ho,hd⟩:=F.obj S;obtain⟨dz,r',hb⟩:=jI g s vs S r;refine kk<|Fc (by have:=hA.depth;exact wk this) ho hd hco hgen F.body (F.cdRec S) (hb _ _ _ _ ?_);refine aaE hclo<|r5 hk (λy hy=>?_) λenv he s' x=>?_
 ·refine az λkk=>?_
  have hm:=(uE hy).1;have:=nR.mp hx y.1 hm;rw[qy,cM,cM]at this;rcases this with q|q
  ·exact kk<|.inl q
  ·exact kk<|.inr ⟨q,du (nU fd.scope.names (s.heap.objs.size+1) [] q) λc hc=>by refine aaE hc ?_;rfl⟩
 ·have fX:env=callEnvC fd s.heap.objs.size a:=he
  clear he;subst fX;have Fr:=qD (a:=a) S r' hk hx x;have G:=qM S x (P:=aL);refine⟨(F.noLimit S).keeps x.toInCall.keep,oU ?_⟩;show bS _ (A.deeper _) (do point;match ←(execs body (callEnvC fd s.heap.objs.size a)).onRaise (leaving (callEnvC fd s.heap.objs.size a))with|.ret v=>ret v|_=>ret .none) _ _ _;refine dy (xW (ie (FP (jb (h (A.deeper _) s.heap.objs.size (Room.deeper hA) g s' G.sat Fr) (λf aU zz=>zz.rec λg' Fl m' ab G' _ rf q=>?_) i2))));have dX:Go X aL g σ s g' ab aU:=Go.weaken (Go.trans (G.any) G') (pj (bC _))
  cases Fl with
  |next=>subst rf;exact fH ⟨_,rfl,g',.none,ab,dX,by exact rfl,q⟩
  |ret V=>clear zz;obtain⟨v,rfl,rv⟩:=rf;exact fH ⟨v,rfl,g',V,ab,dX,rv,q⟩
  |brk=>exact q.elim
  |cont=>exact q.elim
end
set_option backward.match.sparseCases false
noncomputable def jH(M:Model):Nat->Shared->Thread->Run
 |0,s,t=>.running s t
 |n+1,s,t=>
  match il M s t with
  |.go s' t'=>jH M n s' t'
  |.halt o s'=>.halted o s'
noncomputable def kn(s:Shared)(t:Thread):Bool:= !nh s t&& !t.refused
section
variable {M:Model}
theorem OY{s th s' Mh}(h:jH M n s th=.running s' Mh):
  jH M (n+1) s th=match il M s' Mh with|.go aU ue=>.running aU ue|.halt o aU=>.halted o aU:=by
 induction n generalizing s th with
 |zero=>
  have h':=h;injection h' with h1 h2;clear h;subst h1 h2;show(match il M s th with|.go s' t'=>jH M 0 s' t'|.halt o s'=>.halted o s')=_;cases il M s th<;>rfl
 |succ n ih=>
  rw[show jH M (n+1) s th=(match il M s th with|.go s' t'=>jH M n s' t'|.halt o s'=>.halted o s')from rfl]at h;refine aaE (show jH M (n+1+1) s th=(match il M s th with|.go s' t'=>jH M (n+1) s' t'|.halt o s'=>.halted o s')from rfl) ?_
  cases hs:il M s th with
  |go s₁ t₁=>simp only[hs]at h ⊢;exact ih h
  |halt o s₁=>simp only[hs]at h;cases h
theorem ReachJ.runN{s t c p pre s' e}(h:ReachJ M base s t c p pre s' e):
  ∃n t' c' p' gM,jH M n s ⟨t,c,p,pre++base⟩=.running s' ⟨t',c',p',gM++base⟩/\Exits e t' c' p' gM:=by
 induction h with
 |exit hx=>exact⟨0,_,_,_,_,rfl,hx⟩
 |step hs _ ih=>
  obtain⟨n,t',c',p',gM,hn,hx⟩:=ih;exact⟨n+1,t',c',p',gM,by show(match il M _ _ with|.go s' t'=>jH M n s' t'|.halt o s'=>.halted o s')=_;exact aaE hs<|hn,hx⟩
theorem OX(r:Result)(hl:leftWithCleanup s.gens=false):il M s ⟨leafOf r,c,p,[]⟩=.halt (outcomeOf r) s:=by
 have h:M.step s ⟨leafOf r,c,p,[]⟩=.halt (outcomeOf r) s:=by
  refine aaE (step_leaf_nil ..) ?_;simp only[finish,hl,nO,j7]
 have hq:Thread.loud ⟨leafOf r,c,p,[]⟩=false:=by
  cases hh:Thread.loud ⟨leafOf r,c,p,[]⟩with
  |false=>rfl
  |true=>rw[Model.step_loud M hh]at h;clear hh;cases r<;>cases h
 refine aaE (xU (G6 hq)) ?_;rw[Model.step_quiet M hq]at h;exact h
theorem Of(h:RunsJ M ⟨c,none,none,[],none⟩ p t [] s (.ret r) s')(hl:leftWithCleanup s'.gens=false):∃n,jH M n s ⟨t,c,p,[]⟩=.halted (outcomeOf r) s':=by
 refine az λkk=>?_;obtain⟨n,t',c',p',gM,hn,aR,ba⟩:=(h [] ⟨rfl,rfl,rfl,rfl⟩).runN;subst aR;subst ba;refine kk<|⟨n+1,?_⟩;rw[jX]at hn
 (exact aaE (OY hn)<|aaE (OX r hl) rfl)
end
section
variable {M:Model}
theorem Od(h:jH M n s t=.halted o s')(ho:o.ends=true):
  runNK M.den M.prog M.w n s t=.halted o s'/\∀k s₁ t₁,runNK M.den M.prog M.w k s t=.running s₁ t₁->kn s₁ t₁=true:=by
 induction n generalizing s t with
 |zero=>cases h
 |succ n ih=>
  have h:(match il M s t with|.go s' t'=>jH M n s' t'|.halt o s'=>.halted o s')=.halted o s':=h
  cases hl:nh s t with
  |true=>
   simp only[il,hl,if_true]at h;injection h with h1 _;clear ih h;subst h1;exact absurd ho (by simp[Outcome.ends])
  |false=>
   simp only[xU hl]at h
   have IM:kn s t=true:=by
    rw[kn,hl]
    cases hr:t.refused with
    |false=>rfl
    |true=>
     obtain⟨what,e⟩:=stepK_refused M.den M.prog M.w (s:=s) hr;simp only[e]at h;injection h with h1 _;clear ih h;subst h1;exact absurd ho (by simp[Outcome.ends])
   cases hs:stepK M.den M.prog M.w s t with
   |go s₂ t₂=>
    simp only[hs]at h;obtain⟨a,b⟩:=ih h;refine⟨by simp only[runNK,hs];exact a,λk s₁ t₁ hk=>?_⟩
    cases k with
    |zero=>injection hk with e1 e;exact e▸e1▸IM
    |succ k=>simp only[runNK,hs]at hk;exact b k s₁ t₁ hk
   |halt Xu s₂=>
    simp only[hs]at h;refine⟨by simp only[runNK,hs];exact h,λk s₁ t₁ hk=>?_⟩
    cases k with
    |zero=>injection hk with e1 e;exact e▸e1▸IM
    |succ k=>simp only[runNK,hs]at hk;cases hk
theorem FU:mn (forgetAll l)=mn l:=by
 unfold mn;refine aaE (splitAtGen_forgetAll _) ?_
 cases splitAtGen l with
 |none=>rfl
 |some x=>simp
theorem NQ(s:Shared)(t:Thread):nh s.forget t.forget=nh s t:=by
 have e:t.forget.yieldsInsideHandler=t.yieldsInsideHandler:=by
  obtain⟨cur,code,pos,stack⟩:=t
  cases cur with
  |yield v g l k=>exact JT.trans ((bF (g||·) FU).trans JT.symm)
  |_=>rfl
 show((t.atCollectorCode&& !t.atExit)||(t.forget.yieldsInsideHandler&&(!lV s t.code||mn (forgetAll t.stack))))=_
 (refine aaE e<|aaE FU ?_);rfl
theorem Ni(t:Thread):t.forget.refused=t.refused:=by
 obtain⟨cur,code,pos,stack⟩:=t;cases cur<;>rfl
theorem FE(s:Shared)(t:Thread):kn s.forget t.forget=kn s t:=by rw[kn,NQ,Ni];rfl
theorem OW(hc:∀k s₁ t₁,runNK den prog w k s t=.running s₁ t₁->kn s₁ t₁=true):∀k s₁ t₁,runN den prog w k s t=.running s₁ t₁->kn s₁ t₁=true:=by
 intro k s₁ t₁ hk;have e:=runNK_same den prog w k (s₁:=s) (s₂:=s) (t₁:=t) (t₂:=t) rfl rfl;rw[hk]at e
 cases hr:runNK den prog w k s t with
 |halted Xu s₂=>rw[hr]at e;cases e
 |running s₂ t₂=>
  rw[hr]at e;simp only[Run.forget]at e;injection e with e1 e2
  (refine aaE (aq (FE s₁ t₁))<|aaE (aq e1)<|aaE (aq e2)<|aaE (FE ..) ?_);exact hc k s₂ t₂ hr
end
section
variable (den:Code->Sem Fin) (prog:Program) (w:World)
theorem Rx(h:kn s t=true)(hn:∀v g l k,t.cur≠.yield v g l k):t.calm=true:=by
 obtain⟨cur,code,pos,stack⟩:=t;simp only[kn,mF,AU]at h;obtain⟨h1,h2⟩:=h;rw[Thread.calm_eq];simp only[mF,AU];refine⟨?_,h2⟩;simp only[nh,AG]at h1;simp only[Thread.loud,AG];refine⟨h1.1,?_⟩;clear h2 h1;cases cur<;>try rfl
 exact absurd rfl (hn _ _ _ _)
theorem PW(hr:s.heap.life.registered=[]):s8 s=s:=by
 unfold s8;rw[←hr]
theorem PV{s:Shared}{fs:List Frame}{code:Code}{g:Bool}(hr:s.heap.life.registered=[])(h1:fs.any Frame.guarded=false)(h2:(g&& !lV s code)=false):closingShows s fs code g=false:=by
 show(fs.any Frame.guarded||(g&&closingShows s [] code true))=false;refine aaE h1 ?_;unfold lV at h2;rw[PW hr,Bool.not_not]at h2;exact h2
theorem Nj{others:List Value}{s:Shared}{v:Value}{g:Bool}{l:List Value}{k:Resume->Sem Fin}{code:Code}{pos:Pos}{stack:List Frame}(h:kn s ⟨.yield v g l k,code,pos,stack⟩=true)(hz:s.asleep):
  lifeStep den prog w others s ⟨.yield v g l k,code,pos,stack⟩=step den prog w s ⟨.yield v g l k,code,pos,stack⟩:=by
 refine bY hz λhr hc=>?_
 cases hs:Thread.special ⟨.yield v g l k,code,pos,stack⟩with
 |false=>exact lifeStep_eq_step den prog w others s _ hs hc
 |true=>
  have hq:(Thread.yieldsInsideHandler ⟨.yield v g l k,code,pos,stack⟩&&(!lV s code||mn stack))=false:=(AU _).mp (AH.mp h).1;rw[JT]at hq;refine bY (Yt hq) λh1 h2=>?_;delta lifeStep;refine(aA hs).trans ?_;dsimp only;refine aaE (show collectorTurn? w.params others s ⟨.yield v g l k,code,pos,stack⟩=none from rfl) ?_;dsimp only
  have ec:∀t:Thread,stepCounting den prog w s t=step den prog w s t:=λt=>by
   delta stepCounting;refine(ar (by exact aaE hc<|kK)).trans ?_;exact ar (by exact aaE hc<|kK)
  clear hq hs h
  cases he:splitAtGen stack with
  |none=>exact ec _
  |some x=>
   have h3:x.1.any Frame.guarded=false:=by unfold mn at h1;rw[he]at h1;exact h1
   dsimp only;simp only[PV hr h3 h2];exact ec _
theorem PU{s:Shared}{v:Value}{g:Bool}{l:List Value}{k:Resume->Sem Fin}{code:Code}{pos:Pos}{stack:List Frame}
 (hl:∀others,lifeStep den prog w others s ⟨.yield v g l k,code,pos,stack⟩=step den prog w s ⟨.yield v g l k,code,pos,stack⟩):
 (Config.single s ⟨.yield v g l k,code,pos,stack⟩).run den prog w 0=(step den prog w s ⟨.yield v g l k,code,pos,stack⟩).lift:=by
 have ho:(if Thread.special ⟨.yield v g l k,code,pos,stack⟩then Config.others ⟨s,#[.live ⟨.yield v g l k,code,pos,stack⟩],0⟩ 0 else some [])=some []:=by exact aaE (others_single ..)<|ite_self _
 delta Config.run Config.single;dsimp only;refine aaE (show(#[ThreadState.live ⟨.yield v g l k,code,pos,stack⟩]:Array ThreadState)[0]?=some (ThreadState.live ⟨.yield v g l k,code,pos,stack⟩)from rfl) ?_;dsimp only;refine aaE (show Shared.entering #[ThreadState.live ⟨.yield v g l k,code,pos,stack⟩] 0 0 s=s from rfl)<|aaE (aA (rfl:(0:Nat)=0)) ?_;dsimp only;refine aaE ho ?_;dsimp only;refine(ar kK).trans<|aaE (hl _) ?_
 cases step den prog w s ⟨.yield v g l k,code,pos,stack⟩with
 |go s' t'=>rfl
 |halt o s'=>rfl
theorem NA(s:Shared)(t:Thread)(h:kn s t=true)(hr:s.asleep):
  sstep den prog w (.single s t)=(step den prog w s t).lift∨
   step den prog w s t=.halt (.unsupported "lifetime:generator-with-cleanup-left-suspended") s:=by
 obtain⟨cur,code,pos,stack⟩:=t
 cases cur with
 |yield v g l k=>
  have h1:(Config.single s ⟨.yield v g l k,code,pos,stack⟩).collect? w.params=none:=by
   simp[Config.collect?,Config.single,(nothing_to_collect _ _ _ s _ hr.1).1]
  have h2:(Config.single s ⟨.yield v g l k,code,pos,stack⟩).collectable=[]:=by
   simp[Config.collectable,Config.single,(nothing_to_collect w.params _ _ s _ hr.1).2]
  have h3:(Config.single s ⟨.yield v g l k,code,pos,stack⟩).moves w.params.profile=[.run 0]:=ite_self [Move.run 0]
  have hp:(Config.single s ⟨.yield v g l k,code,pos,stack⟩).pick w=.ok (.run 0,.single s ⟨.yield v g l k,code,pos,stack⟩):=by
   simp only[Config.pick,h1,h2,Config.pickThread,h3];cases w.params.lifetimes<;>simp
  exact .inl (by simp only[sstep,hp,Config.move,PU den prog w λothers=>Nj den prog w (others:=others) h hr])
 |_=>exact sstep_single den prog w s _ (Rx h (λx x x x q=>by cases q)) hr
theorem OZ(n:Nat)(s:Shared)(t:Thread)(hr:s.asleep)(hc:∀k s' t',runN den prog w k s t=.running s' t'->kn s' t'=true)
  (hx:∀k s',runN den prog w k s t≠.halted (.unsupported "lifetime:generator-with-cleanup-left-suspended") s'):schedN den prog w n (.single s t)=(runN den prog w n s t).lift:=by
 induction n generalizing s t with
 |zero=>rfl
 |succ n ih=>
  rcases NA den prog w s t (hc 0 s t rfl) hr with e|e
  ·simp only[schedN,runN,e]
   cases hs:step den prog w s t with
   |go s' t'=>
    exact ih s' t' (by simp only[Shared.asleep,step_life den prog w s s' t t' hs];exact hr) (λk aU ue e=>hc (k+1) aU ue (by simp only[runN,hs];exact e)) λk aU e=>hx (k+1) aU (by simp only[runN,hs];exact e)
   |halt o s'=>rfl
  ·exact absurd (show runN den prog w 1 s t=.halted (.unsupported "lifetime:generator-with-cleanup-left-suspended") s by simp only[runN,e]) (hx 1 s)
end
theorem Oe(h:jH M n s t=.halted o s')(ho:o.ends=true)(hr:s.asleep):
  ∃aU,schedN M.den M.prog M.w n (.single s t)=.halted o aU/\runN M.den M.prog M.w n s t=.halted o aU/\aU.forget=s'.forget:=by
 refine az λkk=>?_;obtain⟨hk,hc⟩:=Od h ho;refine ax (runNK_halted M.den M.prog M.w hk) λaU hn hf=>?_;have dA:=OW hc
 have bR:∀k s₂,runN M.den M.prog M.w k s t≠.halted (.unsupported "lifetime:generator-with-cleanup-left-suspended") s₂:=by
  intro k s₂ hk;have a:=runN_mono M.den M.prog M.w n k s t o aU hn;have b:=runN_mono M.den M.prog M.w k n s t _ s₂ hk;rw[eD,b]at a;injection a with a1 _;clear h kk hn hk;clear hk;subst a1;exact absurd ho (by simp[Outcome.ends])
 exact kk<|(dh aU ((OZ M.den M.prog M.w n s t hr dA bR).trans (bF Run.lift hn)) hn hf)
end
section
open PySem.W.X PySem.Calls
theorem NR{prog:Program}{w:World}{t:Sem Fin}{s:Shared}{R:Result->Shared->Prop}(Xv:s.asleep)
  (h:bS (model prog w) callerA t (λfin s'=>∃f,fin=.done f/\(R (.ok f) s'/\leftWithCleanup s'.gens=false)) aC s):
  ∃n r s' aU,runN (denote table) prog w n s ⟨t,.builtin "claim.caller" {},default,[]⟩=.halted (outcomeOf r) s'/\
   schedN (denote table) prog w n (.single s ⟨t,.builtin "claim.caller" {},default,[]⟩)=.halted (outcomeOf r) s'/\s'.forget=aU.forget/\R r aU:=by
 refine az λkk=>?_
 obtain⟨e,s',hr,r,rfl,hR,hl⟩:=h ⟨.builtin "claim.caller" {},none,none,[],none⟩ default caller_in ⟨.builtin "claim.caller" {},none,none,[],none⟩ [] .pure .raise id id (λe s'=>∃r,e=.ret r/\R r s'/\leftWithCleanup s'.gens=false) rfl
  (λfin p' s' h'=>by
   obtain⟨f,rfl,z⟩:=h'
   exact⟨_,s',.leaf (.ok f),_,rfl,z⟩) (λx p' s' h'=>h'.elim)
 rw[Hn]at hr;obtain⟨n,hn⟩:=Of hr hl;obtain⟨aU,h1,h2,h3⟩:=Oe hn (outcomeOf_ends r) Xv;exact kk (lU n r aU s' h2 h1 h3 hR)
theorem MM{c:ClaimW}{tree:List Value->Sem Fin}{w:World}{s:Shared}{free:Addr->Prop}{gens:Prop}{kept:Heap->Prop}(hz:s.asleep)(pN:∀g∈s.gens,g=GenState.finished)
  (V0:∀args,c.pre args=true->WData.layableAll args=true->
   ∀ord:List DictEntry->List DictEntry,(∀l,(ord l).Perm l)->
   ∃vs s₁,layAllW c.records (classAt s.heap) w.params ord args s=some (vs,s₁)/\
    bS (model c.prog w) callerA (tree vs) (λfin s'=>∃f,fin=.done f/\(c.Ends s args vs s₁ (.ok f) s'/\s'.os=s.os/\AllBare s'.gens/\kept s'.heap/\(∀(i:Nat) x,s₁.gens[i]?=some x->s'.gens[i]?=some x))) aC s₁):
  c.CallFrom (λvs=>⟨tree vs,.builtin "claim.caller" {},default,[]⟩) w free gens kept s:=by
 intro args pP pQ ord zH;refine az λkk=>?_;obtain⟨vs,s₁,pG,vZ⟩:=V0 args pP pQ ord zH;have iZ:=layAllW_rest _ _ _ pG
 obtain⟨k,r,s',aU,kz,HQ,xe,v9,f9,nJ,El⟩:=NR (prog:=c.prog) (w:=w) (t:=tree vs) (s:=s₁)
  (R:=λr s'=>c.Ends s args vs s₁ r s'/\s'.os=s.os/\kept s'.heap/\(∀(i:Nat) x,s₁.gens[i]?=some x->s'.gens[i]?=some x))
  (Shared.asleep_of_life iZ.2.2.2 hz)
  (jb vZ (by
   rintro fin s' ⟨f,e,h1,h2,h3,h4,h5⟩
   exact(dh f e (k7 h1 h2 h4 h5) (leftWithCleanup_false_of_bare h3))) i2)
 obtain⟨eh,eg,_,eo,_⟩:=Shared.forget_eq xe;have v9:=v9.congr eh;have nJ:kept s'.heap:=by first|exact eh▸nJ|(rw[eh]at nJ;exact nJ)|(rw[←eh]at nJ;exact nJ)
 rw[←eo]at f9;have V1:=(runN_life _ _ _ kz).trans iZ.2.2.2;refine kk<|⟨vs,s₁,pG,k,_,s',HQ,?_,λz i x hx=>?_,nJ,by rw[V1],Shared.rest_eq f9⟩
 ·refine az λkk=>?_
  clear kz HQ;rcases v9 with ⟨v,rfl,d1,d2,d3,d4,d5⟩|⟨e,ob,cls,rfl,d1,d2,d3,d4,d5⟩
  ·exact kk<|.inl (vm v rfl d1 d2 d3 (λb o y z=>d4 b o y) d5)
  ·exact kk<|.inr (Oj e ob cls rfl d1 d2 d3 d4 (λb o y z=>d5 b o y))
 ·have Ad:s₁.gens[i]?=some x:=by rw[show s₁.gens=s.gens from iZ.1];exact hx
  have h1:=El i x Ad;have Zi:=pN x (by rw[Array.mem_iff_getElem?];exact⟨i,hx⟩);clear hx Ad;subst Zi;have e1:(s'.gens.map GenState.forget)[i]?=(aU.gens.map GenState.forget)[i]?:=by have:=bF Shared.gens xe;exact bF (·[i]?) this
  rw[Array.getElem?_map,Array.getElem?_map,h1]at e1
  cases h2:s'.gens[i]? with
  |none=>rw[h2]at e1;cases e1
  |some y=>
   rw[h2]at e1;clear h2;cases y<;>first|rfl|(simp[GenState.forget]at e1)
theorem Og{r:OpenRow}{q:Program}{loose:List Str}{Xt:Shared->Bool}{XP:(Str->Option Value)->Heap->Prop}{α:Type}{Yf:Shared->α}{Ya:World->α}{YP:World->Heap->Prop}{d:DefRec}{kwd:List (Str×Expr)}{N:Nat}
  (left:LeftO r.prog q loose Xt Yf Ya N false)(hY:∀w s,Yf s=Ya w->YP w s.heap)(Zj:∀w h h',YP w h->(∀b o,h.get? b=some o->h'.get? b=some o)->YP w h')
  (hX:∀s,Xt s=true->XP (s.heap.nsMap mainGlobals) s.heap)(Zk:∀mg h h',XP mg h->(∀b o,h.get? b=some o->h'.get? b=some o)->XP mg h')
  (Xw:defOf q r.name=some (d,kwd))(hp:r.prog.theDef r.name=some (d.params,d.body,d.scope))(hk:kwWritten? d.params.kwonlyargs d.params.kw_defaults=some kwd)(Zl:∀s,Xt s=true->RecFacts r.records s.heap)(lE:(!r.writes||r.records.isEmpty)=true)
  (k1:r.wellSaid=true)(ok:(chainsOk q&&opensWell r.prog&&(PySem.W.frees r.toRowW&&r.within.isEmpty))=true)(hb:r.prog.bare)(hw:r.toRowW.promised)
  (call:∀(w:World) (aj s₁:Shared) (mg mb:Str->Option Value),Ground q loose r.records XP w aj mg mb s₁.heap->YP w s₁.heap->(∀g∈s₁.gens,g=GenState.finished)->∀(args:List WData) (vs:List Value) (as:List Addr),
   r.toRowW.claim.pre args=true->WData.layableAll args=true->ReadsAllW r.records (classAt aj.heap) s₁.heap vs args as->WellAll w.params s₁.heap vs args->(∀a∈as,(a==sysModules)=false)->∃f,mg r.name=some f/\
    bS (model r.prog w) callerA (PySem.call f vs) (λv s'=>GoodWG r.toRowW.claim (classAt aj.heap) (ExcName.means aj.heap) args s₁ (.ok (.ret v)) s'/\(∀(i:Nat) x,s₁.gens[i]?=some x->s'.gens[i]?=some x)) aC s₁):r.Holds:=by
 refine az λkk=>?_;obtain⟨ok,k5⟩:=AH.mp ok;obtain⟨Mi,o1⟩:=AH.mp ok;obtain⟨k5,k6⟩:=AH.mp k5;obtain⟨oh,hu,ha,aZ,hm⟩:=frees_parts k5;refine kk<|(cA k1 hw ?_);refine(cA (cA hb o1 (by show r.makers.map _=[];refine aaE hm ?_;rfl)) hw.witness (λw=>⟨(left.behind hX Mi w).1,λs' dM=>?_⟩));refine az λkk=>?_;obtain⟨aj,hf,Zm,s,hT,hz,aai,hg,G00,y⟩:=(left.behind (XP:=λmg h=>XP mg h/\RecFacts r.records h) (λs hs=>⟨hX s hs,Zl s hs⟩) Mi w).2 s' dM;have G0:Ground q loose [] XP w s (s.heap.nsMap mainGlobals) (s.heap.nsMap builtinsNs) s.heap:=⟨G00.T,G00.B,G00.D,G00.TE,G00.TD,G00.W,G00.X.1,G00.cls,G00.has,G00.apart,G00.once,G00.K⟩;have RF:=G00.X.2;have gR:=hT
 have Xx:∀n∈(if r.pinned=true then [r.name]else []),isTheDefsW r.prog s.heap n:=λn hn=>by
  obtain rfl:n=r.name:=by split at hn<;>simp_all
  exact pinned_of_view hg G0 Xw hp hk
 refine kk<|⟨aj,hf,Zm,s,hT,Xx,RF.1,RF.2.1,?_⟩
 have pN:∀g∈s.gens,g=GenState.finished:=λg Ae=>by
  have:=hT.2.2.2.2.2.2.2.2.2.1 g Ae
  (first|exact be g|exact bZ g|exact gy g|exact gN g|(clear Ae;refine aaE (bq g) ?_)|clear Ae;subst g|clear Ae;cases g)<;>first|rfl|exact this.elim
 have G:=RF.ground G0
 refine MM (c:=r.toRowW.claim) (tree:=λvs=>do match ←nsGet mainNs r.name with
   |some f=>do ret (←PySem.call f vs)
   |none=>unsupported "claim.caller:no-such-global") hz pN λargs pP pQ ord zH=>?_
 refine az λkk=>?_;obtain⟨⟨vs,s₁⟩,pG⟩:=Ax.mp (layAllW_isSome (P:=w.params) (ord:=ord) G.has args r.args s (pre_splitW pP).1);have keeps:=layAllW_keeps _ _ _ pG;have iZ:=layAllW_rest _ _ _ pG;obtain⟨as,nK,hO,hold⟩:=reads_layAllW zH _ _ _ pG pQ s₁.heap (λz z e=>e);have ai:=G.keeps Zk keeps
 obtain⟨f,hf,h⟩:=call w s s₁ _ _ ai (Zj _ _ _ (hY w s y) keeps) (by exact aaE (show s₁.gens=s.gens from iZ.1)<|pN) args vs as pP pQ nK (well_layAllW zH args s _ pG _ λz z e=>e)
  (λa ha=>cR.mpr λe=>by have:=(hO.2.2 a ha).1;clear ha;subst e;exact absurd G.low (j0.mpr this))
 have hi:=ident_freeW hu ha aZ;have Zn:r.toRowW.claim.within=[]:=List.isEmpty_iff.mp k6;refine kk<|(ey vs s₁ pG ?_)
 have fin_:∀v s',GoodWG r.toRowW.claim (classAt s.heap) (ExcName.means s.heap) args s₁ (.ok (.ret v)) s'->(∀(i:Nat) x,s₁.gens[i]?=some x->s'.gens[i]?=some x)->
   (r.toRowW.claim.Ends s args vs s₁ (.ok (.ret v)) s'/\s'.os=s.os/\AllBare s'.gens/\(r.writes=true->namesKept r.prog r.keeps s.heap s'.heap/\∀x∈r.records,∀a,classAt s.heap x.1=some a->recordClass s'.heap a x.1 (x.2.map (·.1))=true)/\(∀(i:Nat) x,s₁.gens[i]?=some x->s'.gens[i]?=some x)):=λv s' g El=>by
  refine az λkk=>?_;obtain⟨v9,hK,f9,Zo⟩:=g;refine kk<|(l7 ?_ (f9.trans iZ.2.2.1) Zo (λq=>⟨namesKept_of gR hg r.keeps keeps hK.old,noTable lE q⟩) El);refine az λkk=>?_;rcases v9 with ⟨v',d',bs,e,Em,Zp,V2,xc⟩|⟨e,ob,cls,he,_⟩
  ·cases e
   exact kk<|.inl (vm v rfl Em ⟨d',args,bs,as,Zp,nK.keepsK λb o e hc=>hK.get_of_cls e hc,V2,λhu=>(cA ((xc hu).1) ((xc hu).2) (λa ha el=>by
    obtain⟨o,ho⟩:=hold a el
    rw[(xc hu).2 a ha]at ho;exact be ho)),λz z=>hi _ _⟩ (λi gz=>by have dM:r.toRowW.claim.same=none:=oh;rw[dM]at gz;exact be gz) (λb o el z z=>hK.old b o el) (λi gz=>by rw[Zn]at gz;cases gz))
  ·cases he
 refine dy (wpAny_nsGet ai.T.g ?_);exact aaE hf<|ie (jb h (λv s' hh=>fH (iH (fin_ v s' hh.1 hh.2))) i2)
end
section
open PySem.W.X
noncomputable def tx(N:BD):T->By
 |.leaf v=>fi v
 |.kv b t=>bX b ((N.lookup (tx N t)).getD [])
 |.br l r=>b9 ((N.lookup (tx N l)).getD []) ((N.lookup (tx N r)).getD [])
noncomputable def nm(N:BD)(t:T):By:=(N.lookup (tx N t)).getD []
noncomputable def nodes(N:BD):T->List By
 |.leaf v=>[tx N (.leaf v)]
 |.kv b t=>tx N (.kv b t)::nodes N t
 |.br l r=>tx N (.br l r)::(nodes N l++nodes N r)
theorem Named.ltx:∀{t:T} {h:By},Named N t h->N.lookup (tx N t)=some h
 |.leaf v,h,x=>x
 |.kv b t,h,x=>by refine ax x λh' a b'=>?_;show N.lookup (bX b ((N.lookup (tx N t)).getD []))=_;exact aaE a.ltx<|b'
 |.br l r,h,x=>by refine cP x λhl hr a a' b'=>?_;show N.lookup (b9 ((N.lookup (tx N l)).getD []) ((N.lookup (tx N r)).getD []))=_;(refine aaE a.ltx<|aaE a'.ltx ?_);exact b'
theorem Named.nm(x:Named N t h):nm N t=h:=by unfold Internal.nm;refine aaE x.ltx ?_;rfl
theorem Full.nodes:∀{t:T} {h:By} {L:List By},Full N D t h L->L=nodes N t
 |.leaf v,h,L,x=>x.2.2
 |.kv b t,h,L,x=>by refine j8 x λh' L' a y y e=>?_;(refine aaE e<|aaE a.nodes ?_);show bX b h'::_=bX b (Internal.nm N t)::_;exact aaE a.named.nm rfl
 |.br l r,h,L,x=>by refine sr x λhl hr Ll Lr a a' y y e=>?_;(refine aaE e<|aaE a.nodes<|aaE a'.nodes ?_);show b9 hl hr::_=b9 (Internal.nm N l) (Internal.nm N r)::_;(exact aaE a.named.nm<|aaE a'.named.nm rfl)
noncomputable def wit(N:BD):T->By->List By
 |.leaf v,q=>if q=[]then nodes N (.leaf v)else []
 |.kv b t,q=>(if q=[]then nodes N (.kv b t)else [])++
   (if q.length<b.length/\b.take q.length=q then tx N (.kv b t)::nodes N t
   else if q.take b.length=b then tx N (.kv b t)::wit N t (q.drop b.length)else [tx N (.kv b t)])
 |.br l r,q=>(if q=[]then nodes N (.br l r)else [])++
   (if q.take 1=[0]then tx N (.br l r)::wit N l (q.drop 1)else tx N (.br l r)::wit N r (q.drop 1))
structure Base2(X:Cx):Prop extends Base X where
 nou:∀i,¬X.u i
 f_gwp:Fn X 270 43 "get_witness_for_key_prefix" .none
 g_gwp:bV X "get_witness_for_key_prefix" (.ref 270)
 f_gwp_:Fn X 277 44 "_get_witness_for_key_prefix" .none
 g_gwp_:bV X "_get_witness_for_key_prefix" (.ref 277)
section
variable {X:Cx} {A:Around} {E:Value->Shared->Prop} {env:Env} {m:Mp} {σ:St} {Q:AV->St->Prop} (hX:Base X)
include hX
theorem mY(hm:m x=some (.bytes b))(hz:b.length<=16777216)(hk:env.kindOf "len"=some .globalImplicit)(hg:env.globals=mainGlobals)(hb:env.builtins=builtinsNs)(h:Q (.int b.length) σ)
  (hd:(x==("__debug__":Str))=false)(hc:(x==("__classdict__":Str))=false):Ev X A E env m (.Call (.Name "len" p1) [.Name x p2] [] p3) σ Q:=
 aV<|ph hX.g_len hk hg hb<|ak<|aP (hd:=hd) (hc:=hc) hm<|aD ⟨trivial,nV hz h⟩
theorem yw(bf:σ a=some (.dict D))(ha:a≠1)(hN:NmOk N)(hw:WF n t)(hn:n<=64)(hs:fA t)(hf:Full N D t h L)(hz:L.length<=65536)(hA:Room A (27+10*n))
  (rL:m "db"=some (.ref a))(eP:m x=some (.bytes h))(hk:env.kindOf "get_trie_nodes"=some .globalImplicit)(hg:env.globals=mainGlobals)(hb:env.builtins=builtinsNs)(hq:Q (.tup (L.map .bytes)) σ)
  (hd:(x==("__debug__":Str))=false)(hc:(x==("__classdict__":Str))=false):Ev X A aC env m (.Call (.Name "get_trie_nodes" p1) [.Name "db" p2,.Name x p3] [] p4) σ Q:=
 aV<|ph hX.g_gtn hk hg hb<|ak<|aP rL<|ak<|aP (hd:=hd) (hc:=hc) eP<|aD ⟨yr hX,bc (yQ hX (k:=20+10*n) hz (yD hX bf ha hN hw hn hs hf hz) hq) hA.mo⟩
end
section
variable {X:Cx} {σ:St} (hX:Base2 X)
include hX
theorem yE(bf:σ a=some (.dict D))(ha:a≠1)(hN:NmOk N):∀{t:T} {n:Nat} {h q:By} {L:List By},WF n t->n<=64->fA t->Full N D t h L->L.length<=65536->q.length<=n->BQ X (40+10*n) (.ref 277) [.ref a,.bytes h,.bytes q] σ ((wit N t q).map .bytes)
 |.leaf v,n,h,q,L,hw,hn,hs,hf,hz,hq=>by
  have kF:q=[]:=by have:=hw.1;cases q with|nil=>rfl|cons _ _=>simp at hq;exact absurd (ae hq (aK this)) (Nat.not_succ_le_zero _)
  clear hq;subst kF;have hL:=hf.nodes;refine ei (id hf) λf1 f2 e3=>?_;refine bk hX.f_gwp_ λpm c F=>?_;refine BE (hclo:=by rfl) (hco:=by rfl) (hgen:=by rfl) (hk:=by rfl) F ["db","node_hash","keypath"] (c7 ["db","node_hash","keypath"] λvs hv=>?_) rfl λLo=>?_
  ·(apply ko hv;intro v w u;rfl)
  (refine aaE (show wit N (.leaf v) []=nodes N (.leaf v)from aA rfl)<|aaE (aq hL)<|aaE (aq (jX (L.map AV.bytes))) ?_)
  refine dV<|iM λA' cp=>lY<|gp (af (.bytes [])<|jv (by simp) ⟨rfl,?_⟩) (by rfl);refine dV<|xF (hi:=by rfl) λc6 bI=>yw (hd:=by rfl) (hc:=by rfl) hX.toBase bf ha hN hw hn hs hf hz (bI.mono (by exact C7)) rfl rfl rfl rfl rfl (cA rfl rfl (dO ?_));refine dV<|iM λA' cp=>aT<|af (.bytes h)<|af (.ref a)<|qJ bf ha (kt ?_);refine aaE f2<|⟨rfl,dV<|sH λc6 bI=>bE<|bz<|af (.ref a)<|af (.bytes h)<|fw bf f2<|aQ ⟨rfl,dO ?_⟩⟩;refine dV<|sH λc6 bI=>bE<|aV<|eg hX.g_parse<|ak<|af (.bytes (fi v))<|aD ⟨sy hX.toBase,bc (so hX.toBase (by have:=hs;exact ly this) hw.2 ?_) (bI.mono (by exact Dg))⟩;refine eR bI.handled rfl rfl<|bG<|aQ<|bG<|aQ<|bG<|aQ<|eS ⟨rfl,?_⟩;refine dV<|iM λc6 bI=>aT<|af (.int 2)<|eg hX.g_LEAF<|cu (dh _ rfl rfl ?_);exact dV<|iM λA' cp=>gp (af (.bytes [])<|jv (by simp) ⟨rfl,dO<|dO<|dO ⟨rfl,.inl rfl⟩⟩) (by rfl)
 |.kv b t,n,h,q,L,hw,hn,hs,hf,hz,hq=>by
  have hL:=hf.nodes;refine j8 (id hf) λh' L' f0 f1 f2 e3=>?_;refine eE (id hw) λhb cz hk n' en iw=>?_;have kD:1<=b.length:=by clear hw hs hf hL f1 f2 e3 cz en;cases b with|nil=>exact absurd rfl hb|cons _ _=>simp
  have iY:L'.length<=65536:=by rw[e3]at hz;simp at hz;exact Dr hz
  have etx:tx N (.kv b t)=bX b h':=by show bX b (nm N t)=_;exact aaE f0.named.nm rfl
  have Zq:=f0.nodes;refine bk hX.f_gwp_ λpm c F=>?_;refine BE (hclo:=by rfl) (hco:=by rfl) (hgen:=by rfl) (hk:=by rfl) F ["db","node_hash","keypath"] (c7 ["db","node_hash","keypath"] λvs hv=>?_) rfl λLo=>?_
  ·(apply ko hv;intro v w u;rfl)
  have rest:pB X (40+10*n) σ Lo (callEnvC (ip (bD 44) "_get_witness_for_key_prefix" pm c .none) Lo 277) (g8 ["db","node_hash","keypath"] [.ref a,.bytes h,.bytes q] Mp.nil) ((fz (bD 44)).drop 1)
    (((if q.length<b.length/\b.take q.length=q then tx N (.kv b t)::nodes N t else if q.take b.length=b then tx N (.kv b t)::wit N t (q.drop b.length)else [tx N (.kv b t)]):List By).map .bytes) λF x l'=>l'=[]/\(F=.next∨F=.ret .none):=by
   refine dV<|iM λA' cp=>aT<|af (.bytes h)<|af (.ref a)<|qJ bf ha (kt ?_);refine aaE f2<|⟨rfl,dV<|sH λc6 bI=>bE<|bz<|af (.ref a)<|af (.bytes h)<|fw bf f2<|aQ ⟨rfl,dO ?_⟩⟩;refine dV<|sH λc6 bI=>bE<|aV<|eg hX.g_parse<|ak<|af (.bytes (bX b h'))<|aD ⟨sy hX.toBase,bc (qH hX.toBase (by exact ze hn en) cz (f0.named.len hN) ?_) (bI.mono (by exact Dg))⟩;refine eR bI.handled rfl rfl<|bG<|aQ<|bG<|aQ<|bG<|aQ<|eS ⟨rfl,?_⟩;refine dV<|iM λc6 bI=>aT<|af (.int 0)<|eg hX.g_LEAF<|cu (dh _ rfl rfl ?_);refine dV<|iM λc6 bI=>aT<|af (.int 0)<|eg hX.g_KV<|cu (dh _ rfl rfl ?_);refine dV<|iM λc6 bI=>EvB.mono (Q:=λr ab=>ab=σ/\r=decide (q.length<b.length/\b.take q.length=q)) ?_ λr ab aR=>bY aR λe1 e2=>⟨e1,?_⟩
   ·refine kU<|aT<|mY (hd:=by rfl) (hc:=by rfl) hX.toBase (b:=q) rfl (by exact jQ hn hq) rfl rfl rfl<|mY (hd:=by rfl) (hc:=by rfl) hX.toBase (b:=b) rfl (by exact zf hn en) rfl rfl rfl<|BA (kt ?_)
    by_cases h1:q.length<b.length
    ·refine dR (sj (by exact I0 h1))<|kU<|aT<|bz<|af (.bytes b)<|ee (lower:=none) (upper:=some _)<|mY (hd:=by rfl) (hc:=by rfl) hX.toBase (b:=q) rfl (by exact jQ hn hq) rfl rfl rfl (ki (fG (by exact zf hn en) ?_))
     refine aaE (mJ ..)<|af (.bytes q)<|dU (kt ?_)
     by_cases h2:b.take q.length=q
     ·exact dR (c:=(List.take q.length b==q)) (cM.mpr h2)<|Bo ⟨rfl,(sj ⟨h1,h2⟩).symm⟩
     ·exact bQ (c:=(List.take q.length b==q)) (cR.mpr h2)<|⟨rfl,(oQ λh=>h2 h.2).symm⟩
    ·refine bQ (by simp;exact JJ h1) ?_
     exact⟨rfl,(oQ λh=>h1 h.1).symm⟩
   ·clear aR;subst e2
    by_cases hc:q.length<b.length/\b.take q.length=q
    ·refine dR (sj hc) ?_
     (refine aaE (aA hc)<|aaE eB<|aaE etx<|aaE (aq Zq)<|aaE (aq (jX (L'.map AV.bytes))) ?_)
     refine dV<|va (hco:=by rfl) (hi:=by rfl) λc6 bI=>af (.bytes (bX b h')) (cA rfl rfl ?_);exact dV<|xF (hi:=by rfl) λc6 bI=>yw (hd:=by rfl) (hc:=by rfl) hX.toBase bf ha hN iw (by exact wj hn en) hs f0 iY (bI.mono (by exact gC (lb rfl) (ia 10 (ae (ib _ _) (aK en.symm))))) rfl rfl rfl rfl rfl (cA rfl rfl (dO<|dO<|dO<|dO ⟨rfl,.inl rfl⟩))
    ·refine bQ (oQ hc)<|aaE (ar hc)<|dV<|iM λc6 bI=>aT<|bz<|af (.bytes q)<|ee (lower:=none) (upper:=some _)<|mY (hd:=by rfl) (hc:=by rfl) hX.toBase (b:=b) rfl (by exact zf hn en) rfl rfl rfl (ki (fG (by exact jQ hn hq) ?_))
     refine aaE (mJ ..)<|af (.bytes b)<|dU (dh _ rfl rfl ?_)
     by_cases hp:q.take b.length=b
     ·refine aaE (aA hp)<|dR (c:=(List.take b.length q==b)) (cM.mpr hp) ?_
      (refine aaE eB<|aaE etx<|aaE (aq (jX (List.map AV.bytes (wit N t _)))) ?_)
      have ih:=yE bf ha hN (q:=q.drop b.length) iw (by exact wj hn en) hs f0 iY (by simp;exact ae hq (aK (en.trans (eD _ _))));refine dV<|va (hco:=by rfl) (hi:=by rfl) λc6 bI=>af (.bytes (bX b h')) (cA rfl rfl ?_)
      refine dV<|Bg (hi:=by rfl) hX.nou hX.lim (kin:=40+10*n') (by exact tW en kD (lb rfl)) (λc6 bI=>yf (hst:=by rfl) (bI.mono (by exact tW en kD (lb rfl)))<|eg hX.g_gwp_<|ak<|af (.ref a)<|ak<|af (.bytes h')<|ak<|
       bz<|af (.bytes q)<|ee (lower:=some _) (upper:=none)<|mY (hd:=by rfl) (hc:=by rfl) hX.toBase (b:=b) rfl (by exact zf hn en) rfl rfl rfl (ki (fG (by exact jQ hn hq) ?_))) (dO<|dO<|dO<|dO<|dO ⟨rfl,.inl rfl⟩)
      exact aaE (iK ..)<|aD (cA rfl F.keep ih)
     ·refine aaE (ar hp)<|bQ (c:=(List.take b.length q==b)) (cR.mpr hp) ?_
      (refine aaE eB<|aaE etx ?_)
      exact dV<|va (hco:=by rfl) (hi:=by rfl) λc6 bI=>af (.bytes (bX b h')) (cA rfl rfl (dO<|dO<|dO<|dO<|dO ⟨rfl,.inl rfl⟩))
  refine dV<|iM λA' cp=>lY<|gp (af (.bytes q)<|jv (by exact jQ hn hq) ⟨rfl,?_⟩) (by rfl)
  by_cases kF:q=[]
  ·clear hq;subst kF
   (refine aaE (show wit N (.kv b t) []=nodes N (.kv b t)++_ from by unfold wit;rw[aA rfl]) ?_;refine aaE (aq hL)<|aaE qC ?_)
   refine dV<|xF (hi:=by rfl) λc6 bI=>yw (hd:=by rfl) (hc:=by rfl) hX.toBase bf ha hN hw hn hs hf hz (bI.mono (by exact C7)) rfl rfl rfl rfl rfl (cA rfl rfl (dO ?_));exact rest
  ·refine bQ (c:=(!(!q.isEmpty))) (by clear hq rest;cases q with|nil=>exact absurd rfl kF|cons _ _=>rfl) ?_
   refine aaE (show wit N (.kv b t) q=_ from by unfold wit;rw[ar kF,gT]) ?_;exact dO rest
 |.br l r,n,h,q,L,hw,hn,hs,hf,hz,hq=>by
  have hL:=hf.nodes;refine sr (id hf) λhl hr Ll Lr f0 ix f1 f2 e3=>?_;refine dp (id hw) λn' en xb w9=>?_;have etx:tx N (.br l r)=b9 hl hr:=by show b9 (nm N l) (nm N r)=_;(exact aaE f0.named.nm<|aaE ix.named.nm rfl)
  have Zr:Ll.length<=65536:=by rw[e3]at hz;simp at hz;exact Dk hz
  have Eo:Lr.length<=65536:=by rw[e3]at hz;simp at hz;exact C4 hz
  refine bk hX.f_gwp_ λpm c F=>?_;refine BE (hclo:=by rfl) (hco:=by rfl) (hgen:=by rfl) (hk:=by rfl) F ["db","node_hash","keypath"] (c7 ["db","node_hash","keypath"] λvs hv=>?_) rfl λLo=>?_
  ·(apply ko hv;intro v w u;rfl)
  have rest:pB X (40+10*n) σ Lo (callEnvC (ip (bD 44) "_get_witness_for_key_prefix" pm c .none) Lo 277) (g8 ["db","node_hash","keypath"] [.ref a,.bytes h,.bytes q] Mp.nil) ((fz (bD 44)).drop 1)
    (((if q.take 1=[0]then tx N (.br l r)::wit N l (q.drop 1)else tx N (.br l r)::wit N r (q.drop 1)):List By).map .bytes) λF x l'=>l'=[]/\(F=.next∨F=.ret .none):=by
   refine dV<|iM λA' cp=>aT<|af (.bytes h)<|af (.ref a)<|qJ bf ha (kt ?_);refine aaE f2<|⟨rfl,dV<|sH λc6 bI=>bE<|bz<|af (.ref a)<|af (.bytes h)<|fw bf f2<|aQ ⟨rfl,dO ?_⟩⟩;refine dV<|sH λc6 bI=>bE<|aV<|eg hX.g_parse<|ak<|af (.bytes (b9 hl hr))<|aD ⟨sy hX.toBase,bc (qI hX.toBase (f0.named.len hN) (ix.named.len hN) ?_) (bI.mono (by exact Dg))⟩;refine eR bI.handled rfl rfl<|bG<|aQ<|bG<|aQ<|bG<|aQ<|eS ⟨rfl,?_⟩;refine dV<|iM λc6 bI=>aT<|af (.int 1)<|eg hX.g_LEAF<|cu (dh _ rfl rfl ?_);refine dV<|iM λc6 bI=>aT<|af (.int 1)<|eg hX.g_KV<|cu (dh _ rfl rfl ?_);refine dV<|iM λc6 bI=>aT<|af (.int 1)<|eg hX.g_BR<|cu (dh _ rfl rfl ?_);refine dV<|iM λc6 bI=>aT<|bz<|af (.bytes q)<|ee (lower:=none) (upper:=some _)<|aY (ki (fG (by exact jQ hn hq) ?_));refine aaE (show eM none (some (1:Int)) q=q.take 1 from mJ 1)<|eg hX.g_B0<|dU (dh _ rfl rfl ?_);have ih1:=yE bf ha hN (q:=q.drop 1) xb (by exact pT hn en) hs.1 f0 Zr (by simp;exact JL hq en);have ih2:=yE bf ha hN (q:=q.drop 1) w9 (by exact pT hn en) hs.2 ix Eo (by simp;exact JL hq en)
   by_cases hp:q.take 1=[0]
   ·refine aaE (aA hp)<|dR (c:=(List.take 1 q==[0])) (cM.mpr hp) ?_
    (refine aaE eB<|aaE etx<|aaE (aq (jX (List.map AV.bytes (wit N l _)))) ?_)
    refine dV<|va (hco:=by rfl) (hi:=by rfl) λc6 bI=>af (.bytes (b9 hl hr)) (cA rfl rfl ?_)
    refine dV<|Bg (hi:=by rfl) hX.nou hX.lim (kin:=40+10*n') (by exact Jg en) (λc6 bI=>yf (hst:=by rfl) (bI.mono (by exact Js en))<|eg hX.g_gwp_<|ak<|af (.ref a)<|ak<|af (.bytes hl)<|ak<|
     bz<|af (.bytes q)<|ee (lower:=some _) (upper:=none)<|aY (ki (fG (by exact jQ hn hq) ?_))) (dO<|dO<|dO<|dO<|dO ⟨rfl,.inl rfl⟩)
    exact aaE (show eM (some (1:Int)) none q=q.drop 1 from iK 1)<|aD (cA rfl F.keep ih1)
   ·refine aaE (ar hp)<|bQ (c:=(List.take 1 q==[0])) (cR.mpr hp) ?_
    (refine aaE eB<|aaE etx<|aaE (aq (jX (List.map AV.bytes (wit N r _)))) ?_)
    refine dV<|va (hco:=by rfl) (hi:=by rfl) λc6 bI=>af (.bytes (b9 hl hr)) (cA rfl rfl ?_)
    refine dV<|Bg (hi:=by rfl) hX.nou hX.lim (kin:=40+10*n') (by exact Jg en) (λc6 bI=>yf (hst:=by rfl) (bI.mono (by exact Js en))<|eg hX.g_gwp_<|ak<|af (.ref a)<|ak<|af (.bytes hr)<|ak<|
     bz<|af (.bytes q)<|ee (lower:=some _) (upper:=none)<|aY (ki (fG (by exact jQ hn hq) ?_))) (dO<|dO<|dO<|dO<|dO ⟨rfl,.inl rfl⟩)
    exact aaE (show eM (some (1:Int)) none q=q.drop 1 from iK 1)<|aD (cA rfl F.keep ih2)
  refine dV<|iM λA' cp=>lY<|gp (af (.bytes q)<|jv (by exact jQ hn hq) ⟨rfl,?_⟩) (by rfl)
  by_cases kF:q=[]
  ·clear hq;subst kF
   (refine aaE (show wit N (.br l r) []=nodes N (.br l r)++_ from by unfold wit;rw[aA rfl]) ?_;refine aaE (aq hL)<|aaE qC ?_)
   refine dV<|xF (hi:=by rfl) λc6 bI=>yw (hd:=by rfl) (hc:=by rfl) hX.toBase bf ha hN hw hn hs hf hz (bI.mono (by exact C7)) rfl rfl rfl rfl rfl (cA rfl rfl (dO ?_));exact rest
  ·refine bQ (c:=(!(!q.isEmpty))) (by clear hq rest;cases q with|nil=>exact absurd rfl kF|cons _ _=>rfl) ?_
   refine aaE (show wit N (.br l r) q=_ from by unfold wit;rw[ar kF,gT]) ?_;exact dO rest
theorem Qh:cQ X σ (.ref 172):=by refine bk hX.f_etb λx x F=>?_;exact F.keep
theorem Pr:cQ X σ (.ref 277):=by refine bk hX.f_gwp_ λx x F=>?_;exact F.keep
theorem Qi:cQ X σ (.ref 270):=by refine bk hX.f_gwp λx x F=>?_;exact F.keep
theorem RO(bf:σ a=some (.dict D))(ha:a≠1)(hN:NmOk N)(hw:WF n t)(hn:n<=64)(hs:fA t)(hf:Full N D t h L)(hz:L.length<=65536)(hq:8*o.length<=n)(Zs:(wit N t (bu o)).length<=65536)
  (h':Q (.tup ((wit N t (bu o)).map .bytes)) σ):B6 X ((46+10*n)+1) (.ref 270) [.ref a,.bytes h,.bytes o] σ Q:=by
 refine bk hX.f_gwp λcode pm F=>?_;refine RN (hclo:=by rfl) (hco:=by rfl) (hgen:=by rfl) (hk:=by rfl) F ["db","node_hash","key"] (c7 ["db","node_hash","key"] λvs hv=>?_) rfl λA L' hA=>?_
 ·(apply ko hv;intro v w u;rfl)
 refine iC<|ExJ.of<|gD (aV<|eg hX.g_vib<|ak<|af (.bytes o)<|aD ⟨sQ hX.toBase,bc (kc hX.toBase ?_) hA.mo⟩)
 refine iC<|OI<|Nr (hs:=by rfl) hX.nou hX.lim (k:=40+10*n) hA.mo (eg hX.g_tuple ⟨rfl,rfl⟩) (yf (hst:=by rfl) hA.mo<|eg hX.g_gwp_<|ak<|af (.ref a)<|ak<|af (.bytes h)<|ak<|
  aV<|eg hX.g_etb<|ak<|af (.bytes o)<|aD ⟨Qh hX,bc (s7 hX.toBase (by exact Dn hn hq) ?_) hA.mo⟩) (by simpa using Zs) h'
 exact aD ⟨rfl,Pr hX,yE hX bf ha hN hw hn hs hf hz (by unfold bu;(refine aaE (dF ..)<|aaE (uV ..) ?_);exact hq)⟩
end
open AutoSeq1 (wpAny_loadPart')
section
variable {prog:Program} {w:World} {A:Around} {E:Value->Shared->Prop} {s:Shared} {b1 b2:Array UInt8} {t1 t2:Tok} {z TI TO i1 i2:Addr} {k:Nat}
theorem Pj{T0:Addr}{f1:Value}{x y:UInt8}{Q:VP}(D:ZD z TI TO i1 i2)(hz:s.heap.get? z=some (gw (rawInt T0) f1 TI TO)){oT:Obj}(hT:s.heap.get? T0=some oT)
  (dB:IsPair s.heap TI (.ref i1) (.ref i2))(h1:KBw.IsBytesIter s.heap i1 b1 t1 k)(h2:KBw.IsBytesIter s.heap i2 b2 t2 k)(hx:b1[k]?=some x)(hy:b2[k]?=some y)
  (hQ:∀h' tk T tkx tky iy,h'.get? z=some (gw (rawInt T0) iy TI TO)->KBw.IsBytesIter h' i1 b1 t1 (k+1)->KBw.IsBytesIter h' i2 b2 t2 (k+1)->IsPair h' T (.int (x.toNat:Int) tkx) (.int (y.toNat:Int) tky)->s.heap.objs.size<=T->
   (∀c o,c≠z->c≠i1->c≠i2->s.heap.get? c=some o->h'.get? c=some o)->Q (.ref T) {s with heap:=h',toks:=tk}):
  wpAny (model prog w) A (Builtin.«zip.__next__» ⟨[.ref z],[]⟩) (λfin s'=>∃v,fin=.done (.ret v)/\Q v s') E s:=by
 show wpAny _ _ (field (.ref z) 2>>= _) _ _ _;refine ag (d9 hz rfl (x:=.bool false) rfl ?_);refine ag (d9 hz rfl (x:=.ref TI) rfl ?_);refine ag (jY dB rfl ?_);refine ag (yt hz (.inr (Vf T0 rfl _ hT)) (λh=>by cases h) λT' gR h' iy iY dM=>?_);refine aaE (ar kK) ?_;have ej:=fI h1 λo=>dM.extBut i1 o D.i1z;have lF:=fI h2 λo=>dM.extBut i2 o D.i2z;dsimp only;refine ag<|aaE (aq Array.forIn_toList) ?_;simp only[qz,List.forIn_nil];refine ag (ag (eL ?_));show wpAny _ _ (Builtin.SmallTypes.nextOf (.ref i1)>>= _) _ _ _;refine ag (sb ej hx λbA wa dW=>aO ?_);have CR:=fI lF λo=>dW.extBut i2 o D.i12.symm;dsimp only;refine aO ?_;dsimp only;refine ag (ag (eL ?_));refine ag (sb CR hy λbW V3 fM=>aO ?_);have V4:=fI wa λo=>fM.extBut i1 o D.i12;dsimp only;refine aO ?_;dsimp only;refine aO<|ag (wpAny_newTuple (hsz:=by exact aaE df<|Tx) (aO ?_));have V5:=fM.extBut _ _ D.i2z.symm (dW.extBut _ _ D.i1z.symm iY);have hsz:bW.objs.size=s.heap.objs.size:=by(exact aaE fM.1<|aaE dW.1<|aaE dM.1 rfl)
 refine(aE _ rfl (hQ _ _ bW.objs.size _ _ iy (bJ _ V5) (fI V4 λo e=>bJ _ e) (fI V3 λo e=>bJ _ e) (cB _ rfl) (aK hsz.symm) λc o c1 c2 c3 e=>?_));exact bJ _ (fM.extBut _ _ c3 (dW.extBut _ _ c2 (dM.extBut _ _ c1 e)))
theorem Qc{T0:Addr}{f1:Value}{Q:Fin->Shared->Prop}(hh:A.handled=none)(D:ZD z TI TO i1 i2)(hz:s.heap.get? z=some (gw (rawInt T0) f1 TI TO)){oT:Obj}(hT:s.heap.get? T0=some oT)
  (dB:IsPair s.heap TI (.ref i1) (.ref i2))(h1:KBw.IsBytesIter s.heap i1 b1 t1 k)(h2:KBw.IsBytesIter s.heap i2 b2 t2 k)(nA:b1[k]?=none∨b2[k]?=none)
  (hE:∀h' tk e,(∀c o,c≠z->c≠TO->c≠i1->c≠i2->s.heap.get? c=some o->h'.get? c=some o)->(∃o,h'.get? e=some o/\o.cls=.type "StopIteration")->E (.ref e) {s with heap:=h',toks:=tk}):
  wpAny (model prog w) A (Builtin.«zip.__next__» ⟨[.ref z],[]⟩) Q E s:=by
 show wpAny _ _ (field (.ref z) 2>>= _) _ _ _;refine ag (d9 hz rfl (x:=.bool false) rfl ?_);show wpAny _ _ (field (.ref z) 3>>= _) _ _ _;refine ag (d9 hz rfl (x:=.ref TI) rfl ?_);refine ag (jY dB rfl ?_);refine ag (yt hz (.inr ⟨T0,rfl,_,hT⟩) (λh=>by cases h) λT' gR h' iy iY dM=>?_);refine aaE (ar kK) ?_;have ej:=fI h1 λo=>dM.extBut i1 o D.i1z;have lF:=fI h2 λo=>dM.extBut i2 o D.i2z;dsimp only;refine ag<|aaE (aq Array.forIn_toList) ?_;simp only[qz,List.forIn_nil];refine ag (ag (eL ?_))
 cases hx:b1[k]? with
 |none=>
  refine ag (xE hh ej hx λbA e dW he=>?_);exact hE bA _ e (λc o c1 y c3 y x=>dW _ _ c3 (dM.extBut _ _ c1 x)) he
 |some x=>
  have hy:b2[k]?=none:=by rcases nA with h|h;rw[hx]at h;exact bZ h;exact h
  refine ag (sb ej hx λbA wa dW=>aO ?_);have CR:=fI lF λo=>dW.extBut i2 o D.i12.symm;dsimp only;refine aO ?_;dsimp only;refine ag (ag (eL ?_));refine ag (xE hh CR hy λbW e fM he=>?_);exact hE bW _ e (λc o c1 y c3 c4 x=>fM _ _ c4 (dW.extBut _ _ c3 (dM.extBut _ _ c1 x))) he
theorem Pk{f1:Value}{x y:UInt8}{a b:Value}{Q:VP}(D:ZD z TI TO i1 i2)(hz:s.heap.get? z=some (gw .none f1 TI TO))
  (dB:IsPair s.heap TI (.ref i1) (.ref i2))(eJ:IsPair s.heap TO a b)(h1:KBw.IsBytesIter s.heap i1 b1 t1 k)(h2:KBw.IsBytesIter s.heap i2 b2 t2 k)(hx:b1[k]?=some x)(hy:b2[k]?=some y)
  (hQ:∀h' tk (T:Addr) tkx tky iy,h'.get? z=some (gw (rawInt T) iy TI TO)->IsPair h' TO (.int (x.toNat:Int) tkx) (.int (y.toNat:Int) tky)->KBw.IsBytesIter h' i1 b1 t1 (k+1)->KBw.IsBytesIter h' i2 b2 t2 (k+1)->IsPair h' T (.int (x.toNat:Int) tkx) (.int (y.toNat:Int) tky)->s.heap.objs.size<=T->
   (∀c o,c≠z->c≠TO->c≠i1->c≠i2->s.heap.get? c=some o->h'.get? c=some o)->Q (.ref T) {s with heap:=h',toks:=tk}):
  wpAny (model prog w) A (Builtin.«zip.__next__» ⟨[.ref z],[]⟩) (λfin s'=>∃v,fin=.done (.ret v)/\Q v s') E s:=by
 show wpAny _ _ (field (.ref z) 2>>= _) _ _ _;refine ag (d9 hz rfl (x:=.bool false) rfl ?_);refine ag (d9 hz rfl (x:=.ref TI) rfl ?_);refine ag (jY dB rfl ?_);refine ag (yt hz (.inl rfl) (λu=>?_) λT' gR=>by cases gR);simp only[if_true];refine ag (gX ?_);refine ag (d9 hz rfl (x:=.ref TO) rfl ?_);refine ag (lL hz (by simp) λaF nq fC=>?_);replace nq:aF.get? z=some (gw .ellipsis f1 TI TO):=nq;refine ag ?_;simp only[List.zipIdx_cons,List.zipIdx_nil,qz,List.forIn_nil];refine ag (ag (uO ?_));show wpAny _ _ (Builtin.SmallTypes.nextOf (.ref i1)>>= _) _ _ _;refine ag (sb (fI h1 λo=>fC.extBut i1 o D.i1z) hx λbA wa dW=>aO ?_);have vR:IsPair bA TO a b:=dW.extBut _ _ D.TOi1 (fC.extBut _ _ D.TOz eJ);refine ag (jY vR rfl ?_);refine ag (E8 vR λbW yX fM=>?_);replace yX:IsPair bW TO (.int (x.toNat:Int) s.toks) b:=yX;refine ag (xX (aO ?_));refine ag (ag (uO ?_));refine ag (sb (fI h2 λo e=>fM.extBut i2 o D.TOi2.symm (dW.extBut i2 o D.i12.symm (fC.extBut i2 o D.i2z e))) hy λir V6 mj=>aO ?_);have HR:=mj.extBut _ _ D.TOi2 yX;refine ag (jY HR rfl ?_);refine ag (E8 HR λjO yY nu=>?_);replace yY:IsPair jO TO (.int (x.toNat:Int) s.toks) (.int (y.toNat:Int) (s.toks+1)):=yY;refine ag (xX (aO (aO ?_)));refine ag (jY yY rfl ?_);refine ag (wpAny_newTuple ?_);have hsz:jO.objs.size=s.heap.objs.size:=by rw[nu.1,mj.1,fM.1,dW.1,fC.1]
 have IP:=nu.extBut _ _ D.TOz.symm (mj.extBut _ _ D.i2z.symm (fM.extBut _ _ D.TOz.symm (dW.extBut _ _ D.i1z.symm nq)))
 have V7:∀c o,c≠z->c≠TO->c≠i1->c≠i2->s.heap.get? c=some o->jO.get? c=some o:=λc o c1 c2 c3 c4 e=>
  nu.extBut _ _ c2 (mj.extBut _ _ c4 (fM.extBut _ _ c2 (dW.extBut _ _ c3 (fC.extBut _ _ c1 e))))
 have V8:=fI wa λo e=>nu.extBut i1 o D.TOi1.symm (mj.extBut i1 o D.i12 (fM.extBut i1 o D.TOi1.symm e));have V9:=fI V6 λo e=>nu.extBut i2 o D.TOi2.symm e;have Lz:=cC IP;refine ag ?_;have Wa:(jO.push {cls:=.type "tuple",data:=.seq #[.int (x.toNat:Int) s.toks,.int (y.toNat:Int) (s.toks+1)]}).get? z=some (gw .ellipsis f1 TI TO):=bJ _ IP;refine ag (lL Wa (by simp) λtU CS zb=>?_);replace CS:tU.get? z=some (gw (rawInt jO.objs.size) f1 TI TO):=CS;refine lL CS (by simp) λDM CT IQ=>?_;replace CT:DM.get? z=some (gw (rawInt jO.objs.size) (.bool false) TI TO):=CT;have up:∀c o,c≠z->jO.get? c=some o->DM.get? c=some o:=λc o c1 e=>IQ.extBut _ _ c1 (zb.extBut _ _ c1 (bJ _ e));have Wb:=IQ.extBut _ _ (qE Lz) (zb.extBut _ _ (qE Lz) (cB _ rfl));refine aO ⟨_,rfl,hQ DM _ jO.objs.size _ _ _ CT (up _ _ D.TOz yY) (fI V8 λo e=>up _ o D.i1z e) (fI V9 λo e=>up _ o D.i2z e) Wb (aK hsz.symm) λc o c1 c2 c3 c4 e=>up c o c1 (V7 c o c1 c2 c3 c4 e)⟩
theorem Qb(hh:A.handled=none)(D:ZD z TI TO i1 i2)(hz:s.heap.get? z=some (gw .none f1 TI TO))
  (dB:IsPair s.heap TI (.ref i1) (.ref i2))(eJ:IsPair s.heap TO a b)(h1:KBw.IsBytesIter s.heap i1 b1 t1 k)(h2:KBw.IsBytesIter s.heap i2 b2 t2 k)(nA:b1[k]?=none∨b2[k]?=none)
  (hE:∀h' tk e,(∀c o,c≠z->c≠TO->c≠i1->c≠i2->s.heap.get? c=some o->h'.get? c=some o)->(∃o,h'.get? e=some o/\o.cls=.type "StopIteration")->E (.ref e) {s with heap:=h',toks:=tk}):
  wpAny (model prog w) A (Builtin.«zip.__next__» ⟨[.ref z],[]⟩) Q E s:=by
 show wpAny _ _ (field (.ref z) 2>>= _) _ _ _;refine ag (d9 hz rfl (x:=.bool false) rfl ?_);show wpAny _ _ (field (.ref z) 3>>= _) _ _ _;refine ag (d9 hz rfl (x:=.ref TI) rfl ?_);refine ag (jY dB rfl ?_);refine ag (yt hz (.inl rfl) (λy=>?_) λT' gR=>by cases gR);simp only[if_true];refine ag (gX ?_);refine ag (d9 hz rfl (x:=.ref TO) rfl ?_);refine ag (lL hz (by simp) λaF nq fC=>?_);replace nq:aF.get? z=some (gw .ellipsis f1 TI TO):=nq;refine ag ?_;simp only[List.zipIdx_cons,List.zipIdx_nil,qz,List.forIn_nil];refine ag (ag (uO ?_))
 cases hx:b1[k]? with
 |none=>
  refine ag (xE hh (fI h1 λo=>fC.extBut i1 o D.i1z) hx λbA e dW he=>?_);refine ax he λoe rP rG=>?_;have IS:=dW _ _ D.i1z.symm nq;have w7:e≠z:=λx=>by clear D hz hE fC nq;subst x;rw[IS]at rP;obtain rfl:=bq rP;simp at rG
  refine lL IS (by simp) λbW y fM=>hE bW _ e (λc o c1 y c3 y x=>fM.extBut _ _ c1 (dW _ _ c3 (fC.extBut _ _ c1 x))) ⟨oe,fM.extBut _ _ w7 rP,rG⟩
 |some x=>
  have hy:b2[k]?=none:=by rcases nA with h|h;rw[hx]at h;exact bZ h;exact h
  refine ag (sb (fI h1 λo=>fC.extBut i1 o D.i1z) hx λbA wa dW=>aO ?_);have vR:=dW.extBut _ _ D.TOi1 (fC.extBut _ _ D.TOz eJ);refine ag (jY vR rfl ?_);refine ag (E8 vR λbW yX fM=>?_);refine ag (xX (aO ?_));refine ag (ag (uO ?_));refine ag (xE hh (fI h2 λo e=>fM.extBut i2 o D.TOi2.symm (dW.extBut i2 o D.i12.symm (fC.extBut i2 o D.i2z e))) hy λir e mj he=>?_);refine ax he λoe rP rG=>?_;have IT:=mj _ _ D.i2z.symm (fM.extBut _ _ D.TOz.symm (dW.extBut _ _ D.i1z.symm nq));have w7:e≠z:=λx=>by clear D hz hE fC nq;subst x;rw[IT]at rP;obtain rfl:=bq rP;simp at rG
  refine lL IT (by simp) λjO y nu=>hE jO _ e (λc o c1 c2 c3 c4 x=>nu.extBut _ _ c1 (mj _ _ c4 (fM.extBut _ _ c2 (dW.extBut _ _ c3 (fC.extBut _ _ c1 x))))) ⟨oe,nu.extBut _ _ w7 rP,rG⟩
theorem F8(ho:s.heap.get? z=some o)(hc:o.cls=.type "zip")
  (h:wpAny (model prog w) A.in1 (Builtin.«zip.__next__» ⟨[.ref z],[]⟩) (λfin s'=>∃v,fin=.done (.ret v)/\Q v s') E s):wpAny (model prog w) A (Builtin.SmallTypes.nextOf (.ref z)) Q E s:=by
 have hT:s.TypeIs (.ref z) "zip":=(aE _ ho hc);refine ag (mE (name:=PySem.Str.ofString "__next__") hT F.slot_zip_next (i7 F.slot_zip_next hT F.entry_zip_next ?_ (F.args_zip_next_1 _)));exact aB h (λfin s' aR=>ax aR λv e q=>(aE v e (aO q))) i2
end
open AutoSeq1 (wpAny_loadPart')
noncomputable def ng(b1 b2:List UInt8):List AV:=(b1.zip b2).map λp=>.tup [.int (p.1.toNat:Int),.int (p.2.toNat:Int)]
noncomputable abbrev nF(e z TI TO i1 i2:Addr):Pv:=⟨λa=>a=e∨a=z∨a=TI∨a=TO∨a=i1∨a=i2,λx=>False⟩
structure ZD1(e z TI TO i1 i2:Addr):Prop where
 d:ZD z TI TO i1 i2
 ez:e≠z
 eTI:e≠TI
 eTO:e≠TO
 ei1:e≠i1
 ei2:e≠i2
inductive EnumZ(X:Cx)(e z TI TO i1 i2:Addr)(b1:List UInt8)(t1:Tok)(b2:List UInt8)(t2:Tok)(own:Pv)(l:List AV)(g:View)(σ:St)(s:Shared):Prop
 |mk (ho:own=nF e z TI TO i1 i2) (D:ZD1 e z TI TO i1 i2) (bH:∀a,(nF e z TI TO i1 i2).a a->Free X g σ a) (i:Nat) (old f0 f1:Value) (he:IsEnum s.heap e z i old) (hz:s.heap.get? z=some (gw f0 f1 TI TO)) (hf:f0=.none∨∃(T:Addr) (o:Obj),f0=rawInt T/\g T=some o) (dB:IsPair s.heap TI (.ref i1) (.ref i2)) (eJ:∃a b,IsPair s.heap TO a b)
  (h1:KBw.IsBytesIter s.heap i1 b1.toArray t1 i) (h2:KBw.IsBytesIter s.heap i2 b2.toArray t2 i) (hl:l=kd i ((ng b1 b2).drop i))
section
variable {prog:Program} {w:World} {A:Around} {E:Value->Shared->Prop} {s:Shared} {b1 b2:Array UInt8} {t1 t2:Tok} {z TI TO i1 i2:Addr} {k:Nat}
theorem MP(D:ZD z TI TO i1 i2)(hz:s.heap.get? z=some (gw f0 f1 TI TO))(hf:f0=.none∨∃(T:Addr) (o:Obj),f0=rawInt T/\s.heap.get? T=some o)(dB:IsPair s.heap TI (.ref i1) (.ref i2))(eJ:∃a b,IsPair s.heap TO a b)
  (h1:KBw.IsBytesIter s.heap i1 b1 t1 k)(h2:KBw.IsBytesIter s.heap i2 b2 t2 k)(hx:b1[k]?=some x)(hy:b2[k]?=some y)
  (hQ:∀h' tk (T:Addr) tkx tky ix iy,h'.get? z=some (gw ix iy TI TO)->(ix=rawInt T∨(ix=f0/\f0≠.none))->IsPair h' TI (.ref i1) (.ref i2)->(∃a b,IsPair h' TO a b)->KBw.IsBytesIter h' i1 b1 t1 (k+1)->KBw.IsBytesIter h' i2 b2 t2 (k+1)->
   IsPair h' T (.int (x.toNat:Int) tkx) (.int (y.toNat:Int) tky)->s.heap.objs.size<=T->(∀c o,c≠z->c≠TO->c≠i1->c≠i2->s.heap.get? c=some o->h'.get? c=some o)->Q (.ref T) {s with heap:=h',toks:=tk}):
  wpAny (model prog w) A (Builtin.SmallTypes.nextOf (.ref z)) Q E s:=by
 refine bk eJ λa b eJ=>?_;refine F8 hz rfl<|az λkk=>?_;rcases hf with rfl|⟨T0,oT,rfl,hT⟩
 ·exact kk<|Pk D hz dB eJ h1 h2 hx hy λh' tk T tkx tky iy iY DN ej lF hT hle hk=>hQ h' tk T tkx tky _ _ iY (.inl rfl) (hk _ _ D.TIz D.TITO D.TIi1 D.TIi2 dB) (cX _ _ DN) ej lF hT hle hk
 ·exact kk<|Pj D hz hT dB h1 h2 hx hy λh' tk T tkx tky iy iY ej lF gR hle hk=>hQ h' tk T tkx tky _ _ iY (.inr ⟨rfl,λq=>by cases q⟩) (hk _ _ D.TIz D.TIi1 D.TIi2 dB) (cX _ _ (hk _ _ D.TOz D.TOi1 D.TOi2 eJ)) ej lF gR hle λc o c1 v c3 c4 e=>hk c o c1 c3 c4 e
theorem MU(hh:A.handled=none)(D:ZD z TI TO i1 i2)(hz:s.heap.get? z=some (gw f0 f1 TI TO))(hf:f0=.none∨∃(T:Addr) (o:Obj),f0=rawInt T/\s.heap.get? T=some o)(dB:IsPair s.heap TI (.ref i1) (.ref i2))(eJ:∃a b,IsPair s.heap TO a b)
  (h1:KBw.IsBytesIter s.heap i1 b1 t1 k)(h2:KBw.IsBytesIter s.heap i2 b2 t2 k)(nA:b1[k]?=none∨b2[k]?=none)
  (hE:∀h' tk e,(∀c o,c≠z->c≠TO->c≠i1->c≠i2->s.heap.get? c=some o->h'.get? c=some o)->(∃o,h'.get? e=some o/\o.cls=.type "StopIteration")->E (.ref e) {s with heap:=h',toks:=tk}):
  wpAny (model prog w) A (Builtin.SmallTypes.nextOf (.ref z)) Q E s:=by
 refine bk eJ λa b eJ=>?_;refine F8 hz rfl<|az λkk=>?_;rcases hf with rfl|⟨T0,oT,rfl,hT⟩
 ·exact kk<|Qb hh D hz dB eJ h1 h2 nA hE
 ·exact kk<|Qc hh D hz hT dB h1 h2 nA hE
theorem OE(D:ZD1 e z TI TO i1 i2)(he:IsEnum s.heap e z i old)(hz:s.heap.get? z=some (gw f0 f1 TI TO))(hf:f0=.none∨∃(T:Addr) (o:Obj),f0=rawInt T/\s.heap.get? T=some o)(dB:IsPair s.heap TI (.ref i1) (.ref i2))(eJ:∃a b,IsPair s.heap TO a b)
  (h1:KBw.IsBytesIter s.heap i1 b1 t1 k)(h2:KBw.IsBytesIter s.heap i2 b2 t2 k)(hx:b1[k]?=some x)(hy:b2[k]?=some y)
  (hQ:∀h' tk ti (T TT:Addr) tkx tky ix iy,IsEnumOut h' e z ((i:Int)+1) (.ref T) TT->h'.get? z=some (gw ix iy TI TO)->(ix=rawInt T∨(ix=f0/\f0≠.none))->IsPair h' TI (.ref i1) (.ref i2)->(∃a b,IsPair h' TO a b)->KBw.IsBytesIter h' i1 b1 t1 (k+1)->KBw.IsBytesIter h' i2 b2 t2 (k+1)->
   IsPair h' T (.int (x.toNat:Int) tkx) (.int (y.toNat:Int) tky)->IsPair h' TT (.int i ti) (.ref T)->s.heap.objs.size<=T->T<TT->(∀c o,¬(nF e z TI TO i1 i2).a c->s.heap.get? c=some o->h'.get? c=some o)->Q (some (.ref TT)) {s with heap:=h',toks:=tk}):
  wpAny (model prog w) A (pyNext (.ref e)) Q E s:=by
 have hT:s.TypeIs (.ref e) "enumerate":=(aE _ he rfl);unfold pyNext
 refine ag (uN (mE (name:=Str.ofString "__next__") hT AD
  (i7 AD hT F.entry_enumerate_next ?_ (F.args_enumerate_next_1 _))))
 show wpAny _ _ (field (.ref e) 2>>= _) _ _ _;refine ag (d9 he rfl (x:=.ref z) rfl ?_);refine ag (MP D.d hz hf dB eJ h1 h2 hx hy λaF tk T tkx tky ix iy Xy eH Wc Wd We Wf y7 hle IU=>?_);have CU:=IU _ _ D.ez D.eTO D.ei1 D.ei2 he;have xf:=cC he;have uc:T≠e:=λq=>by rw[q]at hle;exact de _ (bT xf hle)
 refine ag (d9 CU rfl (x:=rawInt i) rfl ?_);refine ag (d9 CU rfl (x:=.none) rfl ?_);show wpAny _ _ (mkInt i>>= _) _ _ _;refine ag (wpAny_mkInt ?_);refine ag (lL CU (by simp) λbA CV dW=>?_);replace dW:Heap.SameBut e aF bA:=dW;replace CV:IsEnum bA e z ((i:Int)+1) old:=CV;refine ag (lL CV (by simp) λbW zc fM=>?_);replace fM:Heap.SameBut e bA bW:=fM;replace zc:IsEnum bW e z ((i:Int)+1) old:=zc;show wpAny _ _ (newTuple [.int i tk,.ref T]>>= _) _ _ _;refine ag (wpAny_newTuple ?_);have CW:IsEnum (bW.push {cls:=.type "tuple",data:=.seq #[.int i tk,.ref T]}) e z ((i:Int)+1) old:=bJ _ zc;have Xz:T<bW.objs.size:=by rw[fM.1,dW.1];exact cC y7
 have XA:=cC zc;refine ag ?_;unfold Builtin.SmallTypes.ownedTupleIsFree;refine ag (d9 CW rfl (x:=.none) rfl (aO ?_));simp only[if_true];refine ag (gX ?_);refine ag (d9 CW rfl (x:=old) rfl ?_);refine ag (lL CW (by simp) λjO CX nu=>?_);replace CX:IsEnum jO e z ((i:Int)+1) (.ref T):=CX;refine ag<|ag (lL CX (by simp) λXB CY Wg=>?_);replace CY:IsEnumOut XB e z ((i:Int)+1) (.ref T) bW.objs.size:=CY;refine lL CY (by simp) λtU CZ zb=>?_;replace CZ:IsEnumOut tU e z ((i:Int)+1) (.ref T) bW.objs.size:=CZ;have up3:∀c o,c≠e->aF.get? c=some o->bW.get? c=some o:=λc o c1 q=>fM.extBut _ _ c1 (dW.extBut _ _ c1 q);have up4:∀c o,c≠e->(bW.push {cls:=.type "tuple",data:=.seq #[.int i tk,.ref T]}).get? c=some o->tU.get? c=some o:=λc o c1 q=>zb.extBut _ _ c1 (Wg.extBut _ _ c1 (nu.extBut _ _ c1 q));have up:∀c o,c≠e->aF.get? c=some o->tU.get? c=some o:=λc o c1 q=>up4 c o c1 (bJ _ (up3 c o c1 q))
 refine ag (xX (aO (aE _ rfl (aO (hQ tU _ tk T bW.objs.size tkx tky ix iy CZ (up _ _ D.ez.symm Xy) eH (up _ _ D.eTI.symm Wc) (let ⟨a,b,q⟩:=Wd;(cX a b (up _ _ D.eTO.symm q))) (fI We λo=>up _ o D.ei1.symm) (fI Wf λo=>up _ o D.ei2.symm)
  (up _ _ uc y7) (up4 _ _ (qE XA) (cB _ rfl)) hle Xz λc o hc q=>?_)))))
 exact up c o (λh=>hc (.inl h)) (IU c o (λh=>hc (.inr (.inl h))) (λh=>hc (.inr (.inr (.inr (.inl h))))) (λh=>hc (.inr (.inr (.inr (.inr (.inl h)))))) (λh=>hc (.inr (.inr (.inr (.inr (.inr h)))))) q)
theorem Pn(hh:A.handled=none)(D:ZD1 e z TI TO i1 i2)(he:IsEnum s.heap e z i old)(hz:s.heap.get? z=some (gw f0 f1 TI TO))(hf:f0=.none∨∃(T:Addr) (o:Obj),f0=rawInt T/\s.heap.get? T=some o)(dB:IsPair s.heap TI (.ref i1) (.ref i2))(eJ:∃a b,IsPair s.heap TO a b)
  (h1:KBw.IsBytesIter s.heap i1 b1 t1 k)(h2:KBw.IsBytesIter s.heap i2 b2 t2 k)(nA:b1[k]?=none∨b2[k]?=none)
  (hQ:∀h' tk,(∀c o,¬(nF e z TI TO i1 i2).a c->s.heap.get? c=some o->h'.get? c=some o)->Q none {s with heap:=h',toks:=tk}):wpAny (model prog w) A (pyNext (.ref e)) Q E s:=by
 have hT:s.TypeIs (.ref e) "enumerate":=(aE _ he rfl);unfold pyNext
 refine ag (uN (mE (name:=Str.ofString "__next__") hT AD
  (i7 AD hT F.entry_enumerate_next ?_ (F.args_enumerate_next_1 _))))
 show wpAny _ _ (field (.ref e) 2>>= _) _ _ _;refine ag (d9 he rfl (x:=.ref z) rfl ?_);refine ag (MU hh D.d hz hf dB eJ h1 h2 nA λh' tk x fX Ad=>?_);refine ax Ad λo ho hc=>?_;refine ag (lO (T:="StopIteration") (b:=true) (aE o ho hc) Bd ?_);exact aO (hQ _ _ λc o hc q=>fX c o (λh=>hc (.inr (.inl h))) (λh=>hc (.inr (.inr (.inr (.inl h))))) (λh=>hc (.inr (.inr (.inr (.inr (.inl h)))))) (λh=>hc (.inr (.inr (.inr (.inr (.inr h)))))) q)
end
theorem Pl{b1 b2:List UInt8}{i:Nat}{V:AV}(h:(ng b1 b2)[i]?=some V):∃x y,b1[i]?=some x/\b2[i]?=some y/\V=.tup [.int (x.toNat:Int),.int (y.toNat:Int)]:=by
 refine az λkk=>?_;unfold ng at h;rw[kL,EZ]at h;obtain⟨⟨x,y⟩,h1,rfl⟩:=h;rw[List.getElem?_zip_eq_some]at h1;exact kk<|(cy x y h1.1 h1.2 rfl)
theorem OF{b1 b2:List UInt8}{i:Nat}(h:(ng b1 b2)[i]?=none):b1[i]?=none∨b2[i]?=none:=by
 unfold ng at h;rw[kL,Option.map_eq_none_iff,qp,List.length_zip]at h;rcases qF b1.length b2.length with q|q
 ·exact .inl (qp.mpr (by rw[gS q]at h;exact h))
 ·exact .inr (qp.mpr (by rw[uA q]at h;exact h))
theorem Pm{X:Cx}{e z TI TO i1 i2:Addr}{b1 b2:List UInt8}{t1 t2:Tok}{ts:List Expr}{x1}{pos:Pos}:Itr X 2 (some (.Tuple ts x1 pos)) (.ref e) (λv v=>True) (EnumZ X e z TI TO i1 i2 b1 t1 b2 t2):=by
 refine⟨λ{A own V l g σ s} hA S zz=>zz.rec λho D bH i old f0 f1 he hz hf dB eJ h1 h2 hl=>?_,λ{A own g σ s} hA S zz=>zz.rec λho D bH i old f0 f1 he hz hf dB eJ h1 h2 hl=>?_,λv=>trivial,
  λ{own l g σ s} zz=>zz.rec λho D bH i old f0 f1 he hz hf dB eJ h1 h2 hl=>?_,λ{A own l g σ s Q} hA S zz q=>zz.rec λho D bH i old f0 f1 he hz hf dB eJ h1 h2 hl=>AS he q,
  λ{own l P g σ s g' ab s'} zz G aZ v=>zz.rec λho D bH i old f0 f1 he hz hf dB eJ h1 h2 hl=>?_⟩
 ·cases hd:(ng b1 b2).drop i with
  |nil=>rw[hd]at hl;cases hl
  |cons W rest=>
   rw[hd]at hl;obtain⟨e1,e2⟩:=qN hd;cases hl;refine cP (Pl e1) λx y hx hy jM=>?_;subst jM;have eH:f0=.none∨∃(T:Addr) (o:Obj),f0=rawInt T/\s.heap.get? T=some o:=hf.imp id λc5=>iF c5 λT o a b=>(ey T o a (S.in_ T o b));refine OE D he hz eH dB eJ h1 h2 (by simpa using hx) (by simpa using hy) λh' tk ti T TT tkx tky ix iy fX iY XC XD DN ej lF hT Zt hle cG hk=>(aE _ rfl ?_);refine wpAny_letOwnedTupleGo_enum (elts:=ts) (x1:=x1) (pos:=pos) fX λw0 DI lx=>?_;have xf:=cC he;have uc:T≠e:=λq=>by rw[q]at hle;exact de _ (bT xf hle)
   have XE:TT≠e:=λq=>by rw[q]at cG;exact de _ (uS xf (dw hle cG))
   have ai:Go X (nF e z TI TO i1 i2) g σ s g σ {s with heap:=w0,toks:=tk}:=Go.extP S bH λb o hb eb=>(lx.2 b (λq=>hb (.inl q))).trans (hk b o hb eb);have DJ:=(lx.2 _ uc).trans hT;have Wh:=(lx.2 _ XE).trans Zt;have w3:=dG S hle;have XF:=dG S (ae hle (dS cG));have aN:=Go.freeze ai.sat w3 DJ;have bR:=qE cG;have pE:∀{g:View} {o:Obj} {a:Addr} b,b≠a->Free X g σ b->Free X (g.add a o) σ b:=λb hb hf=>⟨by unfold View.add;exact aaE (ar hb)<|hf.1,hf.2⟩;have IV:=pE (o:={cls:=.type "tuple",data:=.seq #[.int (x.toNat:Int) tkx,.int (y.toNat:Int) tky]}) (a:=T) TT bR XF;have bL:=Go.freeze aN.sat IV Wh;have w4:∀a,s.heap.objs.size<=a->∀o,s.heap.get? a=some o->False:=λa h o q=>de _ (bT (cC q) h);have LA:=ae hle (dS cG);have XG:=View.le_add (g:=g) (a:=T) {cls:=.type "tuple",data:=.seq #[.int (x.toNat:Int) tkx,.int (y.toNat:Int) tky]} w3.1;have DO:=View.le_add (a:=TT) {cls:=.type "tuple",data:=.seq #[.int i ti,.ref T]} IV.1
   have hold:∀a,(nF e z TI TO i1 i2).a a->a<s.heap.objs.size:=λa q=>by
    rcases q with rfl|rfl|rfl|rfl|rfl|rfl
    ·exact xf
    ·exact cC hz
    ·exact cC dB
    ·refine bk eJ λv v q=>?_;exact cC q
    ·refine ax h1 λv q v=>?_;exact cC q
    ·refine ax h2 λv q v=>?_;exact cC q
   have XH:=fI ej λo q=>(lx.2 i1 D.ei1.symm).trans q;have XI:=fI lF λo q=>(lx.2 i2 D.ei2.symm).trans q;refine(.mk _ (nF e z TI TO i1 i2) (ho▸Pv.Le.refl _ _) (by exact aaE ho<|(ai.comp aN ⟨λb o eb q=>(w4 T hle o (by exact aaE (aq (show b=T from q))<|eb)).elim,λv v q=>q⟩).comp bL ⟨λb o eb q=>(w4 TT LA o (by exact aaE (aq (show b=TT from q))<|eb)).elim,λv v q=>q⟩) ?_ (.mk rfl D (λa q=>?_) (i+1) (.ref T) ix iy ?_ ((lx.2 z D.ez.symm).trans iY) ?_ ((lx.2 TI D.eTI.symm).trans XD) (DN.elim λa q=>q.elim λb q=>⟨a,b,(lx.2 TO D.eTO.symm).trans q⟩) XH XI (by exact aaE e2 rfl)))
   ·refine(cy TT ([.int i ti,.ref T]) rfl (cy _ _ (by unfold View.add;exact aaE (aA rfl) rfl) rfl rfl) (.cons .int (.cons ?_ .nil)))
    exact(cy T ([.int (x.toNat:Int) tkx,.int (y.toNat:Int) tky]) rfl (cy _ _ (DO _ _ (by unfold View.add;exact aaE (aA rfl) rfl)) rfl rfl) (.cons .int (.cons .int .nil)))
   ·have:=hold a q
    exact pE a (λh=>by rw[h]at this;exact de _ (bT this LA)) (pE a (λh=>by rw[h]at this;exact de _ (bT this hle)) (bH a q))
   ·have:((i+1:Nat):Int)=(i:Int)+1:=by push_cast;rfl
    exact aaE this<|DI
   ·clear hz eH iY;rcases XC with rfl|⟨rfl,hn⟩
    ·exact .inr (ey T _ rfl (DO _ _ (by unfold View.add;exact aaE (aA rfl) rfl)))
    ·rcases hf with q|⟨T',o',a,b⟩
     ·exact absurd q hn
     ·exact .inr (ey T' o' a (DO _ _ (XG _ _ b)))
 ·cases hd:(ng b1 b2).drop i with
  |cons W rest=>rw[hd]at hl;cases hl
  |nil=>
   have nA:=OF (sG hd);have eH:=hf.imp id λdY=>iF dY λT o a b=>(ey T o a (S.in_ T o b));refine Pn hA.handled D he hz eH dB eJ h1 h2 (by simpa using nA) λh' tk hk=>(q9 rfl g ?_);exact aaE ho<|Go.extP S bH hk
 ·subst ho
  refine⟨λb q=>?_,λv q=>q.elim⟩;clear D bH zz;rcases q with rfl|rfl|rfl|rfl|rfl|rfl
  ·exact⟨_,he⟩
  ·exact⟨_,hz⟩
  ·exact⟨_,dB⟩
  ·refine bk eJ λv v q=>?_;exact⟨_,q⟩
  ·refine ax h1 λo q v=>?_;exact⟨o,q⟩
  ·refine ax h2 λo q v=>?_;exact⟨o,q⟩
 ·subst ho
  have kp:∀a o,(nF e z TI TO i1 i2).a a->s.heap.get? a=some o->(∀es ep,o.data≠.dict es ep)->s'.heap.get? a=some o:=λa o q ea hc=>by
   rcases G.run.keep a o ea (bH a q).2.1 (bH a q).2.2 (aZ.1 a q)with r|⟨r,_⟩
   ·exact r
   ·refine bk r λv v r=>?_;exact absurd r (hc _ _)
  refine(.mk rfl D (λa q=>?_) i old f0 f1 (kp _ _ (.inl rfl) he (by simp)) (kp _ _ (.inr (.inl rfl)) hz (by simp)) (hf.imp id λiV=>iF iV λT o a b=>(ey T o a (G.le _ _ b))) (kp _ _ (.inr (.inr (.inl rfl))) dB (by simp)) (eJ.elim λa q=>q.elim λb q=>⟨a,b,kp _ _ (.inr (.inr (.inr (.inl rfl)))) q (by simp)⟩) ?_ ?_ hl)
  ·have hx:∃o,s.heap.get? a=some o:=by
    clear D bH zz aZ kp;rcases q with rfl|rfl|rfl|rfl|rfl|rfl
    ·exact⟨_,he⟩
    ·exact⟨_,hz⟩
    ·exact⟨_,dB⟩
    ·refine bk eJ λv v q=>?_;exact⟨_,q⟩
    ·refine ax h1 λo q v=>?_;exact⟨o,q⟩
    ·refine ax h2 λo q v=>?_;exact⟨o,q⟩
   obtain⟨o,ea⟩:=hx;exact(bH a q).go G ea (aZ.1 a q)
  ·refine dp h1 λo ea hc hd=>?_
   exact(dh o (kp _ _ (.inr (.inr (.inr (.inr (.inl rfl))))) ea (λv v q=>by rw[hd]at q;cases q)) hc hd)
  ·refine dp h2 λo ea hc hd=>?_
   exact(dh o (kp _ _ (.inr (.inr (.inr (.inr (.inr rfl))))) ea (λv v q=>by rw[hd]at q;cases q)) hc hd)
open AutoSeq1 (wpAny_loadPart')
noncomputable abbrev LR(b:Array UInt8)(t:Tok):Obj:={cls:=.type "bytes_iterator",data:=.fields #[.bytes b t,.int 0 0]}
noncomputable abbrev rh(h:Heap)(b1:Array UInt8)(t1:Tok):Heap:=h.push (LR b1 t1)
noncomputable abbrev wo(h:Heap)(b1:Array UInt8)(t1:Tok)(b2:Array UInt8)(t2:Tok):Heap:=(rh h b1 t1).push (LR b2 t2)
noncomputable abbrev zu(h:Heap)(b1:Array UInt8)(t1:Tok)(b2:Array UInt8)(t2:Tok):Heap:=(wo h b1 t1 b2 t2).push {cls:=.type "tuple",data:=.seq #[.ref h.objs.size,.ref (rh h b1 t1).objs.size]}
noncomputable abbrev zt(h:Heap)(b1:Array UInt8)(t1:Tok)(b2:Array UInt8)(t2:Tok):Heap:=(zu h b1 t1 b2 t2).push {cls:=.type "tuple",data:=.seq #[.none,.none]}
noncomputable abbrev ri(h:Heap)(b1:Array UInt8)(t1:Tok)(b2:Array UInt8)(t2:Tok):Heap:=(zt h b1 t1 b2 t2).push {cls:=.type "zip",data:=.fields #[.none,.bool false,.bool false,.ref (wo h b1 t1 b2 t2).objs.size,.ref (zu h b1 t1 b2 t2).objs.size]}
theorem MV(b1:Array UInt8)(t1:Tok)(b2:Array UInt8)(t2:Tok):
  Meets (Builtin.«zip.__new__» ⟨[.type "zip",.bytes b1 t1,.bytes b2 t2],[]⟩) (λx R s=>R (.ok (.ret (.ref (zt s.heap b1 t1 b2 t2).objs.size))) {s with heap:=ri s.heap b1 t1 b2 t2}):=
 .of_wp λprog w A R s h=>by
  obtain⟨hp,g,d,tk,os⟩:=s;have mv:=sub_zip;have p1:∀{Q:VP} {E},Q (.ref hp.objs.size) ⟨rh hp b1 t1,g,d,tk,os⟩->wpAny (model prog w) A.in1 (pyIter (.bytes b1 t1)) Q E ⟨hp,g,d,tk,os⟩:=λhq=>A0 hq;have p2:∀{Q:VP} {E},Q (.ref (rh hp b1 t1).objs.size) ⟨wo hp b1 t1 b2 t2,g,d,tk,os⟩->wpAny (model prog w) A.in1 (pyIter (.bytes b2 t2)) Q E ⟨rh hp b1 t1,g,d,tk,os⟩:=λhq=>A0 hq
  wp_walk using p1,p2
  exact⟨_,rfl,h⟩
set_option tactic.hygienic true in
theorem MH(z:Addr)(o:Obj)(hc:o.cls=.type "zip"):
  Meets (Builtin.«enumerate.__new__» ⟨[.type "enumerate",.ref z],[]⟩) (λ_ R s=>s.heap.get? z=some o/\
   R (.ok (.ret (.ref s.heap.objs.size))) {s with heap:=s.heap.push {cls:=.type "enumerate",data:=.fields #[.none,.bool false,.ref z,rawInt 0,.none,.none]}}):=
 .of_wp λprog w A R s h=>by
  obtain⟨hp,g,d,tk,os⟩:=s;obtain⟨hl,h⟩:=h;have mv:=sub_enumerate
  have pi:∀{A:Around} {Q:VP} {E},Q (.ref z) ⟨hp,g,d,tk,os⟩->wpAny (model prog w) A (pyIter (.ref z)) Q E ⟨hp,g,d,tk,os⟩:=λhq=>by
   have hT:Shared.TypeIs ⟨hp,g,d,tk,os⟩ (.ref z) "zip":=(aE _ hl hc);refine wpAny_pyIter_slot hT F.slot_zip_iter (i7 F.slot_zip_iter hT F.entry_zip_iter ?_ (F.args_zip_iter_1 _));exact aO (GK _ rfl ("zip") _ hT F.slot_zip_next.lookup hq)
  wp_walk using wpAny_loadPart' hl
  refine wpAny_stack_any λst=>aO ?_
  split
  ·rename_i c _ _ _ _ _
   cases(c==Value.type "enumerate")
   ·wp_walk using wpAny_loadPart' hl,pi
    exact(aE _ rfl h)
   ·wp_walk using wpAny_loadPart' hl,pi
    exact(aE _ rfl h)
  ·wp_walk using wpAny_loadPart' hl,pi
   exact(aE _ rfl h)
section
variable {prog:Program} {w:World} {A:Around} {E:Value->Shared->Prop} {s:Shared}
theorem M7
  (h:∀h',IsZip h' (s.heap.objs.size+4) (s.heap.objs.size+2) (s.heap.objs.size+3) .none->IsPair h' (s.heap.objs.size+2) (.ref s.heap.objs.size) (.ref (s.heap.objs.size+1))->
   IsPair h' (s.heap.objs.size+3) .none .none->KBw.IsBytesIter h' s.heap.objs.size b1 t1 0->KBw.IsBytesIter h' (s.heap.objs.size+1) b2 t2 0->h'.objs.size=s.heap.objs.size+5->
   (∀c o,s.heap.get? c=some o->h'.get? c=some o)->Q (.ref (s.heap.objs.size+4)) {s with heap:=h'}):
  wpAny (model prog w) A (call (.type "zip") [.bytes b1 t1,.bytes b2 t2]) Q E s:=by
 refine callType_new F.called_zip (by decide) (F.typeCall_zip_2 _ _) (F.newCall_zip_2 _ _) (λobj=>F.args_object_init_3 obj _ _) F.entry_zip_new
  (MV b1 t1 b2 t2) ?_
 have z1:(rh s.heap b1 t1).objs.size=s.heap.objs.size+1:=iA ..;have z2:(wo s.heap b1 t1 b2 t2).objs.size=s.heap.objs.size+2:=by(exact aaE (iA ..)<|aaE z1 rfl)
 have z3:(zu s.heap b1 t1 b2 t2).objs.size=s.heap.objs.size+3:=by(exact aaE (iA ..)<|aaE z2 rfl)
 have z4:(zt s.heap b1 t1 b2 t2).objs.size=s.heap.objs.size+4:=by(exact aaE (iA ..)<|aaE z3 rfl)
 have z5:(ri s.heap b1 t1 b2 t2).objs.size=s.heap.objs.size+5:=by(exact aaE (iA ..)<|aaE z4 rfl)
 have g5:(ri s.heap b1 t1 b2 t2).get? (zt s.heap b1 t1 b2 t2).objs.size=some _:=cB _ rfl;have g4:(ri s.heap b1 t1 b2 t2).get? (zu s.heap b1 t1 b2 t2).objs.size=some _:=bJ _ (cB _ rfl);have g3:(ri s.heap b1 t1 b2 t2).get? (wo s.heap b1 t1 b2 t2).objs.size=some _:=bJ _ (bJ _ (cB _ rfl));have g2:(ri s.heap b1 t1 b2 t2).get? (rh s.heap b1 t1).objs.size=some _:=bJ _ (bJ _ (bJ _ (cB _ rfl)));have g1:(ri s.heap b1 t1 b2 t2).get? s.heap.objs.size=some _:=bJ _ (bJ _ (bJ _ (bJ _ (cB _ rfl))));rw[z2,z3,z4]at g5;rw[z1,z2]at g3;rw[z3]at g4;rw[z1]at g2
 exact aaE z4<|⟨(aE _ g5 rfl),h _ g5 g3 g4 (dh _ g1 rfl rfl) (dh _ g2 rfl rfl) z5 λc o x=>
  bJ _ (bJ _ (bJ _ (bJ _ (bJ _ x))))⟩
theorem MJ(h1:s.heap.get? z=some o)(hc:o.cls=.type "zip")
  (h:Q (.ref s.heap.objs.size) {s with heap:=s.heap.push {cls:=.type "enumerate",data:=.fields #[.none,.bool false,.ref z,rawInt 0,.none,.none]}}):wpAny (model prog w) A (call (.type "enumerate") [.ref z]) Q E s:=by
 refine callType_new F.called_enumerate (aI rfl) (F.typeCall_enumerate_1 _) (F.newCall_enumerate_1 _) (λobj=>xp obj _) F.entry_enumerate_new (MH z o hc) ⟨h1,?_⟩;exact⟨(aE _ (cB _ rfl) rfl),h⟩
end
theorem RK(n k:Nat)(hk:k=n+5):ZD1 k (n+4) (n+2) (n+3) n (n+1):=by
 exact aaE hk<|⟨⟨by simp,by simp,by simp,by simp,by simp,by simp,by simp,by simp,by simp,by simp⟩,by simp,by simp,by simp,by simp,by simp⟩
theorem HC(n k:Nat)(hk:k=n+5)(a:Nat)(h:(nF k (n+4) (n+2) (n+3) n (n+1)).a a):n<=a:=by
 subst hk;have h:=h;exact UX h
theorem NH{x1}
  (oj:Ev X A E env m pM σ λF ay=>F=.typ "enumerate"/\ay=σ)(q8:Ev X A E env m iQ σ λF ay=>F=.typ "zip"/\ay=σ)(he:iR X A E env m [e1,e2] g9 σ λl ay=>l=[.bytes b1,.bytes b2]/\ay=σ)(hq:Q (λy y=>True) (kd 0 (ng b1 b2)) σ)
  (h1:eval (.Call pM [.Call iQ [e1,e2] [] g9] [] fN) env=(do callWith fN (←eval pM env) [] (backTo fN (starEach [.Call iQ [e1,e2] [] g9] env)) (backToKw fN (keywordEach [] env))):=by rfl)
  (h2:eval (.Call iQ [e1,e2] [] g9) env=(do callWith g9 (←eval iQ env) [] (backTo g9 (starEach [e1,e2] env)) (backToKw g9 (keywordEach [] env))):=by rfl)
  (s1:starEach [.Call iQ [e1,e2] [] g9] env=(false,eval (.Call iQ [e1,e2] [] g9) env)::starEach [] env)(s2:(starEach [e1,e2] env).all (λx=> !x.1)=true):
  lz X A E 2 env m (some (.Tuple ts x1 tp)) (.Call pM [.Call iQ [e1,e2] [] g9] [] fN) σ Q:=λg s S F=>
 Call_ (aB (oj g s S F) (λfv s₁ zz=>zz.rec λaJ f ay ai aX aR=>bY aR λe1 e2=>by
  subst e1 e2;refine o6 (fvs:=[]) aX (sL ?_ s1) (by rw[s1];rfl);refine Call_ (aB (q8 aJ s₁ ai.sat (F.go ai)) (λCJ s₂ zz=>zz.rec λbj VO aS aN dJ ba=>bY ba λe1 e2=>?_) i2) h2;subst e1 e2;have l6:=ai.trans aN;refine o6 (fvs:=[]) dJ (aB (he bj s₂ aN.sat (F.go l6)) (λvs a8 zz=>zz.rec λeG l dZ bL ou bh=>bY bh λe1 e2=>?_) i2) s2;subst e1 e2;refine⟨(ey eG _ bL.sat trivial),?_⟩;have CK:fv=.type "enumerate":=by exact aX
  have CL:CJ=.type "zip":=by exact dJ
  subst CK CL;obtain⟨v1,r,rfl,q1,ou⟩:=ou;obtain⟨v2,r,rfl,q2,ou⟩:=ou;clear zz;refine aaE ou ?_;clear zz;obtain⟨t1,rfl⟩:=q1;clear zz;obtain⟨t2,rfl⟩:=q2;have G:=l6.trans bL;refine M7 λh' hz dB eJ Zu jq hsz hk=>args_nil ⟨(ey eG _ (bL.sat.keeps (s':={a8 with heap:=h'}) hk) trivial),?_⟩;refine MJ hz rfl ?_;have up:∀c o,h'.get? c=some o->(h'.push {cls:=.type "enumerate",data:=.fields #[.none,.bool false,.ref (a8.heap.objs.size+4),rawInt 0,.none,.none]}).get? c=some o:=λc o q=>bJ _ q;have fX:IsEnum (h'.push {cls:=.type "enumerate",data:=.fields #[.none,.bool false,.ref (a8.heap.objs.size+4),rawInt 0,.none,.none]}) h'.objs.size (a8.heap.objs.size+4) (0:Int) .none:=cB _ rfl;refine AS fX ?_;have Gk:Go X aL eG dZ a8 eG dZ {a8 with heap:=h'.push {cls:=.type "enumerate",data:=.fields #[.none,.bool false,.ref (a8.heap.objs.size+4),rawInt 0,.none,.none]}}:=Go.keeps bL.sat λb o e=>up _ _ (hk b o e);have hold:∀b o,s.heap.get? b=some o->b<a8.heap.objs.size:=λb o e=>du (G.dom e id) λo' e'=>cC e'
  refine⟨eG,dZ,_,EnumZ X h'.objs.size (a8.heap.objs.size+4) (a8.heap.objs.size+2) (a8.heap.objs.size+3) a8.heap.objs.size (a8.heap.objs.size+1) b1 t1 b2 t2,nF h'.objs.size (a8.heap.objs.size+4) (a8.heap.objs.size+2) (a8.heap.objs.size+3) a8.heap.objs.size (a8.heap.objs.size+1),_,G.trans Gk,⟨λb o eb q=>?_,λy y q=>q⟩,Pm,
   (.mk rfl (RK _ _ hsz) (λa q=>dG bL.sat (HC _ _ hsz a q)) 0 .none .none (.bool false) fX (up _ _ hz) (.inl rfl) (up _ _ dB) (cX _ _ (up _ _ eJ)) (fI Zu λo=>up _ o) (fI jq λo=>up _ o) rfl),hq⟩
  exact de _ (bT (hold b o eb) (HC _ _ hsz b q))) i2) h1
structure Base3(X:Cx):Prop extends Base2 X where
 g_zip:bV X "zip" (.typ "zip")
theorem G7:∀(b p:By),cn b (p.take b.length)=cn b p
 |[],p=>by simp[cn]
 |x::b,[]=>by simp[cn]
 |x::b,y::p=>by
  simp only[cW,nN,cn]
  split
  ·exact aaE (G7 b p) rfl
  ·rfl
theorem Qj(hD:∀σ,Dep σ σ)
  (IW:∀(i:Nat) (x y:UInt8) m,(As X A aC P env m target (.tup [.int (i:Int),.tup [.int (x.toNat:Int),.int (y.toNat:Int)]]) σ λm₁ ay=>Exs X A aC P env m₁ body ay λF m₂ aS=>aS=σ/\(if x=y then F=.next else F=.ret (.int (i:Int))))):
  ∀(a b:By) (i:Nat) m,a.length=b.length->a≠b->(∀m,Q (.ret (.int ((i+cn a b:Nat):Int))) m σ)->pH X A Dep P env target body Q (kd i (ng a b)) m σ:=by
 intro a
 induction a with
 |nil=>intro b i m hl bR hq;clear hq;cases b with|nil=>exact absurd rfl bR|cons _ _=>simp at hl
 |cons x a ih=>
  intro b i m hl bR hq
  cases b with
  |nil=>simp at hl
  |cons y b=>
   show As X A aC P env m target (.tup [.int (i:Int),.tup [.int (x.toNat:Int),.int (y.toNat:Int)]]) σ λm₁ ay=>Exs X A aC P env m₁ body ay λF m₂ aS=>match F with
    |.next|.cont=>Dep σ aS/\pH X A Dep P env target body Q (kd (i+1) (ng a b)) m₂ aS
    |.brk=>Q .next m₂ aS
    |.ret V=>Q (.ret V) m₂ aS
   refine As.mono (IW i x y m) λm₁ ay aF g s S F=>?_;refine aB (aF g s S F) (λf s' zz=>zz.rec λg' Fl m₂ aS G F' rf aR=>bY aR λe q=>⟨g',Fl,m₂,aS,G,F',rf,?_⟩) i2;clear IW aF zz rf aR;refine aaE e ?_
   by_cases lD:x=y
   ·rw[aA lD]at q
    subst q;refine⟨hD _,ih b (i+1) m₂ (by simpa using hl) (λh=>bR (by(exact aaE lD<|aaE h rfl))) λm=>?_⟩;have:=hq m;simp only[cn,lD,if_true]at this
    rwa [show i+1+cn a b=i+(cn a b+1)from by exact S7 hl]
   ·rw[ar lD]at q
    subst q;have:=hq m₂;simp only[cn,lD,j7]at this;exact this
section
variable {X:Cx} {σ:St} (hX:Base3 X)
include hX
theorem RP(hl:a.length=b.length)(bR:a≠b)(h:Q (.int (cn a b:Nat)) σ):CallOk X 4 (.ref 221) [.bytes a,.bytes b] σ Q:=by
 refine bk hX.f_gcp λcode pm F=>?_;refine dQ F ["left_key","right_key"] (c7 ["left_key","right_key"] λvs hv=>?_) rfl λA L hA=>?_
 ·(apply gG hv;intro v w;rfl)
 refine aw<|yL (k:=2) hA.mo (NH (s1:=by rfl) (s2:=by rfl) (b1:=a) (b2:=b) (eg hX.g_enumerate ⟨rfl,rfl⟩) (eg hX.g_zip ⟨rfl,rfl⟩) (ak<|af (.bytes a)<|ak<|af (.bytes b)<|aD ⟨rfl,rfl⟩) ?_);refine Qj (λz=>trivial) (λi x y m=>?_) a b 0 _ hl bR λm=>by exact aaE (Nat.zero_add ..)<|h
 refine eR hA.handled rfl rfl<|bG<|aQ<|bG<|eR hA.handled rfl rfl (bG<|aQ<|bG<|aQ<|eS<|eS ?_);refine aw<|bp<|aT<|af (.int (x.toNat:Int))<|af (.int (y.toNat:Int))<|x9 ⟨_,rfl,?_⟩
 by_cases lD:x=y
 ·subst lD
  exact bQ (c:=((x.toNat:Int) !=(x.toNat:Int))) (by simp)<|bw (bw ⟨rfl,by exact aaE (aA rfl) rfl⟩)
 ·refine dR (c:=((x.toNat:Int) !=(y.toNat:Int))) (qK.mpr λh=>lD (xB.mp (Int.ofNat.inj h)))<|aw<|cD<|af (.int (i:Int)) ⟨rfl,by exact aaE (ar lD) rfl⟩
end
end
section
open PySem.W.X PySem.Calls Builtin Builtin.ObjectAttr
noncomputable def eY:List (Str×Addr):=[("get",299),("_get",306),("set",313),("_set",321),("_set_kv_node",329),("_set_branch_node",337),("exists",344),("delete",351),("_hash_and_save",373)]
structure ClsOk(K:Frag):Prop where
 ga:findIn K (.ref 404) "__getattribute__"=some (some (.builtin "object.__getattribute__"))
 gk:findIn K (.ref 404) "__getattr__"=some none
 sa:findIn K (.ref 404) "__setattr__"=some (some (.builtin "object.__setattr__"))
 over:plainOver K 404=true
 hd:hasDictIn K 404=true
 mks:makesIn K 404=true
 init:findIn K (.ref 404) "__init__"=some (some (.ref 292))
 initf:typeIn K (.ref 292)=some (.type "function")
 at_db:findIn K (.ref 404) "db"=some none
 at_ho:findIn K (.ref 404) "hash_of"=some none
 at_rh:findIn K (.ref 404) "root_hash"=some none
 meth:∀p∈eY,findIn K (.ref 404) p.1=some (some (.ref p.2))/\typeIn K (.ref p.2)=some (.type "function")
 keep:keepIn K (.ref 404)=true
structure Base4(X:Cx):Prop extends Base3 X where
 cls:∃K:Frag,(∀h:Heap,X.B.In h->K.In h)/\ClsOk K
 g_BT:bV X "BinaryTrie" (.ref 404)
structure Inst(σ:St)(a dx:Addr)(l:List (Str×AV)):Prop where
 obj:σ a=some (.obj (instObj 404 dx))
 ns:σ dx=some (.ns l)
theorem Inst.ne{l}(h:Inst σ a dx l):a≠dx:=λe=>by
 have:=h.obj;rw[e,h.ns]at this;cases this
theorem GB{h:Heap}{dx:Addr}{m:Str->Option Value}{o:Obj}{name:Str}(x:h.Ns1 dx m)(ho:h.get? dx=some o):lookIn name o=some (m name):=by
 refine az λkk=>?_;refine mM x λo' es ep e d k u f=>?_;refine kk ?_;rw[ho]at e;(refine aaE (bq e) ?_);unfold lookIn;refine aaE d ?_;dsimp only;refine aaE (aq (f name)) ?_
 have hf:nsFind es name=(es.toList.find? (λe=>e.key.isStr name)).map (·.val):=by
  unfold nsFind findBy;exact aaE (aq (Array.find?_toList)) rfl
 refine aaE hf ?_
 cases hh:es.toList.find? (λe=>e.key.isStr name)with
 |some e=>rfl
 |none=>
  have hr:es.toList.any (·.refKey)=false:=by
   refine aaE (propext List.any_eq_false) ?_;intro b hb;refine bk (k b (Array.mem_toList_iff.mp hb)) λn t hk=>?_;simp[DictEntry.refKey,hk]
  refine aaE hr ?_;rfl
section
variable {X:Cx} {A:Around} {E:Value->Shared->Prop} {P:Pv} {env:Env} {m:Mp} {σ:St} {a dx:Addr} {l:List (Str×AV)} {name:Str} {K:Frag}
theorem B7(I:Inst σ a dx l)(S:Sat X g σ s):∃o mm,s.heap.get? dx=some o/\s.heap.Ns1 dx mm/\(∀x,(match l.lookup x with|some V=>∃v,mm x=some v/\Rep g V v|none=>mm x=none))/\InstAt s.heap a (instObj 404 dx) 404 (some o):=by
 refine az λkk=>?_;refine ax ((S.trk dx _ I.ns).2) λmm hn hm=>?_;refine mU (id hn) λo es ep e r=>?_;exact kk<|(lX o mm e hn hm ⟨(S.trk a _ I.obj).2,rfl,rfl,e⟩)
noncomputable def atts:List Str:=["db","hash_of","root_hash"]
theorem ClsOk.att(C:ClsOk K)(h:name∈atts):findIn K (.ref 404) name=some none:=by
 simp only[atts,dm,mG,mR]at h;rcases h with rfl|rfl|rfl
 ·exact C.at_db
 ·exact C.at_ho
 ·exact C.at_rh
theorem yF{Q:AP}(hX:Base4 X){xv:Str}{V:AV}{p1 p2:Pos}(I:Inst σ a dx l)(hm:m xv=some (.ref a))(hn:name∈atts)(hl:l.lookup name=some V)(hV:∀g v,Rep g V v->handedIn v=true)(h:Q V σ)
  (hd:(xv==("__debug__":Str))=false)(hc:(xv==("__classdict__":Str))=false):Ev X A E env m (.Attribute (.Name xv p1) name p2) σ Q:=λg s S F=>by
 refine ax hX.cls λK hK C=>?_;refine Attribute_name (aB (aP (A:=A) (E:=E) (pos:=p1) (Q:=λW ay=>W=.ref a/\ay=σ) (hd:=hd) (hc:=hc) hm ⟨rfl,rfl⟩ g s S F) (λo s₁ zz=>zz.rec λaJ W ay ai r aR=>bY aR λe1 e2=>?_) i2);subst e1 e2;clear zz;refine aaE r ?_;refine az λkk=>?_;refine j8 (B7 I ai.sat) λod mm ho oF uh IA=>?_;have hv:=uh name;rw[hl]at hv;refine ax hv λv hv rv=>?_;refine kk<|get_value (hK _ (ai.sat.in_.le ai.sat.le)) IA C.ga (findObj_own C.hd (C.att hn) rfl (by(exact aaE (GB oF ho)<|aaE hv rfl))) (hV _ _ rv) ?_;exact Post.to (ai.trans (Go.keeps ai.sat λx x e=>e)) ⟨V,rv,h⟩
theorem Vn{Q:AP}(hX:Base4 X){f:Addr}(I:Inst σ a dx l)(hn:(name,f)∈eY)(hl:l.lookup name=none)(h:Q (.ref f) σ):pz X A E name (.ref a) σ Q:=λg s v pl S r=>by
 refine ax hX.cls λK hK C=>?_;refine aaE r<|az λkk=>?_;refine j8 (B7 I S) λod mm ho oF uh IA=>?_;have hv:=uh name;rw[hl]at hv;obtain⟨h1,h2⟩:=C.meth _ hn;exact kk<|method_fn (hK _ (S.in_.le S.le)) IA C.ga C.gk h1 h2 (by unfold shadowIn;dsimp only;(refine aaE (GB oF ho)<|aaE hv ?_);rfl) (gZ g (.ref f) σ (.refl S) (by exact rfl) rfl h)
theorem vC(hX:Base4 X)(I:Inst σ a dx l)(hm:m xv=some (.ref a))(hn:name∈atts)(hz:l.length<=50)(h:Q m (σ.set dx (.ns ((name,V)::l))))
  (hd:(xv==("__debug__":Str))=false)(hc:(xv==("__classdict__":Str))=false):As X A E P env m (.Attribute (.Name xv p1) name p2) V σ Q:=λg s v S F rv=>by
 refine ax hX.cls λK hK C=>?_;refine aaE (arm_assign_Attribute ..)<|ag (eL (aB (aP (A:=A) (E:=E) (pos:=p1) (Q:=λW ay=>W=.ref a/\ay=σ) (hd:=hd) (hc:=hc) hm ⟨rfl,rfl⟩ g s S F) (λo s₁ zz=>zz.rec λaJ W ay ai r ba=>bY ba λe1 e2=>?_) i2));subst e1 e2;clear zz;refine aaE r ?_;refine az λkk=>?_;refine j8 (B7 I ai.sat) λod mm ho oF uh IA=>?_;refine kk<|ag (d7 (ag (eL ?_)));have Mj:takerIn K 404 name=some none:=by unfold takerIn;refine aaE (C.att hn) ?_;rfl
 have rQ:=hK _ (ai.sat.in_.le ai.sat.le);refine set_plain rQ IA C.sa (osa_open (s:={s₁ with toks:=s₁.toks+1}) rQ IA C.over Mj λb=>?_);refine ax (any_some C.hd) λcd hcd XJ=>?_;have XK:=rQ;unfold storeInOwnDict;refine ag (aO ?_);refine ag (ag (wpAny_loadPart IA.at_ (ag (Looks.here (s:={s₁ with toks:=s₁.toks+1}) (looks_clsIn XK hcd) ?_))));refine aaE XJ<|aO (a:=some dx) ?_;refine ag (aO (ag (wpAny_nsSet1 oF λh' eO hs=>?_)));refine az λkk=>?_
 have hw:Within mm (l.map (·.1)):=λy hy=>by
  have:=uh y
  cases hl:l.lookup y with
  |none=>rw[hl]at this;exact absurd this hy
  |some V=>exact cb.mpr ⟨(y,V),mem_of_lookup hl,rfl⟩
 refine jc (eO.count (Within.cons name v hw)) λoD esD epD Zv Zw Mk=>?_;refine kk<|ag (wpAny_lookBehind Zv (by exact aaE Zw<|pastItsLine_dict (ae Mk (by(refine aaE cW<|aaE (dF ..)<|aaE df ?_);exact fF (ae hz (lb rfl))))) ?_);refine aO (wpAny_release ?_)
 have aN:=Go.setTrk (s':={s₁ with heap:=h',toks:=s₁.toks+1+1}) ai.sat I.ns hs (t':=.ns ((name,V)::l)) ⟨_,eO,λx=>by
  refine az λkk=>?_
  by_cases hx:x=name
  ·clear hn h Mj eO Mk;subst hx
   refine kk ?_;simp only[cL,beq_self_eq_true,if_true];exact⟨v,rfl,rv.le ai.le⟩
  ·have hb:=cR.mpr hx
   refine kk ?_;simp only[cL,hb,ar hx]
   exact uh x⟩
 exact⟨aJ,m,_,(ai.trans aN).any,F.go (ai.trans aN),h⟩
theorem Go.mkInst(S:Sat X g σ s):Go X aL g σ s g ((σ.set s.heap.objs.size (.ns [])).set (s.heap.objs.size+1) (.obj (instObj 404 s.heap.objs.size))) {s with heap:=(s.heap.push emptyDict).push (instObj 404 s.heap.objs.size)}:=by
 have Af:=dG (a:=s.heap.objs.size) S (bC _);have t6:=dG (a:=s.heap.objs.size+1) S (gV _);have kp:∀b o,s.heap.get? b=some o->((s.heap.push emptyDict).push (instObj 404 s.heap.objs.size)).get? b=some o:=λb o e=>bJ _ (bJ _ e);have S':=S.keeps (s':={s with heap:=(s.heap.push emptyDict).push (instObj 404 s.heap.objs.size)}) kp;have hsz:(s.heap.push emptyDict).objs.size=s.heap.objs.size+1:=iA ..;have h1:((s.heap.push emptyDict).push (instObj 404 s.heap.objs.size)).get? (s.heap.objs.size+1)=some (instObj 404 s.heap.objs.size):=by rw[←hsz];exact cB _ rfl
 have h0:((s.heap.push emptyDict).push (instObj 404 s.heap.objs.size)).get? s.heap.objs.size=some emptyDict:=bJ _ (cB _ rfl);refine⟨⟨S'.le,S'.in_,λb u e=>?_,λp hp=>?_⟩,.refl g,λ_ _ _ _=>rfl,λb o e _=>?_,.keeps kp rfl rfl⟩
 ·unfold St.set at e
  split at e
  ·rename_i q;obtain rfl:=bq e;rw[q];exact⟨t6.1,h1⟩
  ·split at e
   ·rename_i q;(refine aaE (aq (bq e)) ?_);rw[q]
    exact(dP Af.1 (λ_=>none) (Heap.Ns1.of_empty (gZ _ _ _ h0 rfl (λe he=>absurd he (by simp)) (λ_=>rfl))) (λx=>rfl))
   ·exact S'.trk b u e
 ·refine az λkk=>?_
  refine iE (S'.tab p hp) λe1 e2 e3 ps e4=>?_;exact kk<|(mT e1 (by unfold St.set;rw[ar (t6.2.2 p hp),ar (Af.2.2 p hp)];exact e2) e3 ps e4)
 ·unfold St.set
  have:=cC e;rw[ar (kP (xu this)),ar (kP this)]
theorem Pt(hX:Base4 X)(hA:Room A (k+1))
  (h:∀a dx,σ a=none->σ dx=none->a≠dx->CallOk X k (.ref 292) (.ref a::args) ((σ.set dx (.ns [])).set a (.obj (instObj 404 dx))) λV ab=>V=.none/\Q (.ref a) ab):
  fy X A aC (.ref 404) args σ Q:=λg s fv vs S r rl=>by
 refine ax hX.cls λK hK C=>?_;obtain rfl:=r;have rQ:=hK _ (S.in_.le S.le);refine sC ?_;obtain⟨hh,gg,d,t,os⟩:=s;have G:=Go.mkInst S;have Af:=dG (a:=hh.objs.size) S (bC _);have t6:=dG (a:=hh.objs.size+1) S (gV _)
 have hR:Room (A.under (.builtin "type.__call__" ⟨.ref 404::vs,[]⟩)) k:=by
  have hw:(Code.builtin "type.__call__" ⟨.ref 404::vs,[]⟩).weight<=1:=by
   have:(Code.builtin "type.__call__" ⟨.ref 404::vs,[]⟩).weight=1∨(Code.builtin "type.__call__" ⟨.ref 404::vs,[]⟩).weight=0:=by first|exact .inl (by kernel_rfl)|exact .inr (by kernel_rfl)
   exact T5 this
  have hc:(Code.builtin "type.__call__" ⟨.ref 404::vs,[]⟩).cUnits<=3:=by
   have:(Code.builtin "type.__call__" ⟨.ref 404::vs,[]⟩).cUnits=1∨(Code.builtin "type.__call__" ⟨.ref 404::vs,[]⟩).cUnits=3:=by first|exact .inl (by kernel_rfl)|exact .inr (by kernel_rfl)
   exact this.elim (λe=>ae (aK e) (lb rfl)) (λe=>aK e)
  exact⟨hA.handled,by have:=hA.depth;exact dw (ae (dD (cK hw _) _) (aK (fq _ 1 _))) this,by have:=hA.units;exact tV this (ae hc (lb rfl))⟩
 refine make_core (makes_of rQ C.mks) (looks_findIn rQ C.init) (λself=>bind_fn rQ self C.initf) (.inl rfl) (gU (h (hh.objs.size+1) hh.objs.size t6.2.1 Af.2.1 (Nat.succ_ne_self _) _ g _ (.ref 292) (.ref (hh.objs.size+1)::vs) hR G.sat (by exact rfl) (.cons (by exact rfl) rl)) λr s' bh=>ax bh λv hr ⟨g',V,ab,G',rv,e,q⟩=>?_);subst hr e;clear bh;refine aaE rv ?_;exact⟨rfl,g',.ref (hh.objs.size+1),ab,G.trans G',by exact rfl,q⟩
end
end
section
open PySem.W.X PySem.Calls
noncomputable def iq(n:Nat):By:=((List.range 32).map λi=>(n / 256 ^ i % 256).toUInt8).reverse
noncomputable def d6(N:BD)(x:By):BD:=match N.lookup x with|some _=>N|none=>N.put x (iq (N.length+1))
noncomputable def fm(N:BD)(x:By):By:=((d6 N x).lookup x).getD []
noncomputable def iP:Stmt:=((fz (bD 55))[1]?).getD (.Pass default)
noncomputable def zv(c:Addr)(code pm ct doc:Value):FuncData:={name:=Cv iP,qualname:="law.<locals>.name_of",params:=vB iP,body:=.stmts (fz iP),scope:=qW iP,globals:=mainGlobals,closure:=[("names",c)],closureTuple:=ct,defaults:=.none,kwdefaults:=.none,pyModule:=pm,code:=code,doc:=doc,builtins:=builtinsNs}
structure NmF(σ:St)(f d:Addr)(N:BD):Prop where
 fn:∃o c co cc oc code pm ct doc vs t,σ f=some (.obj o)/\o.data=.func (zv c code pm ct doc)/\σ c=some (.obj co)/\co.data=.cell (some (.ref d))/\code=.ref cc/\σ cc=some (.obj oc)/\oc.data=.fields vs/\vs[1]?=some (.str "law.<locals>.name_of" t)
 dict:σ d=some (.dict N)
 d1:d≠1
section
variable {X:Cx} {A:Around} {E:Value->Shared->Prop} {env:Env} {m:Mp} {σ:St} {Q:AV->St->Prop}
theorem vD(hk:env.kindOf x=some .free)(hl:env.cells.lookup x=some c)(bf:σ c=some (.obj co))(hc:co.data=.cell (some (.ref d)))(h:Q (.ref d) σ)
  (hd:(x==("__debug__":Str))=false)(hcd:(x==("__classdict__":Str))=false):Ev X A E env m (.Name x pos) σ Q:=λg s S F=>by
 refine wpAny_Name ?_ hd;exact Fd F.kind hk hl (aE co ((S.trk c _ bf).2) hc) (Post.here S (by exact rfl) h) hcd
theorem Fm(bf:σ a=some (.dict l))(ha:a≠1)(h:Q (.bool (!(l.lookup k).isSome)) σ):cU X A E (compareOp .NotIn) (.bytes k) (.ref a) σ Q:=λg s v u S r r'=>by
 obtain⟨t,rfl⟩:=r;refine aaE r' ?_;refine ax (jC S bf) λkvs hd hk=>?_;refine wpAny_notIn_of (knd:=bytesKind P0 X.w) (k:=k) (qG P0 X.w k t) (by simpa [sysModules]using ha) hd.mapOf (Post.tok S .bool ?_)
 have e:(valueAt kvs k).isSome=(l.lookup k).isSome:=by
  obtain⟨h1,h2⟩:=hk.value (k:=k)
  cases q:l.lookup k with
  |none=>refine aaE (h2 q) ?_;rfl
  |some b=>obtain⟨t,e⟩:=h1 b q;refine aaE e ?_;rfl
 exact aaE e<|h
theorem Nv(h:Q (.blt "int.to_bytes") σ):pz X A E "to_bytes" (.int n) σ Q:=λg s v pl S r=>by
 obtain⟨t,rfl⟩:=r;exact KTBy.method (gZ g _ σ (.refl S) (by exact rfl) rfl h)
theorem Nu(hn:n<65536)(h:Q (.bytes (iq n)) σ):fy X A E (.blt "int.to_bytes") [.int (n:Int),.int 32,.str "big"] σ Q:=λg s fv vs S r rl=>by
 obtain rfl:=r;obtain⟨v1,us,rfl,r1,rl⟩:=rl;obtain⟨v2,us,rfl,r2,rl⟩:=rl;obtain⟨v3,us,rfl,r3,rl⟩:=rl;obtain rfl:=rl;obtain⟨t,rfl⟩:=r1;obtain⟨u,rfl⟩:=r2;obtain⟨v,rfl⟩:=r3
 have cz:Builtin.Int.intBits (n:Int)<=8*32:=by
  refine intBits_le_iff.mpr ?_;have:(65536:Nat)<=2 ^ (8*32):=by decide
  exact bT hn this
 have cG:(n:Int)<256 ^ 32:=by
  have:(65536:Int)<=256 ^ 32:=by decide
  exact Int.lt_of_lt_of_le (lR.mpr hn) this
 refine i7 KTBy.slot (sE s n t) KTBy.entry ?_ (KTBy.args _ _ _);show wpAny _ _ (Builtin.Int.intOfSelf (.int n t)>>= λy=>_) _ _ s;refine ag (dn (a:=(n:Int)) rfl ?_);show wpAny _ _ (Builtin.Int.intBindNamed "to_bytes" ["length","byteorder","signed"] 0 2 [.int 32 u,.str (PySem.Str.ofString "big") v] []>>= λl=>_) _ _ s;refine ag (dn (a:=[some (.int 32 u),some (.str (PySem.Str.ofString "big") v),none]) (by kernel_rfl) ?_);refine ag (dn (a:=(32:Int)) rfl ?_);refine KTBy.if_not rfl<|ag (dn (a:=PySem.Str.ofString "big") (by kernel_rfl) ?_);refine ag (dn (a:=false) rfl ?_);refine ag (dn (a:=false) (by kernel_rfl) ?_);refine Ba rfl<|Ba rfl<|Ba rfl<|KTBy.if_not (by show(decide ((n:Int)<0)&& !false)=false;refine aaE (oQ (show ¬(n:Int)<0 by exact I6)) ?_;rfl) ?_;refine KTBy.if_not (by(refine aaE (oQ (show ¬((Builtin.Int.intBits (n:Int):Int)>8*32) by exact Int.not_lt.mpr (oY.mpr cz))) ?_;exact aaE (Bool.and_false ..) rfl)) ?_
 have XM:KTBy.low (n:Int) 32=(List.range 32).map λi=>(n / 256 ^ i % 256).toUInt8:=by
  have h1:=KTBy.low_ints (x:=(n:Int)) (n:=32) (Dl) cG
  have inj:∀(a b:List UInt8),a.map (λc=>((c.toNat:Nat):Int))=b.map (λc=>((c.toNat:Nat):Int))->a=b:=λa=>by
   induction a with
   |nil=>intro b h;cases b with|nil=>rfl|cons _ _=>simp at h
   |cons x a ih=>
    intro b h
    cases b with
    |nil=>simp at h
    |cons y b=>
     simp only[eB,nT]at h;have h1:=xB.mp (by exact_mod_cast h.1)
     (exact aaE (ih b h.2)<|aaE h1 rfl)
  refine inj _ _ (h1.trans ?_);refine aaE fS<|r9 λi z=>?_;show(n:Int) / 256 ^ i % 256=(((n / 256 ^ i % 256).toUInt8).toNat:Int)
  have:((n / 256 ^ i % 256).toUInt8).toNat=n / 256 ^ i % 256:=by
   exact aaE AO<|Nat.mod_mod _ 256
  refine aaE this ?_
  push_cast
  rfl
 refine ag (wpAny_mkBytes (aO ⟨_,rfl,?_⟩) (by show(List.reverse (KTBy.low (n:Int) 32)).length<=sizeLine;(refine aaE List.length_reverse<|aaE (KTBy.low_length ..)<|aaE df ?_);exact TH));refine Post.tok S ?_ h;refine⟨s.toks,?_⟩;show Value.bytes (List.reverse (KTBy.low (n:Int) 32)).toArray s.toks=Value.bytes (iq n).toArray s.toks;refine aaE XM ?_
 rfl
noncomputable abbrev Cz(fd:FuncData)(L a:Addr):Env:=newEnv fd.scope L fd.globals fd.closure (fd.qualname++".<locals>.") (some a) fd.code none fd.builtins
theorem QZ(c9:∀h:Heap,X.B.In h->h.NoLimit)(XN:∃o,σ a=some (.obj o)/\o.data=.func fd)
  (vZ:∃cc oc vs t,fd.code=.ref cc/\σ cc=some (.obj oc)/\oc.data=.fields vs/\vs[1]?=some (.str fd.qualname t))(CQ:fd.body=.stmts body)(iW:∀x c,fd.closure.lookup x=some c->σ c≠none)(wx:fd.closure.Pairwise λx y=>x.2≠y.2)(x:Str)
  (jI:∀v:Value,bindArgs fd ⟨[v],[]⟩=pure [(x,v)])(hx:fd.scope.names.lookup x=some .local)(Ml:∀y∈fd.scope.names,y.2≠.cell)
  (h:∀A L,Room A k->Exs X A aC (bg L (Cz fd L a)) (Cz fd L a) (Mp.nil.upd x V) body σ (jR Q))
  (hco:fd.scope.isCoroutine=false)(hgen:fd.scope.isGenerator=false)(hk:fd.scope.kind=.function):CallOk X (k+1) (.ref a) [V] σ Q:=λA g s fv vs hA S hf r=>by
 obtain rfl:=hf;obtain⟨v,us,rfl,rv,r⟩:=r;refine aaE r<|az λkk=>?_;obtain⟨o,bf,hd⟩:=XN;have ho:=(S.trk a _ bf).2;obtain⟨cc,oc,ws,t,hc,XO,oB,hq⟩:=vZ;have Ep:=c9 _ (S.in_.le S.le);refine kk<|Ay (by have:=hA.depth;exact wk this) ho hd hco hgen CQ (lU cc oc ws t hc ((S.trk cc _ XO).2) oB hq) ?_;refine(dn (jI v) ?_);refine wpAny_newFunctionEnv Ml (λy hy=>by simp only[lM]at hy;exact aaE hy<|hx) (λh' hn hs=>?_) hk;have keep:∀b o,s.heap.get? b=some o->h'.get? b=some o:=λb o e=>hs.extBut b o (kP (cC e)) (bJ _ e);have G:Go X aL g σ s g σ {s with heap:=h',toks:=s.toks+[(x,v)].length}:=Go.keeps S keep
 have Fr:Frm X (Cz fd s.heap.objs.size a) (Mp.nil.upd x V) g σ {s with heap:=h',toks:=s.toks+[(x,v)].length}:=by
  refine⟨hk,dG S (bC _),(aE _ hn (λy W hy xg=>?_)),λy c hl xg pE=>absurd pE.2.1 (iW y c hl),λy W hy=>?_,wx,λy c hl=>?_,λy c xg hy hl=>absurd xg λxg=>?_⟩
  ·unfold Mp.upd at hy
   split at hy
   ·rename_i e;obtain rfl:=bq hy;refine aaE e ?_
    exact(aE v (by simp) rv)
   ·exact be hy
  ·unfold Mp.upd at hy
   split at hy
   ·rename_i e;clear jI h hn G;subst e;exact .inl hx
   ·exact be hy
  ·have bR:=iW y c hl
   cases hh:σ c with
   |none=>exact absurd hh bR
   |some tr=>obtain⟨o,e⟩:=(G.sat.trk c tr hh).2.at;exact⟨o,e⟩
  ·have:=mem_of_lookup xg
   exact Ml _ this rfl
 refine⟨Ep.keeps keep,codeAny_func (aB (h (A.deeper _) s.heap.objs.size (Room.deeper hA) g _ G.sat Fr) (λf aU zz=>zz.rec λg' Fl m' ab G' _ rf q=>?_) λ_ _ x=>x.elim)⟩;have dX:Go X aL g σ s g' ab aU:=Go.weaken (Go.trans (G.any) G') (pj (bC _))
 cases Fl with
 |next=>(first|exact be rf|exact bZ rf|exact gy rf|exact gN rf|(refine aaE (bq rf) ?_)|clear zz;subst rf|cases rf);exact(aE _ rfl ⟨g',.none,ab,dX,by exact rfl,q⟩)
 |ret V=>clear zz;obtain⟨v,rfl,rv⟩:=rf;exact(aE v rfl ⟨g',V,ab,dX,rv,q⟩)
 |brk=>exact q.elim
 |cont=>exact q.elim
end
theorem BD.put_get{N:BD}{x v:By}:(N.put x v).lookup x=some v:=by
 induction N with
 |nil=>simp[BD.put]
 |cons p N ih=>
  obtain⟨k,u⟩:=p;dsimp only[BD.put]
  split
  ·rename_i e;clear ih;subst e;simp
  ·rename_i e
   exact aaE cL<|aaE (show(x==k)=false from cR.mpr λh=>e h.symm)<|ih
theorem BD.put_other{N:BD}{x v y:By}(h:y≠x):(N.put x v).lookup y=N.lookup y:=by
 induction N with
 |nil=>simp[BD.put,h]
 |cons p N ih=>
  obtain⟨k,u⟩:=p;dsimp only[BD.put]
  split
  ·rename_i e;clear ih;subst e
   (exact aaE cL<|aaE cL<|aaE (show(y==k)=false from cR.mpr h) rfl)
  ·(exact aaE cL<|aaE cL<|aaE ih rfl)
section
variable {X:Cx} {σ:St} {Q:AV->St->Prop} (hX:Base4 X)
include hX
theorem Ho(F:NmF σ f d N)(hz:N.length<60000)(h:Q (.bytes (fm N x)) (σ.set d (.dict (d6 N x))))(h0:N.lookup x≠none->Q (.bytes (fm N x)) σ):CallOk X 3 (.ref f) [.bytes x] σ Q:=by
 refine az λkk=>?_;obtain⟨⟨o,c,co,cc,oc,code,pm,ct,doc,vs,t,e1,e2,e3,e4,e5,e6,e7,e8⟩,hd,d1⟩:=F;subst e5;refine kk<|QZ (hco:=by rfl) (hgen:=by rfl) (hk:=by rfl) hX.lim (aE o e1 e2) (lU cc oc vs t rfl e6 e7 e8) rfl (λy c' hl=>?_) (by simp[zv]) "octets" (λv=>rfl) rfl (show ∀y∈(qW iP).names,y.2≠.cell from by decide) λA L hA=>?_
 ·have:y=("names":Str)/\c'=c:=by
   simp only[zv,cL,List.lookup_nil]at hl
   split at hl
   ·rename_i e;exact⟨by simpa using e,by(refine aaE (bq hl) ?_);rfl⟩
   ·exact be hl
  (refine aaE this.2<|aaE e3 ?_);simp
 refine aw<|bp<|aT<|af (.bytes x)<|vD (hd:=by decide) (hcd:=by decide) (c:=c) rfl rfl e3 e4<|Fm hd d1 (kt ?_)
 cases hl:N.lookup x with
 |some b=>
  have hh:fm N x=b:=by unfold fm d6;refine aaE hl ?_;simp[hl]
  refine bw (aw<|cD<|bz<|vD (hd:=by decide) (hcd:=by decide) (c:=c) rfl rfl e3 e4<|af (.bytes x)<|fw hd hl ?_);exact aaE (aq hh)<|h0 (by refine aaE hl ?_;simp)
 |none=>
  have hn:d6 N x=N.put x (iq (N.length+1)):=by unfold d6;exact aaE hl rfl
  have eU:(d6 N x).lookup x=some (iq (N.length+1)):=by exact aaE hn<|BD.put_get
  have hh:fm N x=iq (N.length+1):=by unfold fm;refine aaE eU ?_;rfl
  have oB:d≠c:=λe=>by rw[e,e3]at hd;cases hd
  have Ag:(σ.set d (.dict (d6 N x))) c=some (.obj co):=by unfold St.set;exact aaE (ar λe=>oB e.symm)<|e3
  refine aw<|bE<|fT (bK<|aV<|eg hX.g_len<|ak<|vD (hd:=by decide) (hcd:=by decide) (c:=c) rfl rfl e3 e4<|aD ⟨trivial,Bq hd d1 (JB hz)<|aY<|mK<|Nv<|ak<|aY<|ak<|s6<|aD ⟨trivial,?_⟩⟩) (by rfl);refine aaE (show(((N.length:Nat):Int)+1)=((N.length+1:Nat):Int)from by push_cast;rfl) ?_;refine Nu (dw hz (lb rfl))<|sx<|(vD (hd:=by decide) (hcd:=by decide) (c:=c) rfl rfl e3 e4 ⟨rfl,af (.bytes x) (vL rfl N hd (JB hz) ?_)⟩);refine aaE (aq hn)<|bw (aw<|cD<|bz<|vD (hd:=by decide) (hcd:=by decide) (c:=c) rfl rfl Ag e4<|af (.bytes x)<|fw (l:=d6 N x) (by unfold St.set;exact aaE (aA rfl) rfl) eU ?_);exact aaE (aq hh)<|h
end
end
section
open PySem.W.X
theorem Qk(n:Nat):(iq n).length=32:=by unfold iq;simp
theorem vt(n i:Nat)(h:i<32):(iq n).reverse[i]?=some ((n / 256 ^ i % 256).toUInt8):=by
 unfold iq;(refine aaE (List.reverse_reverse ..)<|aaE (kL) ?_;refine aaE (List.getElem?_range h) ?_);rfl
theorem Ql(ha:a<65536)(hb:b<65536)(h:iq a=iq b):a=b:=by
 have h0:=vt a 0 (by decide);have h1:=vt a 1 (by decide);rw[h,vt b 0 (by decide)]at h0;rw[h,vt b 1 (by decide)]at h1
 have tn:∀n:Nat,(n % 256).toUInt8.toNat=n % 256:=λn=>by
  exact aaE AO<|Nat.mod_mod _ 256
 have e0:=bF UInt8.toNat (bq h0);have e1:=bF UInt8.toNat (bq h1);rw[tn,tn]at e0 e1;simp only[Nat.pow_zero,Nat.div_one,Nat.pow_one]at e0 e1;exact Up ha hb e0 e1
theorem OK(h:n<65536):iq n≠blank:=λe=>by
 have h0:=vt n 31 (aI rfl);rw[e]at h0;have:(n / 256 ^ 31 % 256)=0:=by exact aaE (Nat.div_eq_of_lt (bT (uS h (by decide:65536<65537)) (aI rfl))) rfl
 rw[this]at h0;exact absurd h0 (aI rfl)
structure NmW(N:BD):Prop where
 nd:(N.map (·.1)).Nodup
 vals:∀(i:Nat) k h,N[i]?=some (k,h)->h=iq (i+1)
 sz:N.length<=60000
theorem jD:∀{N:BD},N.lookup k=some h->(k,h)∈N
 |[],e=>by cases e
 |(a,b)::N,e=>by
  rw[cL]at e
  by_cases q:k=a
  ·subst q
   simp at e;exact aaE e<|cV
  ·rw[show(k==a)=false from cR.mpr q]at e
   exact cj _ (jD e)
theorem xZ{N:BD}{k h:By}(e:N.lookup k=some h):∃i:Nat,N[i]?=some (k,h):=by
 have:=jD e;obtain⟨i,hi,e⟩:=List.mem_iff_getElem.mp this;exact⟨i,by(refine aaE (hZ hi) ?_;exact aaE e rfl)⟩
theorem Cf{N:BD}{i:Nat}{x}(e:N[i]?=some x):i<N.length:=by
 rcases uR i N.length with h|h
 ·exact h
 ·rw[Az h]at e;exact be e
theorem NmW.ok{N:BD}(W:NmW N):NmOk N where
 len k h e:=by
  obtain⟨i,e⟩:=xZ e;exact aaE (W.vals _ _ _ e)<|Qk _
 blank k h e:=by
  obtain⟨i,e⟩:=xZ e;exact aaE (W.vals _ _ _ e)<|OK (dw (ae (Cf e) W.sz) (lb rfl))
 inj k k' h e e':=by
  obtain⟨i,e⟩:=xZ e;obtain⟨j,e'⟩:=xZ e';have q:=Ql (dw (ae (Cf e) W.sz) (lb rfl)) (dw (ae (Cf e') W.sz) (lb rfl)) ((W.vals _ _ _ e).symm.trans (W.vals _ _ _ e'));have q:=i8 q;subst q;rw[e]at e';cases e';rfl
theorem G8:∀{N:BD},N.lookup x=none->N.put x v=N++[(x,v)]
 |[],_=>rfl
 |(k,u)::N,h=>by
  rw[cL]at h
  by_cases e:x=k
  ·subst e;simp at h
  ·rw[show(x==k)=false from cR.mpr e]at h
   dsimp only[BD.put]
   (refine aaE (ar λq=>e q.symm)<|aaE (G8 h) ?_);rfl
theorem uz:∀{N:BD},N.lookup x=none->x ∉ N.map (·.1)
 |[],_=>by simp
 |(k,u)::N,h=>by
  rw[cL]at h
  by_cases e:x=k
  ·subst e;simp at h
  ·rw[show(x==k)=false from cR.mpr e]at h
   (refine aaE eB<|aaE (propext dm) ?_)
   rintro(q|q)
   ·exact e q
   ·exact uz h q
theorem sA:∀(N:BD),(N.put x v).length<=N.length+1
 |[]=>bC _
 |(k,u)::N=>by
  dsimp only[BD.put]
  split
  ·simp
  ·simp only[cW];have:=sA (x:=x) (v:=v) N;exact fF this
theorem NmW.nil:NmW []:=⟨by simp,by simp,by simp⟩
theorem NmW.add(W:NmW N)(x:By)(hz:N.length<60000):NmW (d6 N x)/\BD.Sub N (d6 N x)/\(d6 N x).lookup x=some (fm N x)/\(d6 N x).length<=N.length+1/\N.length<=(d6 N x).length:=by
 cases hl:N.lookup x with
 |some b=>
  have e:d6 N x=N:=by unfold d6;exact aaE hl rfl
  refine⟨by exact aaE e<|W,by exact aaE e<|.refl N,?_,by exact aaE e<|(gV _),by exact aaE e<|UG hz⟩;unfold fm;(refine aaE e<|aaE hl ?_);rfl
 |none=>
  have e:d6 N x=N++[(x,iq (N.length+1))]:=by unfold d6;exact aaE hl<|G8 hl
  refine⟨⟨?_,λi k h q=>?_,by refine aaE e ?_;simp;exact xt hz⟩,λk v q=>?_,?_,by refine aaE e ?_;simp,by refine aaE e ?_;simp⟩
  ·(refine aaE e<|aaE qC<|aaE (propext AW) ?_)
   refine⟨W.nd,by simp,λa ha b hb=>?_⟩;simp at hb;clear e;refine aaE hb ?_;exact λq=>uz hl (q▸ha)
  ·rw[e]at q
   rcases uR i N.length with h'|h'
   ·rw[List.getElem?_append_left h']at q;exact W.vals _ _ _ q
   ·rw[List.getElem?_append_right h']at q
    have:i=N.length:=by
     rcases Nat.eq_or_lt_of_le h' with q'|q'
     ·exact q'.symm
     ·rw[Az (by simp;exact UP q')]at q;exact be q
    clear h';subst this;simp at q;exact q.2.symm
  ·refine aaE (show d6 N x=N.put x (iq (N.length+1))from by unfold d6;rw[hl]) ?_;refine aaE (BD.put_other λq'=>by clear e;subst q';rw[hl]at q;cases q) ?_
   exact q
  ·have:(d6 N x).lookup x=some (iq (N.length+1)):=by
    refine aaE (show d6 N x=N.put x (iq (N.length+1))from by unfold d6;rw[hl]) ?_;exact BD.put_get
   unfold fm;refine aaE this ?_;rfl
structure SOk(N D:BD):Prop where
 W:NmW N
 d:nE N D
theorem SOk.save(S:SOk N D)(x:By)(hz:N.length<60000):SOk (d6 N x) (D.put (fm N x) x)/\BD.Sub D (D.put (fm N x) x):=by
 refine pk (S.W.add x hz) λw sub g l1 l2=>?_;refine⟨⟨w,λh y q=>?_⟩,λh y q=>?_⟩
 ·by_cases e:h=fm N x
  ·subst e
   rw[BD.put_get]at q;(refine aaE (aq (bq q)) ?_);exact g
  ·rw[BD.put_other e]at q;exact sub _ _ (S.d _ _ q)
 ·by_cases e:h=fm N x
  ·subst e
   refine aaE BD.put_get ?_;have:=sub _ _ (S.d _ _ q);exact aaE (w.ok.inj _ _ _ this g) rfl
  ·exact aaE (BD.put_other e)<|q
theorem G9{N D:BD}{x:By}:(D.put (fm N x) x).lookup (fm N x)=some x:=BD.put_get
noncomputable def cY(i:Nat):Stmt:=((Vm (bD 46))[i]?).getD (.Pass default)
def FnM(X:Cx)(a i:Nat)(qual:Str)(dflt:Value):Prop:=∃code pm,FnAt X a (ip (cY i) qual code pm dflt) (fz (cY i))
def Yv(X:Cx)(a i:Nat)(qual:Str):Prop:=∃T o v n,FnM X a i qual (.ref T)/\X.B T=some o/\o.data=.seq #[v] n
def FnF(X:Cx)(a i:Nat)(qual:Str):Prop:=∃T o n,FnM X a i qual (.ref T)/\X.B T=some o/\o.data=.seq #[.bool false] n
structure Base5(X:Cx):Prop extends Base4 X where
 m_init:Yv X 292 0 "BinaryTrie.__init__"
 m_get:FnM X 299 1 "BinaryTrie.get" .none
 m__get:FnM X 306 2 "BinaryTrie._get" .none
 m_set:FnM X 313 3 "BinaryTrie.set" .none
 m__set:FnF X 321 4 "BinaryTrie._set"
 m_kv:FnF X 329 5 "BinaryTrie._set_kv_node"
 m_br:FnF X 337 6 "BinaryTrie._set_branch_node"
 m_exists:FnM X 344 7 "BinaryTrie.exists" .none
 m_delete:FnM X 351 8 "BinaryTrie.delete" .none
 m_has:FnM X 373 11 "BinaryTrie._hash_and_save" .none
theorem vb{X:Cx}{fd:FuncData}{l l':List AV}{σ:St}{T:Addr}{o:Obj}{items:Array Value}{n:Nat}(xs:List Str)(hd:fd.defaults=.ref T)(ho:X.B T=some o)(hs:o.data=.seq items n)
  (h:∀vs:List Value,vs.length=l.length->∃(k:Option (Array Value)->Sem (List (Str×Value))) (dz:List Value),bindArgs fd ⟨vs,[]⟩=seqItems? fd.defaults>>= k/\k (some items)=pure (xs.zip dz)/\∀g,RepL g l vs->RepL g l' dz):
  ∀g s vs,Sat X g σ s->RepL g l vs->∃dz,RepL g l' dz/\BindsTo s fd ⟨vs,[]⟩ (xs.zip dz):=λg s vs S r=>by
 refine az λkk=>?_;refine cP (h vs r.length) λk dz h1 h2 h3=>?_;exact kk<|(aE dz (h3 g r) (BindsTo.of_defaults hd (S.in_ _ _ (S.le _ _ ho)) hs h1 h2))
structure Tri(z:Nat)(σ:St)(a dx f d db:Addr)(r:By)(N D:BD):Prop where
 i:∃l,Inst σ a dx l/\l.length<=z/\l.lookup ("db":Str)=some (.ref db)/\l.lookup ("hash_of":Str)=some (.ref f)/\l.lookup ("root_hash":Str)=some (.bytes r)/\∀p∈eY,l.lookup p.1=none
 nm:NmF σ f d N
 dbt:σ db=some (.dict D)
 db1:db≠1
 ne:db≠d
def Only(σ ab:St)(L:List Addr):Prop:=∀b,b ∉ L->ab b=σ b
theorem Only.refl{L}:Only σ σ L:=λx x=>rfl
theorem Only.trans{L}(x:Only σ ab L)(y:Only ab nz L):Only σ nz L:=λb h=>(y b h).trans (x b h)
theorem Only.at(h:Only σ ab [d,db])(hd:σ d=some (.dict N))(hb:σ db=some (.dict D))(hx:σ x=some t)(ht:∀l,t≠.dict l):ab x=some t:=by
 rw[h x ?_,hx];simp only[dm,mG,mR];rintro(rfl|rfl)
 ·rw[hd]at hx;obtain rfl:=bq hx;exact ht _ rfl
 ·rw[hb]at hx;obtain rfl:=bq hx;exact ht _ rfl
theorem NmF.upd(F:NmF σ f d N)(hb:σ db=some (.dict D))(h:Only σ ab [d,db])(h':ab d=some (.dict N')):NmF ab f d N':=by
 refine az λkk=>?_;obtain⟨⟨o,c,co,cc,oc,code,pm,ct,doc,vs,t,e1,e2,e3,e4,e5,e6,e7,e8⟩,hd,d1⟩:=F;exact kk<|⟨⟨o,c,co,cc,oc,code,pm,ct,doc,vs,t,h.at hd hb e1 (λx q=>by cases q),e2,h.at hd hb e3 (λx q=>by cases q),e4,e5,h.at hd hb e6 (λx q=>by cases q),e7,e8⟩,h',d1⟩
theorem Tri.upd(T:Tri z σ a dx f d db r N D)(h:Only σ ab [d,db])(h1:ab d=some (.dict N'))(h2:ab db=some (.dict D')):Tri z ab a dx f d db r N' D':=by
 refine az λkk=>?_;obtain⟨⟨l,I,i1,i2,i3,i4,i5⟩,nm,dbt,db1,ne⟩:=T;exact kk<|⟨(vm l ⟨h.at nm.dict dbt I.obj (λx q=>by cases q),h.at nm.dict dbt I.ns (λx q=>by cases q)⟩ i1 i2 i3 i4 i5),nm.upd dbt h h1,h2,db1,ne⟩
theorem NmF.keep(F:NmF σ f d N):cQ X σ (.ref f):=by
 refine az λkk=>?_;obtain⟨⟨o,c,co,cc,oc,code,pm,ct,doc,vs,t,e1,e2,_⟩,_⟩:=F;exact kk<|.inl (ey o _ (.inr e1) e2)
theorem FnM.keep(F:FnM X a i q dv):cQ X σ (.ref a):=by
 refine bk F λx x F=>?_;exact F.keep
theorem FnF.keep(F:FnF X a i q):cQ X σ (.ref a):=by
 refine mU F λx x x F x=>?_;exact FnM.keep F
theorem Ha(r:Rep g (.ref a) v):handedIn v=true:=by refine aaE r ?_;rfl
theorem Gg(r:Rep g (.bytes b) v):handedIn v=true:=by obtain⟨t,rfl⟩:=r;rfl
section
variable {X:Cx} {A:Around} {E:Value->Shared->Prop} {P:Pv} {env:Env} {m:Mp} {σ:St} {Q:AV->St->Prop} {z:Nat} {a dx f d db:Addr} {r:By} {N D:BD} (hX:Base5 X)
include hX
theorem iL(T:Tri z σ a dx f d db r N D)(hm:m "self"=some (.ref a))(h:Q (.ref db) σ):Ev X A E env m (.Attribute (.Name "self" p1) "db" p2) σ Q:=by
 refine az λkk=>?_;refine sO T.i λl I i1 i2 i3 i4 i5=>?_;exact kk<|yF (hd:=by rfl) (hc:=by rfl) hX.toBase4 I hm (by simp[atts]) i2 (λx x r=>Ha r) h
theorem OL(T:Tri z σ a dx f d db r N D)(hm:m "self"=some (.ref a))(h:Q (.ref f) σ):Ev X A E env m (.Attribute (.Name "self" p1) "hash_of" p2) σ Q:=by
 refine az λkk=>?_;refine sO T.i λl I i1 i2 i3 i4 i5=>?_;exact kk<|yF (hd:=by rfl) (hc:=by rfl) hX.toBase4 I hm (by simp[atts]) i3 (λx x r=>Ha r) h
theorem x6(T:Tri z σ a dx f d db r N D)(hm:m "self"=some (.ref a))(h:Q (.bytes r) σ):Ev X A E env m (.Attribute (.Name "self" p1) "root_hash" p2) σ Q:=by
 refine az λkk=>?_;refine sO T.i λl I i1 i2 i3 i4 i5=>?_;exact kk<|yF (hd:=by rfl) (hc:=by rfl) hX.toBase4 I hm (by simp[atts]) i4 (λx x r=>Gg r) h
theorem f6(T:Tri z σ a dx f d db r N D)(hn:(name,g)∈eY)(h:Q (.ref g) σ):pz X A E name (.ref a) σ Q:=by
 refine az λkk=>?_;refine sO T.i λl I i1 i2 i3 i4 i5=>?_;exact kk<|Vn hX.toBase4 I hn (i5 _ hn) h
theorem RQ(T:Tri z σ a dx f d db r N D)(hx:c=0∨c=1∨c=2)(hz:x.length<=4096)(hN:N.length<60000)(hD:D.length<=65536)
  (h:∀ab,Only σ ab [d,db]->Tri z ab a dx f d db r (d6 N (c::x)) (D.put (fm N (c::x)) (c::x))->Q (.bytes (fm N (c::x))) ab):CallOk X 4 (.ref 373) [.ref a,.bytes (c::x)] σ Q:=by
 refine bk hX.m_has λcode pm F=>?_;refine dQ F ["self","node"] (c7 ["self","node"] λvs hv=>?_) rfl λA L hA=>?_
 ·(apply gG hv;intro v w;rfl)
 have kv:cQ X σ (.ref 214):=by refine bk hX.f_vbn λy y F'=>?_;exact F'.keep
 have fin:∀ay,Only σ ay [d,db]->ay d=some (.dict (d6 N (c::x)))->ay db=some (.dict D)->
   Exs X A aC (bg L (callEnvC (ip (cY 11) "BinaryTrie._hash_and_save" code pm .none) L 373)) (callEnvC (ip (cY 11) "BinaryTrie._hash_and_save" code pm .none) L 373) (((g8 ["self","node"] [.ref a,.bytes (c::x)] Mp.nil).upd "keccak" (.ref f)).upd "node_hash" (.bytes (fm N (c::x)))) ((fz (cY 11)).drop 3) ay ((jR Q)):=λay o1 e1 e2=>by
  have T1:=T.upd o1 e1 e2;refine aw<|bE<|af (.bytes (c::x))<|sx<|iL hX T1 rfl ⟨rfl,aP (V:=.bytes (fm N (c::x))) rfl (vL rfl D e2 hD ?_)⟩;refine aw<|cD<|aP (V:=.bytes (fm N (c::x))) rfl<|?_;refine h _ ?_ (T1.upd ?_ ?_ ?_)
  ·intro b hb
   simp only[dm,mG,mR,not_or]at hb;unfold St.set;refine aaE (ar hb.2) ?_;exact o1 b (by simp[hb.1,hb.2])
  ·intro b hb
   simp only[dm,mG,mR,not_or]at hb;unfold St.set;exact aaE (ar hb.2) rfl
  ·unfold St.set;exact aaE (ar λe=>T.ne e.symm)<|e1
  ·unfold St.set;exact aaE (aA rfl) rfl
 refine aw<|gD<|aV<|eg hX.g_vbn<|ak<|af (.bytes (c::x))<|aD ⟨kv,bc (RI hX.toBase hz hx ?_) (hA.mono (by decide))⟩;refine aw<|bE<|OL hX T rfl<|aQ<|aw<|bE<|aV<|af (.ref f)<|ak<|af (.bytes (c::x))<|aD ⟨T.nm.keep,bc (Ho hX.toBase4 T.nm hN ?_ λhl=>?_) (hA.mono (by decide))⟩
 ·refine aQ<|fin _ (λb hb=>?_) (by unfold St.set;exact aaE (aA rfl) rfl) (by unfold St.set;exact aaE (ar T.ne)<|T.dbt)
  simp only[dm,mG,mR,not_or]at hb;unfold St.set;exact aaE (ar hb.1) rfl
 ·refine aQ<|fin _ .refl ?_ T.dbt
  have e:d6 N (c::x)=N:=by
   unfold d6
   cases hh:N.lookup (c::x)with
   |none=>exact absurd hh hl
   |some _=>rfl
  exact aaE e<|T.nm.dict
end
noncomputable def dq(N D:BD):T->By->Option (Option By)
 |.leaf v,p=>if (D.lookup (nm N (.leaf v))).isSome then some (if p=[]then some v else none)else none
 |.kv b t,p=>if (D.lookup (nm N (.kv b t))).isSome then (if p=[]then some none else if p.take b.length=b then dq N D t (p.drop b.length)else some none)else none
 |.br l r,p=>if (D.lookup (nm N (.br l r))).isSome then (if p=[]then some none else if p.take 1=[0]then dq N D l (p.drop 1)else dq N D r (p.drop 1))else none
noncomputable def fW:Option By->AV|some b=>.bytes b|none=>.none
theorem vU(hN:NmOk N)(hD:nE N D)(hn:Named N t h)(hs:(D.lookup (nm N t)).isSome=true):D.lookup h=some (tx N t):=by
 rw[hn.nm]at hs;obtain⟨x,e⟩:=Ax.mp hs
 (exact aaE e<|aaE (hN.inj _ _ _ (hD _ _ e) hn.ltx) rfl)
theorem BF(h:dq N D t p=some o):(D.lookup (nm N t)).isSome=true:=by
 cases t<;>(dsimp only[dq]at h;split at h<;>first|assumption|exact be h)
section
variable {X:Cx} {A:Around} {E:Value->Shared->Prop} {env:Env} {m:Mp} {σ:St} {Q:AV->St->Prop}
theorem B8(hX:Base X)(hm:m x=some (.bytes p))(Er:m y=some (.bytes b))(rR:p.length<=65536)(hz:b.length<=65536)(hk:env.kindOf "len"=some .globalImplicit)(hg:env.globals=mainGlobals)(hb:env.builtins=builtinsNs)(h:Q (.bytes (p.drop b.length)) σ)
  (hd:(x==("__debug__":Str))=false)(hc:(x==("__classdict__":Str))=false)(cZ:(y==("__debug__":Str))=false:=by rfl)(dA:(y==("__classdict__":Str))=false:=by rfl):
  Ev X A E env m (.Subscript (.Name x p1) (.Slice (some (.Call (.Name "len" p2) [.Name y p3] [] p4)) none none p5) p6) σ Q:=by
 refine bz<|aP (hd:=hd) (hc:=hc) hm<|ee (lower:=some _) (upper:=none)<|mY hX (hd:=cZ) (hc:=dA) Er (by exact kA hz) hk hg hb (ki (fG (by exact kA rR) ?_));exact aaE (iK ..)<|h
theorem vE(hX:Base X)(hm:m x=some (.bytes p))(Er:m y=some (.bytes b))(rR:p.length<=65536)(hz:b.length<=65536)(hk:env.kindOf "len"=some .globalImplicit)(hg:env.globals=mainGlobals)(hb:env.builtins=builtinsNs)(h:Q (.bytes (p.take b.length)) σ)
  (hd:(x==("__debug__":Str))=false)(hc:(x==("__classdict__":Str))=false)(cZ:(y==("__debug__":Str))=false:=by rfl)(dA:(y==("__classdict__":Str))=false:=by rfl):
  Ev X A E env m (.Subscript (.Name x p1) (.Slice none (some (.Call (.Name "len" p2) [.Name y p3] [] p4)) none p5) p6) σ Q:=by
 refine bz<|aP (hd:=hd) (hc:=hc) hm<|ee (lower:=none) (upper:=some _)<|mY hX (hd:=cZ) (hc:=dA) Er (by exact kA hz) hk hg hb (ki (fG (by exact kA rR) ?_));exact aaE (mJ ..)<|h
theorem sR(hm:m x=some (.bytes p))(rR:p.length<=65536)(h:Q (.bytes (p.drop 1)) σ)
  (hd:(x==("__debug__":Str))=false)(hc:(x==("__classdict__":Str))=false):
  Ev X A E env m (.Subscript (.Name x p1) (.Slice (some (.Constant (.int 1) k1 p7)) none none p5) p6) σ Q:=by
 refine bz<|aP (hd:=hd) (hc:=hc) hm<|ee (lower:=some _) (upper:=none)<|aY (ki (fG (by exact kA rR) ?_));have:=iK (l:=p) 1;rw[show((1:Nat):Int)=1 from rfl]at this;exact aaE this<|h
theorem vu(hm:m x=some (.bytes p))(rR:p.length<=65536)(h:Q (.bytes (p.take 1)) σ)
  (hd:(x==("__debug__":Str))=false)(hc:(x==("__classdict__":Str))=false):
  Ev X A E env m (.Subscript (.Name x p1) (.Slice none (some (.Constant (.int 1) k1 p7)) none p5) p6) σ Q:=by
 refine bz<|aP (hd:=hd) (hc:=hc) hm<|ee (lower:=none) (upper:=some _)<|aY (ki (fG (by exact kA rR) ?_));have:=mJ (l:=p) 1;rw[show((1:Nat):Int)=1 from rfl]at this;exact aaE this<|h
theorem jA(hX:Base X):cQ X σ (.ref 228):=by refine bk hX.f_parse λx x F'=>?_;exact F'.keep
end
section
variable {X:Cx} {σ:St} {z:Nat} {a dx f d db:Addr} {r:By} {N D:BD} (hX:Base5 X)
include hX
theorem yG(T0:Tri z σ a dx f d db r N D)(hN:NmOk N)(hD:nE N D):∀{t:T} {n:Nat} {h p:By} {o:Option By} {Q:AP},WF n t->n<=64->fA t->p.length<=n->Named N t h->dq N D t p=some o->Q (fW o) σ->CallOk X (20+n) (.ref 306) [.ref a,.bytes h,.bytes p] σ Q
 |.leaf v,n,h,p,o,Q,hw,hn,hs,hp,hh,hg,hq=>by
  have gj:=vU hN hD hh (BF hg);have dk:=cR.mpr (hN.blank _ _ hh.ltx);have hv:=hs;refine bk hX.m__get λcode pm F=>?_;refine CallOk.deep (dQ (k:=17+2) F ["self","node_hash","keypath"] (c7 ["self","node_hash","keypath"] λvs hv=>?_) rfl λA L hA=>?_) (by exact bB 20 _)
  ·(apply ko hv;intro v w u;rfl)
  refine aw<|bp<|aT<|af (.bytes h)<|eg hX.g_BLANK<|dU ⟨_,rfl,?_⟩;refine bQ dk<|bw<|aw<|bE<|aV<|eg hX.g_parse<|ak<|bz<|iL hX T0 rfl<|af (.bytes h)<|fw T0.dbt gj<|aD ⟨jA hX.toBase,bc (so hX.toBase (by exact ly hv) hw.2 ?_) hA.mo⟩;refine eR hA.handled rfl rfl<|bG<|aQ<|bG<|aQ<|bG<|aQ<|eS<|aw<|bp<|aT<|af (.int 2)<|eg hX.g_LEAF<|cu ⟨_,rfl,?_⟩;refine aw<|bp<|gp (af (.bytes p)<|jv (by exact jQ hn hp) ?_) (by rfl);dsimp only[dq]at hg;rw[aA (by(refine aaE hh.nm<|aaE gj ?_);rfl)]at hg
  clear hp;cases p with
  |nil=>
   rw[aA rfl]at hg;obtain rfl:=bq hg;exact bw<|aw<|cD<|af (.bytes v) hq
  |cons c p=>
   rw[ar (by simp)]at hg;obtain rfl:=bq hg;exact aw<|cD<|jd hq
 |.kv b t,n,h,p,o,Q,hw,hn,hs,hp,hh,hg,hq=>by
  have gj:=vU hN hD hh (BF hg);have dk:=cR.mpr (hN.blank _ _ hh.ltx);refine ax (id hh) λh' rS hl=>?_;have etx:tx N (.kv b t)=bX b h':=by show bX b (nm N t)=_;exact aaE rS.nm rfl
  rw[etx]at gj;refine eE (id hw) λhb cz hk n' en iw=>?_;have kD:1<=b.length:=by clear hw hs hh hg gj hl etx cz en;cases b with|nil=>exact absurd rfl hb|cons _ _=>simp
  refine bk hX.m__get λcode pm F=>?_;refine CallOk.deep (dQ (k:=19+n) F ["self","node_hash","keypath"] (c7 ["self","node_hash","keypath"] λvs hv=>?_) rfl λA L hA=>?_) (by exact Jv)
  ·(apply ko hv;intro v w u;rfl)
  refine aw<|bp<|aT<|af (.bytes h)<|eg hX.g_BLANK<|dU ⟨_,rfl,?_⟩;refine bQ dk<|bw<|aw<|bE<|aV<|eg hX.g_parse<|ak<|bz<|iL hX T0 rfl<|af (.bytes h)<|fw T0.dbt gj<|aD ⟨jA hX.toBase,bc (qH hX.toBase (by exact ze hn en) cz (hN.len _ _ rS.ltx) ?_) hA.mo⟩;refine eR hA.handled rfl rfl<|bG<|aQ<|bG<|aQ<|bG<|aQ<|eS<|aw<|bp<|aT<|af (.int 0)<|eg hX.g_LEAF<|cu ⟨_,rfl,?_⟩;refine aw<|bp<|aT<|af (.int 0)<|eg hX.g_KV<|cu ⟨_,rfl,?_⟩;refine aw<|bp<|lY<|gp (af (.bytes p)<|jv (by exact jQ hn hp) ?_) (by rfl);dsimp only[dq]at hg;rw[aA (by(refine aaE hh.nm<|aaE gj ?_);rfl)]at hg
  cases f7:p with
  |nil=>
   clear hp;subst f7;rw[aA rfl]at hg;obtain rfl:=bq hg;exact aw<|cD<|jd hq
  |cons c p1=>
   rw[ar (by refine aaE f7 ?_;simp)]at hg;refine aaE (aq f7)<|bQ (c:=(!!p.isEmpty)) (by refine aaE f7 ?_;rfl) ?_;refine bw<|aw<|bp<|aT<|vE (hd:=by rfl) (hc:=by rfl) hX.toBase (p:=p) (b:=b) rfl rfl (by exact nC hn hp) (by exact zd hn en) rfl rfl rfl<|af (.bytes b)<|dU ⟨_,rfl,?_⟩
   by_cases hc:p.take b.length=b
   ·refine dR (c:=(List.take b.length p==b)) (cM.mpr hc) ?_
    rw[aA hc]at hg;refine aw<|cD<|fT (af (.ref a)<|f6 hX T0 (by simp[eY])<|ak<|af (.bytes h')<|ak<|B8 (hd:=by rfl) (hc:=by rfl) hX.toBase (p:=p) (b:=b) rfl rfl (by exact nC hn hp) (by exact zd hn en) rfl rfl rfl<|aD ⟨hX.m__get.keep,bc (yG T0 hN hD iw (by exact wj hn en) hs (by exact aaE dE<|C5 hp en) rS hg hq) hA.mo⟩) (by rfl)
   ·refine bQ (c:=(List.take b.length p==b)) (cR.mpr hc) ?_
    rw[ar hc]at hg;obtain rfl:=bq hg;exact aw<|cD<|jd hq
 |.br l rr,n,h,p,o,Q,hw,hn,hs,hp,hh,hg,hq=>by
  have gj:=vU hN hD hh (BF hg);have dk:=cR.mpr (hN.blank _ _ hh.ltx);refine cP (id hh) λhl hr kG kH Ei=>?_;have etx:tx N (.br l rr)=b9 hl hr:=by show b9 (nm N l) (nm N rr)=_;(exact aaE kG.nm<|aaE kH.nm rfl)
  rw[etx]at gj;refine dp (id hw) λn' en iI lE=>?_;refine bk hX.m__get λcode pm F=>?_;refine CallOk.deep (dQ (k:=19+n) F ["self","node_hash","keypath"] (c7 ["self","node_hash","keypath"] λvs hv=>?_) rfl λA L hA=>?_) (by exact Jv)
  ·(apply ko hv;intro v w u;rfl)
  refine aw<|bp<|aT<|af (.bytes h)<|eg hX.g_BLANK<|dU ⟨_,rfl,?_⟩;refine bQ dk<|bw<|aw<|bE<|aV<|eg hX.g_parse<|ak<|bz<|iL hX T0 rfl<|af (.bytes h)<|fw T0.dbt gj<|aD ⟨jA hX.toBase,bc (qI hX.toBase (hN.len _ _ kG.ltx) (hN.len _ _ kH.ltx) ?_) hA.mo⟩;refine eR hA.handled rfl rfl<|bG<|aQ<|bG<|aQ<|bG<|aQ<|eS<|aw<|bp<|aT<|af (.int 1)<|eg hX.g_LEAF<|cu ⟨_,rfl,?_⟩;refine aw<|bp<|aT<|af (.int 1)<|eg hX.g_KV<|cu ⟨_,rfl,?_⟩;refine aw<|bp<|aT<|af (.int 1)<|eg hX.g_BR<|cu ⟨_,rfl,?_⟩;refine aw<|bp<|lY<|gp (af (.bytes p)<|jv (by exact jQ hn hp) ?_) (by rfl);dsimp only[dq]at hg;rw[aA (by(refine aaE hh.nm<|aaE gj ?_);rfl)]at hg
  cases f7:p with
  |nil=>
   clear hp;subst f7;rw[aA rfl]at hg;obtain rfl:=bq hg;exact aw<|cD<|jd hq
  |cons c p1=>
   rw[ar (by refine aaE f7 ?_;simp)]at hg;refine aaE (aq f7)<|bQ (c:=(!!p.isEmpty)) (by refine aaE f7 ?_;rfl) ?_;refine bw<|aw<|bp<|aT<|vu (hd:=by rfl) (hc:=by rfl) (p:=p) rfl (by exact nC hn hp)<|eg hX.g_B0<|dU ⟨_,rfl,?_⟩
   by_cases hc:p.take 1=[0]
   ·refine dR (c:=(List.take 1 p==[0])) (cM.mpr hc) ?_
    rw[aA hc]at hg;refine aw<|cD<|fT (af (.ref a)<|f6 hX T0 (by simp[eY])<|ak<|af (.bytes hl)<|ak<|sR (hd:=by rfl) (hc:=by rfl) (p:=p) rfl (by exact nC hn hp)<|aD ⟨hX.m__get.keep,bc (yG T0 hN hD iI (by exact pT hn en) hs.1 (by exact aaE dE<|tF hp en) kG hg hq) hA.mo⟩) (by rfl)
   ·refine bQ (c:=(List.take 1 p==[0])) (cR.mpr hc) ?_
    rw[ar hc]at hg;refine aw<|cD<|fT (af (.ref a)<|f6 hX T0 (by simp[eY])<|ak<|af (.bytes hr)<|ak<|sR (hd:=by rfl) (hc:=by rfl) (p:=p) rfl (by exact nC hn hp)<|aD ⟨hX.m__get.keep,bc (yG T0 hN hD lE (by exact pT hn en) hs.2 (by exact aaE dE<|tF hp en) kH hg hq) hA.mo⟩) (by rfl)
theorem HE(T0:Tri z σ a dx f d db r N D)(hN:NmOk N)(hD:nE N D)(hw:WF n t)(hn:n<=64)(hs:fA t)(hp:8*x.length<=n)(hh:Named N t r)(hg:dq N D t (bu x)=some o)(hq:Q (fW o) σ):CallOk X (21+n) (.ref 299) [.ref a,.bytes x] σ Q:=by
 refine bk hX.m_get λcode pm F=>?_;have ke:cQ X σ (.ref 172):=by refine bk hX.f_etb λy y F'=>?_;exact F'.keep
 have kv:cQ X σ (.ref 200):=by refine bk hX.f_vib λy y F'=>?_;exact F'.keep
 have hl:(bu x).length=8*x.length:=by unfold bu;(exact aaE (dF ..)<|aaE (uV ..) rfl)
 refine CallOk.deep (dQ (k:=20+n) F ["self","key"] (c7 ["self","key"] λvs hv=>?_) rfl λA L hA=>?_) (by exact aK (fq 20 _ 1))
 ·(apply gG hv;intro v w;rfl)
 refine aw<|gD<|aV<|eg hX.g_vib<|ak<|af (.bytes x)<|aD ⟨kv,bc (kc hX.toBase ?_) hA.mo⟩;exact aw<|cD<|fT (af (.ref a)<|f6 hX T0 (by simp[eY])<|ak<|x6 hX T0 rfl<|ak<|aV<|eg hX.g_etb<|ak<|af (.bytes x)<|aD ⟨ke,bc (s7 hX.toBase (by exact Dn hn hp)<|aD ⟨hX.m__get.keep,bc (yG hX T0 hN hD hw hn hs (by exact Jd hp hl) hh hg hq) hA.mo⟩) hA.mo⟩) (by rfl)
end
def KA(n:Nat)(N D:BD)(t:T)(h q:By):Prop:=∀p',p'.length=n->ck p'->p'.take q.length=q->K N D t h p'
theorem KA.mono(x:KA n N D t h q)(s:BD.Sub N N')(d:BD.Sub D D'):KA n N' D' t h q:=λp' a b c=>(x p' a b c).mono s d
theorem mP{p q:By}(k:Nat)(h:p.take q.length=q):(p.drop k).take (q.drop k).length=q.drop k:=by
 (exact aaE dE<|aaE (aq List.drop_take)<|aaE h rfl)
theorem Hp{p q b p2:By}(hb:p.take b.length=b)(h:p.take q.length=q)(h2:p2.take (q.drop b.length).length=q.drop b.length):(b++p2).take q.length=q:=by
 rcases qF q.length b.length with l|l
 ·refine aaE (List.take_append_of_le_length l) ?_
  have:(p.take b.length).take q.length=b.take q.length:=by exact aaE hb rfl
  (exact aaE (aq this)<|aaE oR<|aaE (gS l)<|aaE h rfl)
 ·(refine aaE List.take_append<|aaE (qr l) ?_)
  rw[dE]at h2;refine aaE h2 ?_;have:(p.take q.length).take b.length=q.take b.length:=by exact aaE h rfl
  rw[oR,gS l,hb]at this;rw (occs:=.pos [1]) [this];exact i0 _ _
theorem kR(h:ck b)(k:Nat):ck (b.drop k):=λc hc=>h c (uw hc)
theorem yg(h:ck b)(k:Nat):ck (b.take k):=λc hc=>h c (E7 hc)
structure SPre(n:Nat)(N D:BD)(t:T)(h p v q:By):Prop where
 wf:WF n t
 n64:n<=64
 short:fA t
 len:p.length=n
 bits:ck p
 vz:v.length<=16
 ka:KA n N D t h q
 pre:p.take q.length=q
 oth:v=[]->q=[]∨∃p2,p2.length=n/\ck p2/\p2≠p/\p2.take q.length=q/\look t p2≠none
theorem SPre.k{n N D t h p v q}(S:SPre n N D t h p v q):K N D t h p:=S.ka p S.len S.bits S.pre
theorem SPre.some_{n N D t h p v q}(S:SPre n N D t h p v q)(hq:q≠[]):upd t p v≠none:=λe=>by
 have:=l5 S.wf S.len S.bits (v:=v);rw[e]at this;obtain⟨hv,mx⟩:=this;rcases S.oth hv with h|⟨p2,a,b,c,_,e⟩
 ·exact hq h
 ·exact e (mx p2 a b c)
theorem SPre.kv{n N D b t h p v q}(S:SPre n N D (.kv b t) h p v q)(hm:p.take b.length=b):
  ∃h' n',n=b.length+n'/\Named N t h'/\N.lookup (bX b h')=some h/\D.lookup h=some (bX b h')/\SPre n' N D t h' (p.drop b.length) v (q.drop b.length):=by
 refine az λkk=>?_;refine kX S.k λh' k1 k2 k3 k4=>?_;refine eE (id S.wf) λhb cz hk n' en iw=>?_;have bM:=S.n64;have hl:=S.len;refine kk<|(qP h' n' en k1 k2 k3 ⟨iw,by exact ae (ib _ _) (ae (aK en.symm) bM),S.short,by exact aaE dE<|wg en hl,kR S.bits _,S.vz,λp' a b' c=>?_,mP _ S.pre,λhv=>?_⟩)
 ·refine az λkk=>?_
  refine kX (S.ka (b++p') (by exact aaE cw<|Jq en a) (mO cz b') (Hp hm S.pre c)) λh2 j1 j2 j3 j4=>?_;have:=k1.fn j1;clear j1 j2 j3;subst this;have:=j4 (A8 rfl);refine kk ?_
  rwa [uG rfl]at this
 ·refine az λkk=>?_
  rcases S.oth hv with h0|⟨p2,a,b',c,d,e⟩
  ·refine kk ?_
   left;(exact aaE h0<|aaE List.drop_nil rfl)
  ·refine kk ?_
   right;refine az λkk=>?_;rw[ij]at e
   by_cases eP:p2.take b.length=b
   ·rw[aA eP]at e
    refine kk<|(vx (p2.drop b.length) (by exact aaE dE<|wg en a) (kR b' _) (λq'=>c ?_) (mP _ d) e)
    (exact aaE (aq (i0 b.length p2))<|aaE (aq (i0 b.length p))<|aaE hm<|aaE eP<|aaE q' rfl)
   ·refine kk ?_
    rw[ar eP]at e;exact absurd rfl e
theorem SPre.br{n N D l r h p v q}(S:SPre n N D (.br l r) h p v q):
  ∃hl hr n',n=n'+1/\Named N l hl/\Named N r hr/\N.lookup (b9 hl hr)=some h/\D.lookup h=some (b9 hl hr)/\
   (if p.take 1=[0]then SPre n' N D l hl (p.drop 1) v (q.drop 1)else SPre n' N D r hr (p.drop 1) v (q.drop 1))/\
   (∀p',p'.length=n->ck p'->p'.take q.length=q->if p'.take 1=[0]then K N D l hl (p'.drop 1)else K N D r hr (p'.drop 1)):=by
 refine az λkk=>?_;refine pf S.k λhl hr k1 k2 k3 k4 k5=>?_;refine dp (id S.wf) λn' en iI lE=>?_;have bM:=S.n64;have hlen:=S.len
 have all:∀p',p'.length=n->ck p'->p'.take q.length=q->if p'.take 1=[0]then K N D l hl (p'.drop 1)else K N D r hr (p'.drop 1):=λp' a b c=>by
  refine az λkk=>?_;refine pf (S.ka p' a b c) λeU Ee j1 j2 j3 j4 j5=>?_;have:=k1.fn j1;subst this;have:=k2.fn j2;subst this;exact kk<|j5
 refine kk<|⟨hl,hr,n',en,k1,k2,k3,k4,?_,all⟩
 obtain⟨x,p1,hp⟩:∃x p1,p=x::p1:=by
  cases p with
  |nil=>simp at hlen;exact z1 hlen en
  |cons x p1=>exact(cX x p1 rfl)
 have hx:p.take [x].length=[x]:=by refine aaE hp ?_;rfl
 have ext:∀p',p'.take (q.drop 1).length=q.drop 1->([x]++p').take q.length=q:=λp' c=>Hp hx S.pre c;have lk:∀(p2:By),look (.br l r) (x::p2)=if x=0 then look l p2 else look r p2:=λp2=>rfl
 have LB:v=[]->q.drop 1=[]∨∃p2:By,p2.length=n'/\ck p2/\p2≠p1/\p2.take (q.drop 1).length=q.drop 1/\look (.br l r) (x::p2)≠none:=λhv=>by
  refine az λkk=>?_;rcases S.oth hv with h0|⟨p2,a,b',c,d,e⟩
  ·refine kk ?_
   left;refine aaE h0 ?_;rfl
  ·refine kk ?_
   cases hq:q with
   |nil=>left;rfl
   |cons y q1=>
    right
    cases p2 with
    |nil=>simp at a;exact z1 a en
    |cons y2 p2=>
     have e1:=S.pre;rw[hq,hp]at e1;rw[hq]at d;simp only[cW,nN,nT]at e1 d;have:=d.1.trans e1.1.symm;clear hx ext lk kk e1;subst this;refine(vx p2 (by simp at a;exact nB en a) (λc hc=>b' c (cj _ hc)) (λq'=>c (by(exact aaE hp<|aaE q' rfl))) (by simpa using d.2) e)
 have bp1:ck p1:=λc hc=>S.bits c (by exact aaE hp<|cj _ hc);have bx:=S.bits x (by exact aaE hp<|cV);have Mm:p1.length=n':=by rw[hp]at hlen;simp at hlen;exact nB en hlen
 have pd:p.drop 1=p1:=by refine aaE hp ?_;rfl
 have pt:p.take 1=[x]:=by refine aaE hp ?_;rfl
 (refine aaE pd<|aaE pt ?_)
 split
 ·rename_i e;clear hp hx bx pt;cases e
  refine⟨iI,by exact Jf en bM,S.short.1,Mm,bp1,S.vz,λp' a b c=>?_,by have:=mP 1 S.pre;rwa [pd]at this,λhv=>?_⟩
  ·have:=all ([0]++p') (by simp;exact pU en a) (pa (.inl rfl) b) (ext p' c)
   rwa [aA (by rfl)]at this
  ·refine az λkk=>?_
   rcases LB hv with h0|⟨p2,a,b,c,d,e⟩
   ·exact kk<|.inl h0
   ·refine kk ?_
    rw[lk,aA rfl]at e;exact .inr (vx p2 a b c d e)
 ·rename_i e
  have ui:x≠0:=λq=>e (by exact aaE q rfl);refine⟨lE,by exact Jf en bM,S.short.2,Mm,bp1,S.vz,λp' a b c=>?_,by have:=mP 1 S.pre;rwa [pd]at this,λhv=>?_⟩
  ·have:=all ([x]++p') (by simp;exact pU en a) (pa bx b) (ext p' c)
   rwa [ar (by exact e)]at this
  ·refine az λkk=>?_
   rcases LB hv with h0|⟨p2,a,b,c,d,e⟩
   ·exact kk<|.inl h0
   ·refine kk ?_
    rw[lk,ar ui]at e;exact .inr (vx p2 a b c d e)
noncomputable def CA(N1 N2 D2:BD)(b h1 h2:By):T->Prop
 |.kv b1 t2=>∃h3,Named N1 t2 h3/\N2.lookup (bX (b++b1) h3)=some h2/\D2.lookup h2=some (bX (b++b1) h3)
 |_=>N2.lookup (bX b h1)=some h2/\D2.lookup h2=some (bX b h1)
theorem Bw(h:fA t):fA (mX b t):=by cases t<;>exact h
theorem sI:∀{t:T} {p v:By} {t':T},fA t->v.length<=16->upd t p v=some t'->fA t'
 |.leaf _,p,v,t',hs,hv,h=>by
  dsimp only[upd]at h;split at h
  ·exact be h
  ·obtain rfl:=bq h;exact hv
 |.kv b t,p,v,t',hs,hv,h=>by
  dsimp only[upd]at h;split at h
  ·cases hu:upd t (p.drop b.length) v with
   |none=>rw[hu]at h;cases h
   |some t1=>rw[hu]at h;obtain rfl:=bq h;exact Bw (sI (t:=t) hs hv hu)
  ·split at h
   ·obtain rfl:=bq h;exact hs
   ·obtain rfl:=bq h
    have Ah:fA (ku p v (cn b p)):=by unfold ku;split<;>exact hv
    have nI:fA (ji b t (cn b p)):=by unfold ji;split<;>exact hs
    have mv:fA (kr b t p v (cn b p)):=by
     unfold kr;split
     ·exact⟨nI,Ah⟩
     ·exact⟨Ah,nI⟩
    unfold mW;split<;>exact mv
 |.br l r,p,v,t',hs,hv,h=>by
  dsimp only[upd]at h;split at h
  ·split at h
   ·rename_i l' hu;obtain rfl:=bq h;exact⟨sI (t:=l) hs.1 hv hu,hs.2⟩
   ·obtain rfl:=bq h;exact Bw hs.2
  ·split at h
   ·rename_i l' hu;obtain rfl:=bq h;exact⟨hs.1,sI (t:=r) hs.2 hv hu⟩
   ·obtain rfl:=bq h;exact Bw hs.1
theorem Cg(s:BD.Sub N N')(d:BD.Sub D D')(hk:p'.take b.length=b->K N D t1 h1 (p'.drop b.length))
  (hn:Named N t1 h1)(hw:CA N N' D' b h1 h2 t1):
  K N' D' (mX b t1) h2 p':=by
 cases t1 with
 |kv b1 t2=>
  refine dp hw λh3 a1 a2 a3=>?_;refine(jG h3 (a1.mono s) a2 a3 (λe=>?_))
  have e1:p'.take b.length=b:=by
   have:=bF (List.take b.length) e;rw[oR,gS (by simp),A8 rfl]at this;exact this
  have e2:(p'.drop b.length).take b1.length=b1:=by
   have:=bF (List.drop b.length) e;rw[List.drop_take,uG rfl,cw,qq]at this;exact this
  refine kX (hk e1) λh4 k1 k2 k3 k4=>?_;have:=a1.fn k1;clear k1 k2 k3;refine aaE this ?_;have:=(k4 e2).mono s d
  rwa [kN,←cw]at this
 |leaf v=>exact(jG h1 (hn.mono s) hw.1 hw.2 (λe=>(hk e).mono s d))
 |br l r=>exact(jG h1 (hn.mono s) hw.1 hw.2 (λe=>(hk e).mono s d))
theorem Q0{N D:BD}{n:Nat}{b p v p':By}{t:T}{hv ho hs h2:By}(hb:ck b)(bP:p.length=n)(dC:ck p)(da:p'.length=n)(DL:ck p')(hc:cn b p<b.length)(oH:cn b p<p.length)
  (h1:∀jr,K N D (ku p v (cn b p)) hv jr)(Mn:p'.take (cn b p+1)=b.take (cn b p+1)->K N D (ji b t (cn b p)) ho (p'.drop (cn b p+1)))
  (uj:Named N (ji b t (cn b p)) ho)
  (nL:N.lookup (if (p.drop (cn b p)).take 1=[1]then b9 ho hv else b9 hv ho)=some hs)(uk:D.lookup hs=some (if (p.drop (cn b p)).take 1=[1]then b9 ho hv else b9 hv ho))
  (he:if cn b p=0 then h2=hs else N.lookup (bX (b.take (cn b p)) hs)=some h2/\D.lookup h2=some (bX (b.take (cn b p)) hs)):K N D (mW b t p v (cn b p)) h2 p':=by
 generalize jU:cn b p=c at *;have nj:=BP (a:=b) (b:=p) (by exact aaE jU<|hc) (by exact aaE jU<|oH);rw[jU]at nj;have Ai:=(h1 []).named
 have subN:Named N (kr b t p v c) hs:=by
  unfold kr
  split
  ·rename_i e;rw[aA e]at nL;exact(cy ho hv uj Ai nL)
  ·rename_i e;rw[ar e]at nL;exact(cy hv ho Ai uj nL)
 have one:∀(w:By) (i:Nat),i<w.length->(w.drop i).take 1=[w.getD i 0]/\w[i]?=some (w.getD i 0):=λw i hi=>by
  have e1:w[i]?=some (w.getD i 0):=by(refine aaE (hZ hi) ?_;refine aaE (lJ) ?_;refine aaE (hZ hi) ?_);rfl
  refine⟨?_,e1⟩
  (refine aaE (ET hi)<|aaE nN<|aaE List.take_zero<|aaE (lJ) ?_;refine aaE (hZ hi) ?_);rfl
 obtain⟨bo,Aj⟩:=one b c hc;obtain⟨po,Zx⟩:=one p c oH;obtain⟨qo,Es⟩:=one p' c (Jn bP da oH);rw[Aj,Zx]at nj;have memg:∀(w:By) (i:Nat),i<w.length->w.getD i 0∈w:=λw i hi=>E9 (one w i hi).2;have bb:=hb _ (memg b c hc);have pb:=dC _ (memg p c oH);have qb:=DL _ (memg p' c (Jn bP da oH))
 have full:p'.take c=b.take c->p'.getD c 0=b.getD c 0->p'.take (c+1)=b.take (c+1):=λe1 e2=>by
  first|((exact aaE qx<|aaE qx<|aaE e1<|aaE Es<|aaE Aj<|aaE e2 rfl);done)|(refine aq (qx)▸?_;refine aq (qx)▸?_;refine aq (e1)▸?_;refine aq (Es)▸?_;refine aq (Aj)▸?_;refine aq (e2)▸?_)|rw[qx,qx,e1,Es,Aj,e2]
 have subK:p'.take c=b.take c->K N D (kr b t p v c) hs (p'.drop c):=λe=>by
  unfold kr;rw[po]at nL uk ⊢
  split
  ·rename_i q
   rw[aA q]at nL uk;refine(qP ho hv uj Ai nL uk ?_)
   first|((refine aaE qo<|aaE kN ?_);done)|(refine aq (qo)▸?_;refine aq (kN)▸?_)|rw[qo,kN]
   split
   ·rename_i q2
    refine Mn (full e ?_);have e1:p'.getD c 0=0:=by simpa using q2
    have e2:p.getD c 0=1:=by simpa using q
    first|(refine aaE e1 ?_;done)|(refine aq (e1)▸?_)|rw[e1]
    rcases bb with h|h
    ·exact h.symm
    ·exact absurd (by(exact aaE h<|aaE e2 rfl)) nj
   ·exact h1 _
  ·rename_i q
   rw[ar q]at nL uk;refine(qP hv ho Ai uj nL uk ?_)
   first|((refine aaE qo<|aaE kN ?_);done)|(refine aq (qo)▸?_;refine aq (kN)▸?_)|rw[qo,kN]
   split
   ·exact h1 _
   ·rename_i q2
    refine Mn (full e ?_)
    have e1:p'.getD c 0=1:=by
     rcases qb with h|h
     ·exact absurd (by exact aaE h rfl) q2
     ·exact h
    have e2:p.getD c 0=0:=by
     rcases pb with h|h
     ·exact h
     ·exact absurd (by exact aaE h rfl) q
    first|(refine aaE e1 ?_;done)|(refine aq (e1)▸?_)|rw[e1]
    rcases bb with h|h
    ·exact absurd (by(exact aaE h<|aaE e2 rfl)) nj
    ·exact h.symm
 unfold mW
 split
 ·rename_i q
  rw[aA q]at he;clear nL uk subN;refine aaE he ?_;have:=subK (by refine aaE q ?_;rfl)
  rwa [q]at this ⊢
 ·rename_i q
  rw[ar q]at he;have hl:(b.take c).length=c:=by exact aaE jW<|JF hc
  exact(jG hs subN he.1 he.2 (λe=>by rw[hl]at e ⊢;exact subK e))
structure Stt(z:Nat)(a dx f d db:Addr)(r:By)(σ0 σ:St)(N D:BD)(c:Nat):Prop where
 tri:Tri z σ a dx f d db r N D
 ok:SOk N D
 only:Only σ0 σ [d,db]
 n:N.length+c<=60000
 m:D.length+c<=60000
theorem Stt.less{z a dx f d db r}(S:Stt z a dx f d db r σ0 σ N D c)(h:c'<=c):Stt z a dx f d db r σ0 σ N D c':=⟨S.tri,S.ok,S.only,by have:=S.n;exact Jb h this,by have:=S.m;exact Jb h this⟩
inductive SP(z:Nat)(a dx f d db:Addr)(r:By)(σ0:St)(n:Nat)(N D:BD)(q:By)(ot:Option T)(c:Nat)(V:AV)(ab:St):Prop
 |mk (N' D':BD) (S:Stt z a dx f d db r σ0 ab N' D' c) (s1:BD.Sub N N') (s2:BD.Sub D D') (h:match ot with|none=>V=.bytes blank|some t'=>∃h',V=.bytes h'/\KA n N' D' t' h' q)
inductive SaveP(z:Nat)(a dx f d db:Addr)(r:By)(σ0:St)(Q:AV->St->Prop)(V:AV)(ay:St):Prop
 |mk (b:UInt8) (x:By) (N D:BD) (c:Nat) (e:V=.bytes (b::x)) (hb:b=0∨b=1∨b=2) (hx:x.length<=4096) (S:Stt z a dx f d db r σ0 ay N D (c+1))
  (q:∀ab N' D' h',Stt z a dx f d db r σ0 ab N' D' c->BD.Sub N N'->BD.Sub D D'->N'.lookup (b::x)=some h'->D'.lookup h'=some (b::x)->Q (.bytes h') ab)
section
variable {X:Cx} {A:Around} {E:Value->Shared->Prop} {P:Pv} {env:Env} {m:Mp} {σ:St}
theorem Ex.mono{st:Stmt}{Q Q':AFl->Mp->St->Prop}(h:Ex X A E P env m st σ Q)(k:∀F m ab,Q F m ab->Q' F m ab):Ex X A E P env m st σ Q':=λg s S F=>
 aB (h g s S F) (λx x zz=>zz.rec λg' Fl m' ab G F' rf q=>⟨g',Fl,m',ab,G,F',rf,k _ _ _ q⟩) i2
theorem Exs.mono{st:List Stmt}{Q Q':AFl->Mp->St->Prop}(h:Exs X A E P env m st σ Q)(k:∀F m ab,Q F m ab->Q' F m ab):Exs X A E P env m st σ Q':=λg s S F=>
 aB (h g s S F) (λx x zz=>zz.rec λg' Fl m' ab G F' rf q=>⟨g',Fl,m',ab,G,F',rf,k _ _ _ q⟩) i2
variable {Q:AV->St->Prop} {z:Nat} {a dx f d db:Addr} {r:By} {σ0:St} (hX:Base5 X)
include hX
theorem je(hm:m "self"=some (.ref a))(hA:Room A 4)(T0:Tri z σ a dx f d db r N0 D0)
  (h:Ev X A aC env m arg σ (SaveP z a dx f d db r σ0 Q))
  (he:starEach [arg] env=(false,eval arg env)::starEach [] env)
  (hc:eval (.Call (.Attribute (.Name "self" p1) "_hash_and_save" p2) [arg] [] p3) env=(do
   let ov ←eval (.Name "self" p1) env
   standAt p2.atName
   let (f,first) ←holding [ov] (getMethod ov "_hash_and_save" pl)
   callWith p3 f first (backTo p3 (starEach [arg] env)) []):=by rfl):Ev X A aC env m (.Call (.Attribute (.Name "self" p1) "_hash_and_save" p2) [arg] [] p3) σ Q:=by
 refine fT (aP (V:=.ref a) hm<|f6 hX T0 (by simp[eY])<|ak (Ev.mono h λV ay zz=>zz.rec λb x N D c e hb hx S hq=>aD ⟨hX.m_has.keep,?_⟩) he) hc (by refine aaE he ?_;rfl);clear zz;refine aaE e ?_;have h1:=S.n;have h2:=S.m;refine bc (RQ hX S.tri hb hx (by exact C9 h1) (by exact ae (bB _ _) (ae h2 (lb rfl))) λab o t=>?_) hA;obtain⟨w,sd⟩:=S.ok.save (b::x) (by exact C9 h1);refine pk (S.ok.W.add (b::x) (by exact C9 h1)) λy sn g l1 l2=>?_;have l3:=sA (x:=fm N (b::x)) (v:=b::x) D;exact hq ab _ _ _ ⟨t,w,S.only.trans o,by exact I4 h1 l1,by exact I4 h2 l3⟩ sn sd g G9
theorem Br(hm:m x=some (.bytes v))(hz:v.length<=4096)(hv:v≠[])(hA:Room A 2)(hk:env.kindOf "encode_leaf_node"=some .globalImplicit)(hg:env.globals=mainGlobals)(hb:env.builtins=builtinsNs)(h:Q (.bytes (fi v)) σ)
  (hd:(x==("__debug__":Str))=false)(hc:(x==("__classdict__":Str))=false):Ev X A aC env m (.Call (.Name "encode_leaf_node" p1) [.Name x p2] [] p3) σ Q:=by
 have kv:cQ X σ (.ref 249):=by refine bk hX.f_elf λy y F'=>?_;exact F'.keep
 exact aV<|ph hX.g_elf hk hg hb<|ak<|aP (hd:=hd) (hc:=hc) hm<|aD ⟨kv,bc (RH hX.toBase hz hv h) hA⟩
theorem nY:cQ X σ (.ref 235):=by refine bk hX.f_ekv λx x F'=>?_;exact F'.keep
theorem BR:cQ X σ (.ref 242):=by refine bk hX.f_ebr λx x F'=>?_;exact F'.keep
theorem Qm:cQ X σ (.ref 221):=by refine bk hX.f_gcp λx x F'=>?_;exact F'.keep
end
noncomputable def HF(code pm dflt:Value)(L:Addr):Env:=callEnvC (ip (cY 4) "BinaryTrie._set" code pm dflt) L 321
noncomputable def WD(a:Addr)(h p v:By):Mp:=g8 ["self","node_hash","keypath","value","if_delete_subtrie"] [.ref a,.bytes h,.bytes p,.bytes v,.bool false] Mp.nil
def ni(X:Cx)(z:Nat)(a dx f d db:Addr)(r:By)(n:Nat)(t:T):Prop:=∀{p v q:By} {σ0 σ:St} {N D:BD} {h:By} {c:Nat} {Q:AP} (al:List AV),SPre n N D t h p v q->Stt z a dx f d db r σ0 σ N D (c+6*(n+1))->(al=[]∨al=[.bool false])->
 (∀V ab,SP z a dx f d db r σ0 n N D q (upd t p v) c V ab->Q V ab)->CallOk X (20+2*n) (.ref 321) ([.ref a,.bytes h,.bytes p,.bytes v]++al) σ Q
theorem n8(hb:b.length<=64)(hh:h.length=32):(eT b++h).length<=4096:=by
 have:=yC b;exact aaE cw<|S5 hb hh this
section
variable {X:Cx} {σ:St} {z:Nat} {a dx f d db:Addr} {r:By} (hX:Base5 X)
include hX
theorem Ci(iZ:al=[]∨al=[.bool false])
  (hb:∀code pm dflt A L,Room A k->Exs X A aC (bg L (HF code pm dflt L)) (HF code pm dflt L) (WD a h p v) (fz (cY 4)) σ (jR Q)):
  CallOk X (k+1) (.ref 321) ([.ref a,.bytes h,.bytes p,.bytes v]++al) σ Q:=by
 refine az λkk=>?_;refine jc hX.m__set λT o n aR hT hs=>?_;obtain⟨code,pm,F⟩:=aR;rcases iZ with rfl|rfl
 ·refine kk<|dQ (l':=[.ref a,.bytes h,.bytes p,.bytes v,.bool false]) F ["self","node_hash","keypath","value","if_delete_subtrie"] (vb _ rfl hT hs λvs hv=>?_) rfl λA L hA=>hb _ _ _ A L hA
  apply Dw hv;intro v1 v2 v3 v4;refine(cy _ ([v1,v2,v3,v4,.bool false]) rfl rfl (λg r=>?_));refine cP r λx x e r1 r=>?_;cases e;refine cP r λx x e r2 r=>?_;cases e;refine cP r λx x e r3 r=>?_;cases e;refine cP r λx x e r4 r=>?_;clear r;cases e;exact .cons r1<|.cons r2<|.cons r3<|.cons r4<|.cons (by exact rfl) .nil
 ·refine kk<|dQ (l':=[.ref a,.bytes h,.bytes p,.bytes v,.bool false]) F ["self","node_hash","keypath","value","if_delete_subtrie"] (vb _ rfl hT hs λvs hv=>?_) rfl λA L hA=>hb _ _ _ A L hA
  (apply JM hv;intro v1 v2 v3 v4 v5;exact(cy _ ([v1,v2,v3,v4,v5]) rfl rfl (λg r=>r)))
theorem Qn:ni X z a dx f d db r n (.leaf v0):=λ{p v q σ0 σ N D h c Q} al S T iZ hQ=>by
 have qf:=S.wf.1;subst qf;have hp:=oJ.mp S.len;refine aaE hp ?_;have gj:=S.k.2;have hN:=T.ok.W.ok;have dk:=cR.mpr (hN.blank _ _ S.k.1);have Zy:=S.short;have kI:=S.vz;refine CallOk.deep (k:=19+1) (Ci hX iZ λcode pm dflt A L hA=>?_) (by exact SW);refine aw<|bp<|aT<|af (.bytes h)<|eg hX.g_BLANK<|dU (kt (?_));refine bQ dk<|bw<|aw<|bE<|aV<|eg hX.g_parse<|ak<|bz<|iL hX T.tri rfl<|af (.bytes h)<|fw T.tri.dbt gj<|aD ⟨jA hX.toBase,bc (so hX.toBase (by exact ly Zy) S.wf.2 ?_) hA.mo⟩;refine eR hA.handled rfl rfl<|bG<|aQ<|bG<|aQ<|bG<|aQ<|eS<|aw<|bp<|aT<|af (.int 2)<|eg hX.g_LEAF<|cu (kt (?_));refine aw<|bp<|gp (af (.bytes [])<|jv (by simp) ?_) (by rfl);refine bw<|aw<|bp<|gp (af (.bool false)<|sh ?_) (by rfl);refine bw<|aw<|cD<|yJ<|gp (af (.bytes v)<|jv (by exact Ju kI) ?_) (by rfl)
 cases hv:v with
 |nil=>
  subst hv;exact eg hX.g_BLANK (hQ _ _ ⟨N,D,T.less (by exact bB _ _),.refl _,.refl _,rfl⟩)
 |cons x v1=>
  have bR:v≠[]:=by refine aaE hv ?_;simp
  refine aaE (aq hv)<|dR (c:=(!List.isEmpty v)) (by refine aaE hv ?_;rfl) ?_;refine je (he:=by rfl) hX rfl hA.mo T.tri<|Br (hd:=by rfl) (hc:=by rfl) hX rfl (by exact ly kI) bR hA.mo rfl rfl rfl ⟨2,v,N,D,c,rfl,.inr (.inr rfl),by exact ly kI,T.less (by exact bB (_+1) 5),λab N' D' h' S' s1 s2 e1 e2=>hQ _ _ ⟨N',D',S',s1,s2,?_⟩⟩;show match (if v=[]then none else some (Internal.T.leaf v))with|none=>_|some t'=>_
  exact aaE (ar bR)<|⟨h',rfl,λp' y y y=>⟨e1,e2⟩⟩
end
noncomputable def Iw(code pm dflt:Value)(L:Addr):Env:=callEnvC (ip (cY 5) "BinaryTrie._set_kv_node" code pm dflt) L 329
noncomputable def zT(a:Addr)(p h b h' v:By):Mp:=g8 ["self","keypath","node_hash","node_type","left_child","right_child","value","if_delete_subtrie"] [.ref a,.bytes p,.bytes h,.int 0,.bytes b,.bytes h',.bytes v,.bool false] Mp.nil
section
variable {X:Cx} {σ:St} {z:Nat} {a dx f d db:Addr} {r:By} (hX:Base5 X)
include hX
theorem Iy
  (hb:∀code pm dflt A L,Room A k->Exs X A aC (bg L (Iw code pm dflt L)) (Iw code pm dflt L) (zT a p h b h' v) (fz (cY 5)) σ (jR Q)):
  CallOk X (k+1) (.ref 329) [.ref a,.bytes p,.bytes h,.int 0,.bytes b,.bytes h',.bytes v,.bool false] σ Q:=by
 refine az λkk=>?_;refine jc hX.m_kv λT o n ba hT hs=>?_;obtain⟨code,pm,F⟩:=ba;refine kk<|dQ (l':=[.ref a,.bytes p,.bytes h,.int 0,.bytes b,.bytes h',.bytes v,.bool false]) F ["self","keypath","node_hash","node_type","left_child","right_child","value","if_delete_subtrie"] (vb _ rfl hT hs λvs hv=>?_) rfl λA L hA=>hb _ _ _ A L hA
 (apply Dv hv;intro v1 v2 v3 v4 v5 v6 v7 v8;exact(cy _ ([v1,v2,v3,v4,v5,v6,v7,v8]) rfl rfl (λg r=>r)))
theorem Q1(ih:∀n,ni X z a dx f d db r n t)(S:SPre n N D (.kv b t) h p v q)(hm:p.take b.length=b)(hh:Named N t h')(T:Stt z a dx f d db r σ0 σ N D (c+6*(n+1)))
  (hQ:∀V ab,SP z a dx f d db r σ0 n N D q (upd (.kv b t) p v) c V ab->Q V ab):CallOk X (19+2*n) (.ref 329) [.ref a,.bytes p,.bytes h,.int 0,.bytes b,.bytes h',.bytes v,.bool false] σ Q:=by
 refine az λkk=>?_;refine pf (S.kv hm) λw0 n' en j1 j2 j3 S'=>?_;have:=hh.fn j1;subst this;have hN:=T.ok.W.ok;refine eE (id S.wf) λhb cz hk x x iw=>?_;have kD:1<=b.length:=by clear S hm hQ kk en j2 j3 S' cz;cases b with|nil=>exact absurd rfl hb|cons _ _=>simp
 have bM:=S.n64;have kI:=S.vz;have bP:=S.len;refine kk<|CallOk.deep (k:=18+2*n+1) (Iy hX λcode pm dflt A L hA=>?_) (by exact Dt);refine aw<|bp<|gp (af (.bool false)<|sh ?_) (by rfl);refine bw<|aw<|bp<|aT<|vE (hd:=by rfl) (hc:=by rfl) hX.toBase (p:=p) (b:=b) rfl rfl (by exact kB bM bP) (zl en bM) rfl rfl rfl<|af (.bytes b)<|dU (kt (?_));refine dR (c:=(List.take b.length p==b)) (cM.mpr hm) ?_;have eupd:upd (.kv b t) p v=(upd t (p.drop b.length) v).map (mX b):=aA hm;refine aw<|bE<|fT (af (.ref a)<|f6 hX T.tri (by simp[eY])<|ak<|af (.bytes h')<|ak<|B8 (hd:=by rfl) (hc:=by rfl) hX.toBase (p:=p) (b:=b) rfl rfl (by exact kB bM bP) (zl en bM) rfl rfl rfl<|ak<|af (.bytes v)<|ak<|af (.bool false)<|aD ⟨hX.m__set.keep,bc (ih n' [.bool false] (σ0:=σ0) (c:=c+6) S' (T.less (by exact UY en kD)) (.inr rfl) λV eX zp=>zp.rec λN1 D1 T1 s1 s2 hV=>?_) hA.mo⟩) (by rfl);have mD:=T1.ok.W.ok;have law:=l5 S'.wf S'.len S'.bits (v:=v)
 cases hu:upd t (p.drop b.length) v with
 |none=>
  rw[hu]at hV;subst hV;refine aQ<|aw<|bp<|aT<|af (.bytes blank)<|eg hX.g_BLANK<|dU (kt (?_));refine dR (c:=(blank==blank)) (by decide)<|aw<|cD<|eg hX.g_BLANK (hQ _ _ ⟨N1,D1,T1.less (by exact Us),s1,s2,?_⟩)
  (refine aaE eupd<|aaE hu ?_);rfl
 |some t1=>
  rw[hu]at hV law;refine ax hV λh1 bh ka=>?_;subst bh;obtain⟨wf1,_⟩:=law;have k1:=ka _ S'.len S'.bits S'.pre;have nm1:=k1.named
  have top:D1.lookup h1=some (tx N1 t1):=by
   clear hu ka hV wf1 nm1;cases t1 with
   |leaf v=>exact k1.2
   |kv b1 t2=>refine kX k1 λh3 a1 a2 a3 x=>?_;refine aaE a3 ?_;show _=some (bX b1 (nm N1 t2));exact aaE a1.nm rfl
   |br l2 r2=>refine pf k1 λhl hr a1 a2 a3 a4 x=>?_;refine aaE a4 ?_;show _=some (b9 (nm N1 l2) (nm N1 r2));(exact aaE a1.nm<|aaE a2.nm rfl)
  have dk:=cR.mpr (mD.blank _ _ nm1.ltx);have pS:=mD.len _ _ nm1.ltx;refine aQ<|aw<|bp<|aT<|af (.bytes h1)<|eg hX.g_BLANK<|dU (kt (?_));refine bQ dk ?_
  have fin:∀{eK:St} {N2 D2:BD} {h2:By},Stt z a dx f d db r σ0 eK N2 D2 c->BD.Sub N1 N2->BD.Sub D1 D2->CA N1 N2 D2 b h1 h2 t1->Q (.bytes h2) eK:=λT2 u1 u2 hw=>hQ _ _ ⟨_,_,T2,s1.trans u1,s2.trans u2,by
   (refine aaE eupd<|aaE hu ?_)
   exact(iH (λp' c1 c2 c3=>Cg u1 u2 (λe=>ka _ (by exact aaE dE<|wg en c1) (kR c2 _) (mP _ c3)) nm1 hw))⟩
  clear ka hV nm1;cases t1 with
  |leaf v1=>
   refine bw<|aw<|bE<|aV<|eg hX.g_parse<|ak<|bz<|iL hX T1.tri rfl<|af (.bytes h1)<|fw T1.tri.dbt top<|aD ⟨jA hX.toBase,bc (so hX.toBase ?_ wf1.2 ?_) hA.mo⟩
   ·have:=sI S'.short kI hu
    have:=this;exact ly this
   refine eR hA.handled rfl rfl<|bG<|aQ<|bG<|aQ<|bG<|aQ<|eS<|aw<|bp<|aT<|af (.int 2)<|eg hX.g_KV<|cu (kt (?_));refine aw<|cD<|je (he:=by rfl) hX (σ0:=σ0) rfl hA.mo T1.tri<|aV<|eg hX.g_ekv<|ak<|af (.bytes b)<|ak<|af (.bytes h1)<|aD ⟨nY hX,bc (n5 hX.toBase (Ct en bM) cz hb pS ⟨0,eT b++h1,N1,D1,c,rfl,.inl rfl,n8 (ae (bB _ _) (ae (aK en.symm) bM)) pS,T1.less (by exact rn),λeK N2 D2 h2 T2 u1 u2 e1 e2=>fin T2 u1 u2 ⟨e1,e2⟩⟩) hA.mo⟩
  |br l2 r2=>
   refine pf k1 λhl hr a1 a2 a3 a4 x=>?_;refine bw<|aw<|bE<|aV<|eg hX.g_parse<|ak<|bz<|iL hX T1.tri rfl<|af (.bytes h1)<|fw T1.tri.dbt a4<|aD ⟨jA hX.toBase,bc (qI hX.toBase (mD.len _ _ a1.ltx) (mD.len _ _ a2.ltx) ?_) hA.mo⟩;refine eR hA.handled rfl rfl<|bG<|aQ<|bG<|aQ<|bG<|aQ<|eS<|aw<|bp<|aT<|af (.int 1)<|eg hX.g_KV<|cu (kt (?_));refine aw<|cD<|je (he:=by rfl) hX (σ0:=σ0) rfl hA.mo T1.tri<|aV<|eg hX.g_ekv<|ak<|af (.bytes b)<|ak<|af (.bytes h1)<|aD ⟨nY hX,bc (n5 hX.toBase (Ct en bM) cz hb pS ⟨0,eT b++h1,N1,D1,c,rfl,.inl rfl,n8 (ae (bB _ _) (ae (aK en.symm) bM)) pS,T1.less (by exact rn),λeK N2 D2 h2 T2 u1 u2 e1 e2=>fin T2 u1 u2 ⟨e1,e2⟩⟩) hA.mo⟩
  |kv b1 t2=>
   refine kX k1 λh3 a1 a2 a3 x=>?_;refine eE (id wf1) λXQ vS qg n1 en1 xb=>?_;have Et:=mD.len _ _ a1.ltx;refine bw<|aw<|bE<|aV<|eg hX.g_parse<|ak<|bz<|iL hX T1.tri rfl<|af (.bytes h1)<|fw T1.tri.dbt a3<|aD ⟨jA hX.toBase,bc (qH hX.toBase (by exact T6 en bM en1) vS Et ?_) hA.mo⟩;refine eR hA.handled rfl rfl<|bG<|aQ<|bG<|aQ<|bG<|aQ<|eS<|aw<|bp<|aT<|af (.int 0)<|eg hX.g_KV<|cu (kt (?_));refine aw<|cD<|je (he:=by rfl) hX (σ0:=σ0) rfl hA.mo T1.tri<|aV<|eg hX.g_ekv<|ak<|bK<|af (.bytes b)<|af (.bytes b1)<|f5 (by exact UQ en bM en1)<|ak<|af (.bytes h3)<|aD ⟨nY hX,bc (n5 hX.toBase (by exact aaE cw<|UO en bM en1) (mO cz vS) (by simp[hb]) Et ⟨0,eT (b++b1)++h3,N1,D1,c,rfl,.inl rfl,n8 (by exact aaE cw<|Tb en bM en1) Et,T1.less (by exact rn),λeK N2 D2 h2 T2 u1 u2 e1 e2=>fin T2 u1 u2 ⟨h3,a1,e1,e2⟩⟩) hA.mo⟩
end
section
variable {X:Cx} {σ:St} {z:Nat} {a dx f d db:Addr} {r:By} (hX:Base5 X)
include hX
theorem Q2(S:SPre n N D (.kv b t) h p v q)(hm:p.take b.length≠b)(hh:Named N t h')(T:Stt z a dx f d db r σ0 σ N D (c+6*(n+1)))
  (hQ:∀V ab,SP z a dx f d db r σ0 n N D q (upd (.kv b t) p v) c V ab->Q V ab):CallOk X (19+2*n) (.ref 329) [.ref a,.bytes p,.bytes h,.int 0,.bytes b,.bytes h',.bytes v,.bool false] σ Q:=by
 have hN:=T.ok.W.ok;refine eE (id S.wf) λhb cz hk n' en iw=>?_;have kD:1<=b.length:=by clear S hm hQ cz en;cases b with|nil=>exact absurd rfl hb|cons _ _=>simp
 have bM:=S.n64;have kI:=S.vz;have bP:=S.len;have dC:=S.bits;have cG:(p.take b.length).length=b.length:=by exact aaE jW<|(gS (ae (bB _ _) (aK (en.symm.trans bP.symm))))
 have pS:=hN.len _ _ hh.ltx
 have hc:cn b p<b.length:=by
  rcases uR (cn b p) b.length with h|h
  ·exact h
  ·exact absurd (GY (uC (yP b p).1 h)) hm
 have eupd:upd (.kv b t) p v=if v=[]then some (.kv b t)else some (mW b t p v (cn b p)):=ar hm;have XR:=G7 b p;refine CallOk.deep (k:=18+2*n+1) (Iy hX λcode pm dflt A L hA=>?_) (by exact Dt);refine aw<|bp<|gp (af (.bool false)<|sh ?_) (by rfl);refine bw<|aw<|bp<|aT<|vE (hd:=by rfl) (hc:=by rfl) hX.toBase (p:=p) (b:=b) rfl rfl (by exact kB bM bP) (by exact zl en bM) rfl rfl rfl<|af (.bytes b)<|dU (kt (?_));refine bQ (c:=(List.take b.length p==b)) (cR.mpr hm)<|aw<|bE<|aV<|eg hX.g_gcp<|ak<|af (.bytes b)<|ak<|vE (hd:=by rfl) (hc:=by rfl) hX.toBase (p:=p) (b:=b) rfl rfl (by exact kB bM bP) (by exact zl en bM) rfl rfl rfl<|aD ⟨Qm hX,bc (RP hX.toBase3 cG.symm (λe=>hm e.symm) ?_) hA.mo⟩;refine aaE XR ?_;have oH:cn b p<p.length:=by exact bT hc (ae (bB _ _) (aK (en.symm.trans bP.symm)))
 have HS:∀{p':By} {N D:BD} {hv ho hs h2},_:=@λp' N D hv ho hs h2=>@Q0 N D n b p v p' t hv ho hs h2 cz bP dC;generalize jU:cn b p=k at *;refine aQ<|aw<|bp<|gE<|lY<|gp (af (.bytes v)<|jv (by exact Ju kI) ?_) (by rfl)
 by_cases hv:v=[]
 ·refine dR (c:=(!!v.isEmpty)) (by refine aaE hv ?_;rfl) ?_
  refine aw<|cD<|af (.bytes h)<|hQ _ _ ⟨N,D,T.less (by exact bB _ _),.refl _,.refl _,?_⟩
  (refine aaE eupd<|aaE (aA hv) ?_)
  exact(aE h rfl S.ka)
 have Zz:(!!v.isEmpty)=false:=by clear S hQ kI eupd HS;cases v with|nil=>exact absurd rfl hv|cons _ _=>rfl
 refine bQ (Zz) ?_;rw[ar hv]at eupd;refine gE<|gp (af (.bool false)<|sh ?_) (by rfl);refine o4<|bw ?_;refine aw<|Ex.mono (Q:=λF m' ab=>F=.next/\∃hv N1 D1,m'=Mp.upd ((zT a p h b h' v).upd "common_prefix_len" (.int (k:Int))) "valnode" (.bytes hv)/\Stt z a dx f d db r σ0 ab N1 D1 (c+4)/\BD.Sub N N1/\BD.Sub D D1/\hv.length=32/\∀p',K N1 D1 (ku p v k) hv p') ?_ ?_
 ·refine bp<|aT<|mY (hd:=by rfl) (hc:=by rfl) hX.toBase (b:=p) rfl (by exact pV bM bP) rfl rfl rfl<|bK<|af (.int (k:Int))<|aY<|mK<|cu (kt (?_))
  by_cases h1:p.length=k+1
  ·refine dR (c:=(((p.length:Nat):Int)==(k:Int)+1)) (by exact aaE (propext cM)<|Jl h1) ?_
   refine aw<|bE<|je (he:=by rfl) hX (σ0:=σ0) rfl hA.mo T.tri<|Br (hd:=by rfl) (hc:=by rfl) hX rfl (by exact ly kI) hv hA.mo rfl rfl rfl ⟨2,v,N,D,c+4,rfl,.inr (.inr rfl),by exact ly kI,T.less (by exact cK (ae (lb rfl:5<=6*1) (ia 6 (fF (mI _)))) _),λeX N1 D1 ej S' s1 s2 e1 e2=>aQ<|bw ⟨rfl,ej,N1,D1,rfl,S',s1,s2,S'.ok.W.ok.len _ _ e1,λp'=>?_⟩⟩;unfold ku;exact aaE (aA h1)<|⟨e1,e2⟩
  ·refine bQ (c:=(((p.length:Nat):Int)==(k:Int)+1)) (by exact aaE (propext cR)<|I8 h1) ?_
   refine aw<|bp<|aT<|mY (hd:=by rfl) (hc:=by rfl) hX.toBase (b:=p) rfl (by exact pV bM bP) rfl rfl rfl<|af (.int (k:Int))<|Gn (kt (?_));refine bQ (c:=decide (((p.length:Nat):Int)<=(k:Int))) (by exact aaE (propext EU)<|(λq=>j0.mpr (oY.mp q) oH)) ?_;refine bw<|aw<|bE<|je (he:=by rfl) hX (σ0:=σ0) rfl hA.mo T.tri<|aV<|eg hX.g_ekv<|ak<|bz<|af (.bytes p)<|ee (lower:=some _) (upper:=none)<|bK<|af (.int (k:Int))<|aY<|mK (ki (fG (by exact pV bM bP) ?_))
   (refine aaE (show((k:Int)+1)=((k+1:Nat):Int)from rfl)<|aaE (iK ..) ?_)
   refine ak<|je (he:=by rfl) hX (σ0:=σ0) rfl hA.mo T.tri<|Br (hd:=by rfl) (hc:=by rfl) hX rfl (by exact ly kI) hv hA.mo rfl rfl rfl ⟨2,v,N,D,c+5,rfl,.inr (.inr rfl),by exact ly kI,T.less (by exact cK (ae (lb rfl:6<=6*1) (ia 6 (fF (mI _)))) _),λeX N1 D1 ej S1 s1 s2 e1 e2=>?_⟩;have l1:=S1.ok.W.ok.len _ _ e1;have ld:(p.drop (k+1)).length<=64:=by exact aaE dE<|(ae (Nat.sub_le _ _) (ae (aK bP) bM))
   refine aD ⟨nY hX,bc (n5 hX.toBase (by exact Dp ld) (kR dC _) (λe=>by have:=bF List.length e;rw[dE]at this;simp at this;exact Je oH h1 this) l1 ⟨0,eT (p.drop (k+1))++ej,N1,D1,c+4,rfl,.inl rfl,n8 ld l1,S1,λeK N2 D2 h2 S2 u1 u2 e3 e4=>aQ<|bw ⟨rfl,h2,N2,D2,rfl,S2,s1.trans u1,s2.trans u2,S2.ok.W.ok.len _ _ e3,λp'=>?_⟩⟩) hA.mo⟩;unfold ku;exact aaE (ar h1)<|(jG ej (u1 _ _ e1) e3 e4 (λx=>⟨u1 _ _ e1,u2 _ _ e2⟩))
 rintro F m1 eX ⟨rfl,gh,N1,D1,rfl,T1,s1,s2,lv,kval⟩;refine aw<|Ex.mono (Q:=λF m' ab=>F=.next/\∃ho N2 D2,m'=Mp.upd (Mp.upd ((zT a p h b h' v).upd "common_prefix_len" (.int (k:Int))) "valnode" (.bytes gh)) "oldnode" (.bytes ho)/\Stt z a dx f d db r σ0 ab N2 D2 (c+3)/\BD.Sub N1 N2/\BD.Sub D1 D2/\ho.length=32/\Named N2 (ji b t k) ho/\∀p',p'.length=n->ck p'->p'.take q.length=q->p'.take (k+1)=b.take (k+1)->K N2 D2 (ji b t k) ho (p'.drop (k+1))) ?_ ?_
 ·have kk:∀p',p'.length=n->ck p'->p'.take q.length=q->p'.take b.length=b->K N D t h' (p'.drop b.length):=λp' c1 c2 c3 c4=>by
   refine kX (S.ka p' c1 c2 c3) λw0 j1 j2 j3 j4=>?_;have:=hh.fn j1;clear j1 j2 j3;refine aaE this ?_;exact j4 c4
  refine bp<|aT<|mY (hd:=by rfl) (hc:=by rfl) hX.toBase (b:=b) rfl (by exact Dc en bM) rfl rfl rfl<|bK<|af (.int (k:Int))<|aY<|mK<|cu (kt (?_))
  by_cases h1:b.length=k+1
  ·refine dR (c:=(((b.length:Nat):Int)==(k:Int)+1)) (by exact aaE (propext cM)<|Jl h1) ?_
   refine aw<|bE<|af (.bytes h')<|aQ<|bw (xM rfl h' N1 D1 rfl (T1.less (by exact bB (_+3) 1)) (.refl _) (.refl _) pS ?_ (λp' c1 c2 c3 c4=>?_))
   ·unfold ji;exact aaE (aA h1)<|hh.mono s1
   ·unfold ji;refine aaE (aA h1) ?_
    rw[←h1,xx]at c4;exact aaE (aq h1)<|(kk p' c1 c2 c3 c4).mono s1 s2
  ·refine bQ (c:=(((b.length:Nat):Int)==(k:Int)+1)) (by exact aaE (propext cR)<|I8 h1) ?_
   refine aw<|bE<|je (he:=by rfl) hX (σ0:=σ0) rfl hA.mo T1.tri<|aV<|eg hX.g_ekv<|ak<|bz<|af (.bytes b)<|ee (lower:=some _) (upper:=none)<|bK<|af (.int (k:Int))<|aY<|mK (ki (fG (by exact Dc en bM) ?_))
   (refine aaE (show((k:Int)+1)=((k+1:Nat):Int)from rfl)<|aaE (iK ..) ?_)
   have ld:(b.drop (k+1)).length<=64:=by exact aaE dE<|(ae (Nat.sub_le _ _) (ae (bB _ _) (ae (aK en.symm) bM)))
   refine ak<|af (.bytes h')<|aD ⟨nY hX,bc (n5 hX.toBase (by exact Dp ld) (kR cz _) (λe=>by have:=bF List.length e;rw[dE]at this;simp at this;exact Je hc h1 this) pS ⟨0,eT (b.drop (k+1))++h',N1,D1,c+3,rfl,.inl rfl,n8 ld pS,T1,λeK N2 D2 h2 S2 u1 u2 e3 e4=>aQ<|bw (xM rfl h2 N2 D2 rfl S2 u1 u2 (S2.ok.W.ok.len _ _ e3) ?_ (λp' c1 c2 c3 c4=>?_))⟩) hA.mo⟩
   ·unfold ji;exact aaE (ar h1)<|(aE h' ((hh.mono s1).mono u1) e3)
   ·unfold ji;refine aaE (ar h1) ?_
    refine(jG h' ((hh.mono s1).mono u1) e3 e4 (λe=>?_))
    have e5:p'.take b.length=b:=by
     rw[dE]at e
     have e6:p'.take b.length=p'.take (k+1)++(p'.drop (k+1)).take (b.length - (k+1)):=by
      refine aaE (aq List.take_add) ?_;congr 1;exact TR hc
     (exact aaE e6<|aaE e<|aaE c4<|aaE (i0 ..) rfl)
    have:=(((kk p' c1 c2 c3 e5).mono s1 s2).mono u1 u2)
    (refine aaE kN<|aaE dE ?_)
    rwa [show k+1+(b.length - (k+1))=b.length from by exact U3 hc]
 rintro F m2 eK ⟨rfl,ho,N2,D2,rfl,T2,u1,u2,lo,uj,kold⟩;have ZA:=s1.trans u1;have ZC:=s2.trans u2;have Wi:∀p',K N2 D2 (ku p v k) gh p':=λp'=>(kval p').mono u1 u2;refine aw<|Ex.mono (Q:=λF m' ab=>F=.next/\∃hs N3 D3,m'=Mp.upd (Mp.upd (Mp.upd ((zT a p h b h' v).upd "common_prefix_len" (.int (k:Int))) "valnode" (.bytes gh)) "oldnode" (.bytes ho)) "newsub" (.bytes hs)/\Stt z a dx f d db r σ0 ab N3 D3 (c+2)/\BD.Sub N2 N3/\BD.Sub D2 D3/\hs.length=32/\N3.lookup (if (p.drop k).take 1=[1]then b9 ho gh else b9 gh ho)=some hs/\D3.lookup hs=some (if (p.drop k).take 1=[1]then b9 ho gh else b9 gh ho)) ?_ ?_
 ·refine bp<|aT<|bz<|af (.bytes p)<|ee (lower:=some _) (upper:=some _)<|af (.int (k:Int)) (ki (bK<|af (.int (k:Int))<|aY<|mK (ki (fG (by exact pV bM bP) ?_))))
  (refine aaE (show((k:Int)+1)=((k+1:Nat):Int)from rfl)<|aaE (vg ..)<|aaE (qq ..) ?_)
  refine eg hX.g_B1<|dU (kt (?_))
  by_cases h1:(p.drop k).take 1=[1]
  ·refine dR (c:=((p.drop k).take 1==[1])) (cM.mpr h1)<|aw<|bE<|je (he:=by rfl) hX (σ0:=σ0) rfl hA.mo T2.tri<|aV<|eg hX.g_ebr<|ak<|af (.bytes ho)<|ak<|af (.bytes gh)<|aD ⟨BR hX,bc (Cd hX.toBase lo lv ⟨1,ho++gh,N2,D2,c+2,rfl,.inr (.inl rfl),by exact aaE cw<|(ae (gC (aK lo) (aK lv)) (lb rfl)),T2,λqh N3 D3 h3 S3 w1 w2 e3 e4=>aQ<|bw (xM rfl h3 N3 D3 rfl S3 w1 w2 (S3.ok.W.ok.len _ _ e3) ?_ ?_)⟩) hA.mo⟩
   ·exact aaE (aA h1)<|e3
   ·exact aaE (aA h1)<|e4
  ·refine bQ (c:=((p.drop k).take 1==[1])) (cR.mpr h1)<|aw<|bE<|je (he:=by rfl) hX (σ0:=σ0) rfl hA.mo T2.tri<|aV<|eg hX.g_ebr<|ak<|af (.bytes gh)<|ak<|af (.bytes ho)<|aD ⟨BR hX,bc (Cd hX.toBase lv lo ⟨1,gh++ho,N2,D2,c+2,rfl,.inr (.inl rfl),by exact aaE cw<|Ja lv lo,T2,λqh N3 D3 h3 S3 w1 w2 e3 e4=>aQ<|bw (xM rfl h3 N3 D3 rfl S3 w1 w2 (S3.ok.W.ok.len _ _ e3) ?_ ?_)⟩) hA.mo⟩
   ·exact aaE (ar h1)<|e3
   ·exact aaE (ar h1)<|e4
 rintro F m3 qh ⟨rfl,hs,N3,D3,rfl,T3,w1,w2,ls,e3,e4⟩;have kval3:∀p',K N3 D3 (ku p v k) gh p':=λp'=>(Wi p').mono w1 w2
 have fin:∀{um:St} {N4 D4:BD} {h4:By},Stt z a dx f d db r σ0 um N4 D4 c->BD.Sub N3 N4->BD.Sub D3 D4->(if k=0 then h4=hs else N4.lookup (bX (b.take k) hs)=some h4/\D4.lookup h4=some (bX (b.take k) hs))->Q (.bytes h4) um:=λT4 y1 y2 he=>hQ _ _ ⟨_,_,T4,(ZA.trans w1).trans y1,(ZC.trans w2).trans y2,by
  exact aaE eupd<|(iH (λp' c1 c2 c3=>HS c1 c2 hc oH (λjr=>(kval3 jr).mono y1 y2) (λe=>((kold p' c1 c2 c3 e).mono w1 w2).mono y1 y2) ((uj.mono w1).mono y1) (y1 _ _ e3) (y2 _ _ e4) he))⟩
 refine aw<|bp<|gp (af (.int (k:Int))<|Fi ?_) (by rfl)
 by_cases h0:k=0
 ·refine bQ (c:=((k:Int) !=0)) (by refine aaE h0 ?_;rfl) ?_
  exact aw<|cD<|af (.bytes hs)<|fin (T3.less (by exact bB _ _)) (.refl _) (.refl _) (by exact aaE (aA h0) rfl)
 ·refine dR (c:=((k:Int) !=0)) (by exact aaE (propext qK)<|Ji h0) ?_
  refine aw<|cD<|je (he:=by rfl) hX (σ0:=σ0) rfl hA.mo T3.tri<|aV<|eg hX.g_ekv<|ak<|bz<|af (.bytes b)<|ee (lower:=none) (upper:=some _)<|af (.int (k:Int)) (ki (fG (by exact Dc en bM) ?_));refine aaE (mJ ..) ?_;have ld:(b.take k).length<=64:=by exact aaE jW<|(ae (Nat.min_le_right _ _) (ae (bB _ _) (ae (aK en.symm) bM)))
  exact ak<|af (.bytes hs)<|aD ⟨nY hX,bc (n5 hX.toBase (by exact Dp ld) (yg cz _) (λe=>by have:=bF List.length e;rw[jW]at this;have h9:=this;exact h0 ((gS (dS hc)).symm.trans h9)) ls ⟨0,eT (b.take k)++hs,N3,D3,c,rfl,.inl rfl,n8 ld ls,T3.less (by exact bB (_+1) 1),λum N4 D4 h4 S4 y1 y2 e5 e6=>fin S4 y1 y2 (by exact aaE (ar h0)<|⟨e5,e6⟩)⟩) hA.mo⟩
end
noncomputable def tc(code pm dflt:Value)(L:Addr):Env:=callEnvC (ip (cY 6) "BinaryTrie._set_branch_node" code pm dflt) L 337
theorem HG(k:K N D t h p):D.lookup h=some (tx N t):=by
 cases t with
 |leaf v=>exact k.2
 |kv b1 t2=>refine kX k λh3 a1 a2 a3 x=>?_;refine aaE a3 ?_;show _=some (bX b1 (nm N t2));exact aaE a1.nm rfl
 |br l2 r2=>refine pf k λhl hr a1 a2 a3 a4 x=>?_;refine aaE a4 ?_;show _=some (b9 (nm N l2) (nm N r2));(exact aaE a1.nm<|aaE a2.nm rfl)
section
variable {X:Cx} {σ:St} {z:Nat} {a dx f d db:Addr} {r:By} (hX:Base5 X)
include hX
theorem Vo
  (hb:∀code pm dflt A L,Room A k->Exs X A aC (bg L (tc code pm dflt L)) (tc code pm dflt L) (g8 ["self","keypath","node_type","left_child","right_child","value","if_delete_subtrie"] [.ref a,.bytes p,.int 1,.bytes hl,.bytes hr,.bytes v,.bool false] Mp.nil) (fz (cY 6)) σ (jR Q)):
  CallOk X (k+1) (.ref 337) [.ref a,.bytes p,.int 1,.bytes hl,.bytes hr,.bytes v,.bool false] σ Q:=by
 refine az λkk=>?_;refine jc hX.m_br λT o n bh hT hs=>?_;obtain⟨code,pm,F⟩:=bh;refine kk<|dQ (l':=[.ref a,.bytes p,.int 1,.bytes hl,.bytes hr,.bytes v,.bool false]) F ["self","keypath","node_type","left_child","right_child","value","if_delete_subtrie"] (vb _ rfl hT hs λvs hv=>?_) rfl λA L hA=>hb _ _ _ A L hA
 (apply JN hv;intro v1 v2 v3 v4 v5 v6 v7;exact(cy _ ([v1,v2,v3,v4,v5,v6,v7]) rfl rfl (λg r=>r)))
section
variable {A:Around} {code pm dflt:Value} {L:Addr} {m:Mp} {σ0:St} {N D:BD} {c:Nat} {Q:AFl->Mp->St->Prop} {nl nr:By}
theorem Hq(hA:Room A 17)(h1:m "self"=some (.ref a))(h2:m "new_left_child"=some (.bytes nl))(h3:m "new_right_child"=some (.bytes nr))(Ep:nl≠blank)(Em:nr≠blank)(ll:nl.length=32)(lr:nr.length=32)(T:Stt z a dx f d db r σ0 σ N D (c+1))
  (hQ:∀ab N' D' h',Stt z a dx f d db r σ0 ab N' D' c->BD.Sub N N'->BD.Sub D D'->N'.lookup (b9 nl nr)=some h'->D'.lookup h'=some (b9 nl nr)->Q (.ret (.bytes h')) m ab):
  Exs X A aC (bg L (tc code pm dflt L)) (tc code pm dflt L) m ((fz (cY 6)).drop 1) σ Q:=by
 refine aw<|bp<|gE<|aT<|aP (V:=.bytes nl) h2<|eg hX.g_BLANK<|dU (kt (?_));refine bQ (c:=(nl==blank)) (cR.mpr Ep)<|gE<|aT<|aP (V:=.bytes nr) h3<|eg hX.g_BLANK<|dU (kt (?_));exact bQ (c:=(nr==blank)) (cR.mpr Em)<|o4<|bQ rfl<|aw<|cD<|je (he:=by rfl) hX (σ0:=σ0) h1 hA.mo T.tri<|aV<|eg hX.g_ebr<|ak<|aP (V:=.bytes nl) h2<|ak<|aP (V:=.bytes nr) h3<|aD ⟨BR hX,bc (Cd hX.toBase ll lr ⟨1,nl++nr,N,D,c,rfl,.inr (.inl rfl),by exact aaE cw<|Ja ll lr,T,hQ⟩) hA.mo⟩
theorem Hr(hA:Room A 17)(h1:m "self"=some (.ref a))(h2:m "new_left_child"=some (.bytes nl))(h3:m "new_right_child"=some (.bytes nr))(wc:(nl=blank/\nr=hs/\fb=[1])∨(nr=blank/\nl=hs/\fb=[0]))
  (hn:Named N t2 hs)(DP:D.lookup hs=some (tx N t2))(hw:WF n' t2)(bM:n'<=63)(ZE:fA t2)(T:Stt z a dx f d db r σ0 σ N D (c+1))
  (hQ:∀m' ab N' D' h',Stt z a dx f d db r σ0 ab N' D' c->BD.Sub N N'->BD.Sub D D'->CA N N' D' fb hs h' t2->Q (.ret (.bytes h')) m' ab):
  Exs X A aC (bg L (tc code pm dflt L)) (tc code pm dflt L) m ((fz (cY 6)).drop 1) σ Q:=by
 have hN:=T.ok.W.ok;have Eu:=hN.blank _ _ hn.ltx;have zI:=hN.len _ _ hn.ltx;have fb1:fb.length=1:=by rcases wc with ⟨_,_,e⟩|⟨_,_,e⟩<;>refine aaE e ?_<;>rfl
 have fbb:ck fb:=by rcases wc with ⟨_,_,e⟩|⟨_,_,e⟩<;>refine aaE e ?_<;>intro c hc<;>simp at hc<;>simp[hc]
 have fb0:fb≠[]:=λe=>by rw[e]at fb1;cases fb1
 have pick:∀{env:Env} {m:Mp} {σ:St} {Q:AP} {p1 p2 p3 p4 p5 p6:Pos},m "new_left_child"=some (.bytes nl)->m "new_right_child"=some (.bytes nr)->env.kindOf "BLANK_HASH"=some .globalImplicit->env.globals=mainGlobals->env.builtins=builtinsNs->Q (.bytes hs) σ->
   Ev X A aC env m (.IfExp (.Compare (.Name "new_left_child" p1) [.NotEq] [.Name "BLANK_HASH" p2] p3) (.Name "new_left_child" p4) (.Name "new_right_child" p5) p6) σ Q:=λ{env m σ Q p1 p2 p3 p4 p5 p6} h2 h3 hk hg hb hq=>by
  refine yJ<|aT<|aP (V:=.bytes nl) h2<|ph hX.g_BLANK hk hg hb<|oZ (kt (?_));refine az λkk=>?_;rcases wc with ⟨e1,e2,_⟩|⟨e1,e2,_⟩
  ·exact kk<|aaE e1<|bQ (c:=(blank !=blank)) (by decide)<|aP (V:=.bytes nr) h3 (by exact aaE e2<|hq)
  ·exact kk<|aaE e2<|dR (c:=(hs !=blank)) (qK.mpr Eu)<|aP (V:=.bytes nl) h2 (by exact aaE e2<|hq)
 have bit:∀{env:Env} {m:Mp} {σ:St} {Q:AP} {p1 p2 p3 p4 p5 p6:Pos},m "new_right_child"=some (.bytes nr)->env.kindOf "BLANK_HASH"=some .globalImplicit->env.kindOf "BYTE_0"=some .globalImplicit->env.kindOf "BYTE_1"=some .globalImplicit->env.globals=mainGlobals->env.builtins=builtinsNs->Q (.bytes fb) σ->
   Ev X A aC env m (.IfExp (.Compare (.Name "new_right_child" p1) [.NotEq] [.Name "BLANK_HASH" p2] p3) (.Name "BYTE_1" p4) (.Name "BYTE_0" p5) p6) σ Q:=λ{env m σ Q p1 p2 p3 p4 p5 p6} h3 hk ZF qg hg hb hq=>by
  refine yJ<|aT<|aP (V:=.bytes nr) h3<|ph hX.g_BLANK hk hg hb<|oZ (kt (?_));refine az λkk=>?_;rcases wc with ⟨e1,e2,e3⟩|⟨e1,e2,e3⟩
  ·exact kk<|aaE e2<|dR (c:=(hs !=blank)) (qK.mpr Eu)<|ph hX.g_B1 qg hg hb (by exact aaE (aq e3)<|hq)
  ·exact kk<|aaE e1<|bQ (c:=(blank !=blank)) (by decide)<|ph hX.g_B0 ZF hg hb (by exact aaE (aq e3)<|hq)
 refine aw<|bp<|EvB.mono (Q:=λb ab=>b=true/\ab=σ) ?_ ?_
 ·refine gE<|aT<|aP (V:=.bytes nl) h2<|eg hX.g_BLANK<|dU (kt (?_))
  refine az λkk=>?_;rcases wc with ⟨e1,e2,_⟩|⟨e1,e2,_⟩
  ·exact kk<|aaE e1<|dR (c:=(blank==blank)) (by decide)<|⟨rfl,rfl⟩
  ·refine kk<|aaE e2<|bQ (c:=(hs==blank)) (cR.mpr Eu)<|gE<|aT<|aP (V:=.bytes nr) h3<|eg hX.g_BLANK<|dU (kt (?_))
   exact aaE e1<|dR (c:=(blank==blank)) (by decide)<|⟨rfl,rfl⟩
 rintro _ _ ⟨rfl,rfl⟩;refine dR rfl ?_
 cases t2 with
 |leaf v1=>
  have gh:=ZE;refine aw<|bE<|aV<|eg hX.g_parse<|ak<|bz<|iL hX T.tri h1<|pick h2 h3 rfl rfl rfl<|fw T.tri.dbt DP<|aD ⟨jA hX.toBase,bc (so hX.toBase (by exact ly gh) hw.2 ?_) hA.mo⟩;refine eR hA.handled rfl rfl<|bG<|aQ<|bG<|aQ<|bG<|aQ<|eS<|aw<|bE<|bit h3 rfl rfl rfl rfl rfl<|aQ<|aw<|bp<|aT<|af (.int 2)<|eg hX.g_KV<|cu (kt (?_));refine aw<|bp<|aT<|af (.int 2)<|lW<|ak<|eg hX.g_BR<|ak<|eg hX.g_LEAF<|aD ⟨by exact aaE df<|fZ rfl,Bv (ns:=[1,2]) (kt (?_))⟩;refine aw<|cD<|je (he:=by rfl) hX (σ0:=σ0) h1 hA.mo T.tri<|aV<|eg hX.g_ekv<|ak<|af (.bytes fb)<|ak<|pick h2 h3 rfl rfl rfl<|aD ⟨nY hX,bc (n5 hX.toBase (by exact Jh fb1) fbb fb0 zI ⟨0,eT fb++hs,N,D,c,rfl,.inl rfl,n8 (by exact I7 fb1) zI,T,λeK N2 D2 h2 T2 u1 u2 e1 e2=>hQ _ _ _ _ _ T2 u1 u2 ⟨e1,e2⟩⟩) hA.mo⟩
 |br l2 r2=>
  refine cP (id hn) λhl hr a1 a2 a3=>?_;have C0:D.lookup hs=some (b9 hl hr):=by refine aaE DP ?_;show some (b9 (nm N l2) (nm N r2))=_;(exact aaE a1.nm<|aaE a2.nm rfl)
  refine aw<|bE<|aV<|eg hX.g_parse<|ak<|bz<|iL hX T.tri h1<|pick h2 h3 rfl rfl rfl<|fw T.tri.dbt C0<|aD ⟨jA hX.toBase,bc (qI hX.toBase (hN.len _ _ a1.ltx) (hN.len _ _ a2.ltx) ?_) hA.mo⟩;refine eR hA.handled rfl rfl<|bG<|aQ<|bG<|aQ<|bG<|aQ<|eS<|aw<|bE<|bit h3 rfl rfl rfl rfl rfl<|aQ<|aw<|bp<|aT<|af (.int 1)<|eg hX.g_KV<|cu (kt (?_));refine aw<|bp<|aT<|af (.int 1)<|lW<|ak<|eg hX.g_BR<|ak<|eg hX.g_LEAF<|aD ⟨by exact aaE df<|fZ rfl,Bv (ns:=[1,2]) (kt (?_))⟩;refine aw<|cD<|je (he:=by rfl) hX (σ0:=σ0) h1 hA.mo T.tri<|aV<|eg hX.g_ekv<|ak<|af (.bytes fb)<|ak<|pick h2 h3 rfl rfl rfl<|aD ⟨nY hX,bc (n5 hX.toBase (by exact Jh fb1) fbb fb0 zI ⟨0,eT fb++hs,N,D,c,rfl,.inl rfl,n8 (by exact I7 fb1) zI,T,λeK N2 D2 h2 T2 u1 u2 e1 e2=>hQ _ _ _ _ _ T2 u1 u2 ⟨e1,e2⟩⟩) hA.mo⟩
 |kv b1 t2=>
  refine ax (id hn) λh4 a1 a3=>?_;refine eE (id hw) λXQ vS qg n1 en1 xb=>?_;have Ew:=hN.len _ _ a1.ltx;have C0:D.lookup hs=some (bX b1 h4):=by refine aaE DP ?_;show some (bX b1 (nm N t2))=_;exact aaE a1.nm rfl
  refine aw<|bE<|aV<|eg hX.g_parse<|ak<|bz<|iL hX T.tri h1<|pick h2 h3 rfl rfl rfl<|fw T.tri.dbt C0<|aD ⟨jA hX.toBase,bc (qH hX.toBase (by exact ae (bB _ _) (ae (aK en1.symm) (ae bM (lb rfl)))) vS Ew ?_) hA.mo⟩;refine eR hA.handled rfl rfl<|bG<|aQ<|bG<|aQ<|bG<|aQ<|eS<|aw<|bE<|bit h3 rfl rfl rfl rfl rfl<|aQ<|aw<|bp<|aT<|af (.int 0)<|eg hX.g_KV<|cu (kt (?_));refine aw<|cD<|je (he:=by rfl) hX (σ0:=σ0) h1 hA.mo T.tri<|aV<|eg hX.g_ekv<|ak<|bK<|af (.bytes fb)<|af (.bytes b1)<|f5 (by exact ae (gC (aK fb1) (ae (bB _ _) (ae (aK en1.symm) bM))) (lb rfl))<|ak<|af (.bytes h4)<|aD ⟨nY hX,bc (n5 hX.toBase (by exact aaE cw<|(ae (gC (aK fb1) (ae (bB _ _) (ae (aK en1.symm) bM))) (lb rfl))) (mO fbb vS) (by simp[fb0]) Ew ⟨0,eT (fb++b1)++h4,N,D,c,rfl,.inl rfl,n8 (by exact aaE cw<|(ae (gC (aK fb1) (ae (bB _ _) (ae (aK en1.symm) bM))) (lb rfl))) Ew,T,λeK N2 D2 h2 T2 u1 u2 e1 e2=>hQ _ _ _ _ _ T2 u1 u2 ⟨h4,a1,e1,e2⟩⟩) hA.mo⟩
end
theorem Vp(ihl:∀n,ni X z a dx f d db r n l)(ihr:∀n,ni X z a dx f d db r n rr)(S:SPre n N D (.br l rr) h p v q)(kG:Named N l hl)(kH:Named N rr hr)(T:Stt z a dx f d db r σ0 σ N D (c+6*(n+1)))
  (hQ:∀V ab,SP z a dx f d db r σ0 n N D q (upd (.br l rr) p v) c V ab->Q V ab):CallOk X (19+2*n) (.ref 337) [.ref a,.bytes p,.int 1,.bytes hl,.bytes hr,.bytes v,.bool false] σ Q:=by
 obtain⟨eU,Ee,n',en,j1,j2,j3,j4,S',all⟩:=S.br;have:=kG.fn j1;subst this;have:=kH.fn j2;subst this;have hN:=T.ok.W.ok;refine dp (id S.wf) λmy ZG iI lE=>?_;have:my=n':=by exact Jz en ZG
 subst this;have bM:=S.n64;have kI:=S.vz;have bP:=S.len;refine CallOk.deep (k:=18+2*n+1) (Vo hX λcode pm dflt A L hA=>?_) (by exact Dt);refine aw<|bp<|aT<|vu (hd:=by rfl) (hc:=by rfl) (p:=p) rfl (by exact kB bM bP)<|eg hX.g_B0<|dU (iH (?_))
 by_cases hc:p.take 1=[0]
 ·refine dR (c:=(List.take 1 p==[0])) (cM.mpr hc) ?_
  rw[aA hc]at S';have eupd:upd (.br l rr) p v=(match upd l (p.drop 1) v with|some l'=>some (.br l' rr)|none=>some (mX [1] rr)):=aA hc;refine aw<|bE<|fT (af (.ref a)<|f6 hX T.tri (by simp[eY])<|ak<|af (.bytes hl)<|ak<|sR (hd:=by rfl) (hc:=by rfl) (p:=p) rfl (by exact kB bM bP)<|ak<|af (.bytes v)<|ak<|af (.bool false)<|aD ⟨hX.m__set.keep,bc (ihl my [.bool false] (σ0:=σ0) (c:=c+6) S' (T.less (by exact Jm en)) (.inr rfl) λV eX zp=>zp.rec λN1 D1 T1 s1 s2 hV=>?_) hA.mo⟩) (by rfl);have mD:=T1.ok.W.ok
  cases hu:upd l (p.drop 1) v with
  |some l'=>
   rw[hu]at hV eupd;refine ax hV λh1 bN ka=>?_;subst bN;have nm1:=(ka _ S'.len S'.bits S'.pre).named;refine aQ<|aw<|bE<|af (.bytes hr)<|aQ<|bw<|Hq hX (σ0:=σ0) (c:=c) hA.mo rfl rfl rfl (mD.blank _ _ nm1.ltx) (hN.blank _ _ kH.ltx) (mD.len _ _ nm1.ltx) (hN.len _ _ kH.ltx) (T1.less (by exact rn)) λeK N2 D2 h2 T2 u1 u2 e1 e2=>hQ _ _ ⟨N2,D2,T2,s1.trans u1,s2.trans u2,?_⟩;refine aaE eupd<|(aE h2 rfl (λp' c1 c2 c3=>(qP h1 hr (nm1.mono u1) ((kH.mono s1).mono u1) e1 e2 ?_)));have a1:=all p' c1 c2 c3
   split
   ·exact(ka _ (by exact aaE dE<|zi en c1) (kR c2 _) (mP _ c3)).mono u1 u2
   ·rename_i q';rw[ar q']at a1;exact(a1.mono s1 s2).mono u1 u2
  |none=>
   rw[hu]at hV eupd;subst hV;have hq:=xm λhq=>S'.some_ hq hu
   have kF:∀p':By,p'.take 1=[1]->p'.length=n->p'.take q.length=q:=λp' _ _=>by
    cases q with
    |nil=>rfl
    |cons y q1=>
     exfalso;rcases S.oth (by have:=l5 S'.wf S'.len S'.bits (v:=v);rw[hu]at this;exact this.1)with h0|⟨p2,b1,b2,b3,b4,b5⟩
     ·cases h0
     ·have:=l5 S'.wf S'.len S'.bits (v:=v)
      rw[hu]at this;obtain⟨_,mx⟩:=this;have e1:=S.pre
      cases p2 with
      |nil=>simp at b1;exact zm en b1
      |cons x2 p2=>
       cases p with
       |nil=>simp at bP;exact zm en bP
       |cons x p1=>
        simp only[cW,nN,nT]at b4 e1;have ui:x=0:=by simpa using hc
        have:x2=0:=by(exact aaE b4.1<|aaE (aq e1.1)<|aaE ui rfl)
        subst this;have lk:look (.br l rr) (0::p2)=look l p2:=by(exact aaE (g6 ..)<|aaE (aA rfl) rfl)
        rw[lk]at b5;refine b5 (mx p2 (by simp at b1;exact nB en b1) (λc hc=>b2 c (cj _ hc)) λe=>b3 ?_)
        (refine aaE e<|aaE ui ?_);rfl
   have sib:∀jr:By,jr.length=my->ck jr->K N1 D1 rr hr jr:=λjr c1 c2=>by
    have:=all (1::jr) (by simp;exact pU en c1) (pa (.inr rfl) c2) (kF _ rfl (by simp;exact pU en c1));rw[ar (by simp)]at this;exact this.mono s1 s2
   have nmr:=(kH.mono s1);refine aQ<|aw<|bE<|af (.bytes hr)<|aQ<|bw<|Hr hX (σ0:=σ0) (c:=c) hA.mo rfl rfl rfl (.inl (cA rfl rfl rfl)) nmr (HG (sib (List.replicate my 0) (by simp) (λc hc=>by simp at hc;exact .inl hc.2))) lE (by exact Jk en bM) S.short.2 (T1.less (by exact rn)) λm' eK N2 D2 h2 T2 u1 u2 hw=>hQ _ _ ⟨N2,D2,T2,s1.trans u1,s2.trans u2,?_⟩;exact aaE eupd<|(aE h2 rfl (λp' c1 c2 c3=>Cg u1 u2 (λe=>sib _ (by refine aaE dE ?_;simp;exact zi en c1) (kR c2 _)) nmr hw))
 ·refine bQ (c:=(List.take 1 p==[0])) (cR.mpr hc) ?_
  rw[ar hc]at S';have eupd:upd (.br l rr) p v=(match upd rr (p.drop 1) v with|some r'=>some (.br l r')|none=>some (mX [0] l)):=ar hc;refine aw<|bE<|fT (af (.ref a)<|f6 hX T.tri (by simp[eY])<|ak<|af (.bytes hr)<|ak<|sR (hd:=by rfl) (hc:=by rfl) (p:=p) rfl (by exact kB bM bP)<|ak<|af (.bytes v)<|ak<|af (.bool false)<|aD ⟨hX.m__set.keep,bc (ihr my [.bool false] (σ0:=σ0) (c:=c+6) S' (T.less (by exact Jm en)) (.inr rfl) λV eX zp=>zp.rec λN1 D1 T1 s1 s2 hV=>?_) hA.mo⟩) (by rfl);have mD:=T1.ok.W.ok
  cases hu:upd rr (p.drop 1) v with
  |some l'=>
   rw[hu]at hV eupd;refine ax hV λh1 cI ka=>?_;subst cI;have nm1:=(ka _ S'.len S'.bits S'.pre).named;refine aQ<|aw<|bE<|af (.bytes hl)<|aQ<|bw<|Hq hX (σ0:=σ0) (c:=c) hA.mo rfl rfl rfl (hN.blank _ _ kG.ltx) (mD.blank _ _ nm1.ltx) (hN.len _ _ kG.ltx) (mD.len _ _ nm1.ltx) (T1.less (by exact rn)) λeK N2 D2 h2 T2 u1 u2 e1 e2=>hQ _ _ ⟨N2,D2,T2,s1.trans u1,s2.trans u2,?_⟩;refine aaE eupd<|(aE h2 rfl (λp' c1 c2 c3=>(qP hl h1 ((kG.mono s1).mono u1) (nm1.mono u1) e1 e2 ?_)));have a1:=all p' c1 c2 c3
   split
   ·rename_i q';rw[aA q']at a1;exact(a1.mono s1 s2).mono u1 u2
   ·exact(ka _ (by exact aaE dE<|zi en c1) (kR c2 _) (mP _ c3)).mono u1 u2
  |none=>
   rw[hu]at hV eupd;refine aaE hV ?_
   have kF:∀p':By,p'.take 1=[0]->p'.length=n->p'.take q.length=q:=λp' _ _=>by
    cases q with
    |nil=>rfl
    |cons y q1=>
     exfalso;rcases S.oth (by have:=l5 S'.wf S'.len S'.bits (v:=v);rw[hu]at this;exact this.1)with h0|⟨p2,b1,b2,b3,b4,b5⟩
     ·cases h0
     ·have:=l5 S'.wf S'.len S'.bits (v:=v)
      rw[hu]at this;obtain⟨_,mx⟩:=this;have e1:=S.pre
      cases p2 with
      |nil=>simp at b1;exact zm en b1
      |cons x2 p2=>
       cases p with
       |nil=>simp at bP;exact zm en bP
       |cons x p1=>
        simp only[cW,nN,nT]at b4 e1;have ui:x≠0:=by simpa using hc
        have ZH:x2=x:=by(exact aaE b4.1<|aaE (aq e1.1) rfl)
        clear bP hc eupd hu S hQ S' e1;subst ZH;have lk:look (.br l rr) (x2::p2)=look rr p2:=by(exact aaE (g6 ..)<|aaE (ar ui) rfl)
        rw[lk]at b5;refine b5 (mx p2 (by simp at b1;exact nB en b1) (λc hc=>b2 c (cj _ hc)) λe=>b3 ?_);refine aaE e ?_;rfl
   have sib:∀jr:By,jr.length=my->ck jr->K N1 D1 l hl jr:=λjr c1 c2=>by
    have:=all (0::jr) (by simp;exact pU en c1) (pa (.inl rfl) c2) (kF _ rfl (by simp;exact pU en c1));rw[aA (by rfl)]at this;exact this.mono s1 s2
   have nmr:=(kG.mono s1);refine aQ<|aw<|bE<|af (.bytes hl)<|aQ<|bw<|Hr hX (σ0:=σ0) (c:=c) hA.mo rfl rfl rfl (.inr (cA rfl rfl rfl)) nmr (HG (sib (List.replicate my 0) (by simp) (λc hc=>by simp at hc;exact .inl hc.2))) iI (by exact Jk en bM) S.short.1 (T1.less (by exact rn)) λm' eK N2 D2 h2 T2 u1 u2 hw=>hQ _ _ ⟨N2,D2,T2,s1.trans u1,s2.trans u2,?_⟩;exact aaE eupd<|(aE h2 rfl (λp' c1 c2 c3=>Cg u1 u2 (λe=>sib _ (by refine aaE dE ?_;simp;exact zi en c1) (kR c2 _)) nmr hw))
end
section
variable {X:Cx} {σ:St} {z:Nat} {a dx f d db:Addr} {r:By} (hX:Base5 X)
include hX
theorem RR(ih:∀n,ni X z a dx f d db r n t):ni X z a dx f d db r n (.kv b t):=λ{p v q σ0 σ N D h c Q} al S T iZ hQ=>by
 refine kX S.k λh' j1 j2 j3 x=>?_;have hN:=T.ok.W.ok;refine eE (id S.wf) λhb cz hk n' en iw=>?_;have kD:1<=b.length:=by clear S hQ j2 j3 cz en;cases b with|nil=>exact absurd rfl hb|cons _ _=>simp
 have bM:=S.n64;have bP:=S.len;have dk:=cR.mpr (hN.blank _ _ j2);refine CallOk.deep (k:=19+2*n+1) (Ci hX iZ λcode pm dflt A L hA=>?_) (by exact I9);refine aw<|bp<|aT<|af (.bytes h)<|eg hX.g_BLANK<|dU (kt (?_));refine bQ dk<|bw<|aw<|bE<|aV<|eg hX.g_parse<|ak<|bz<|iL hX T.tri rfl<|af (.bytes h)<|fw T.tri.dbt j3<|aD ⟨jA hX.toBase,bc (qH hX.toBase (by exact Ct en bM) cz (hN.len _ _ j1.ltx) ?_) hA.mo⟩;refine eR hA.handled rfl rfl<|bG<|aQ<|bG<|aQ<|bG<|aQ<|eS<|aw<|bp<|aT<|af (.int 0)<|eg hX.g_LEAF<|cu (kt (?_));refine aw<|bp<|aT<|af (.int 0)<|eg hX.g_KV<|cu (kt (?_));refine aw<|bp<|lY<|gp (af (.bytes p)<|jv (by exact pV bM bP) ?_) (by rfl);refine bQ (c:=(!!p.isEmpty)) (by clear S hQ;cases p with|nil=>(simp at bP;exact(Cs bP en kD).elim)|cons _ _=>rfl) ?_
 have Wj:CallOk X (19+2*n) (.ref 329) [.ref a,.bytes p,.bytes h,.int 0,.bytes b,.bytes h',.bytes v,.bool false] σ Q:=by
  by_cases hm:p.take b.length=b
  ·exact Q1 hX ih S hm j1 T hQ
  ·exact Q2 hX S hm j1 T hQ
 exact bw<|aw<|cD<|fT (af (.ref a)<|f6 hX T.tri (by simp[eY])<|ak<|af (.bytes p)<|ak<|af (.bytes h)<|ak<|af (.int 0)<|ak<|af (.bytes b)<|ak<|af (.bytes h')<|ak<|af (.bytes v)<|ak<|af (.bool false)<|aD ⟨hX.m_kv.keep,bc Wj hA⟩) (by rfl)
theorem RS(ihl:∀n,ni X z a dx f d db r n l)(ihr:∀n,ni X z a dx f d db r n rr):ni X z a dx f d db r n (.br l rr):=λ{p v q σ0 σ N D h c Q} al S T iZ hQ=>by
 refine pf S.k λhl hr j1 j2 j3 j4 x=>?_;have hN:=T.ok.W.ok;refine dp (id S.wf) λn' en iI lE=>?_;have bM:=S.n64;have bP:=S.len;have dk:=cR.mpr (hN.blank _ _ j3);refine CallOk.deep (k:=19+2*n+1) (Ci hX iZ λcode pm dflt A L hA=>?_) (by exact I9);refine aw<|bp<|aT<|af (.bytes h)<|eg hX.g_BLANK<|dU (kt (?_));refine bQ dk<|bw<|aw<|bE<|aV<|eg hX.g_parse<|ak<|bz<|iL hX T.tri rfl<|af (.bytes h)<|fw T.tri.dbt j4<|aD ⟨jA hX.toBase,bc (qI hX.toBase (hN.len _ _ j1.ltx) (hN.len _ _ j2.ltx) ?_) hA.mo⟩;refine eR hA.handled rfl rfl<|bG<|aQ<|bG<|aQ<|bG<|aQ<|eS<|aw<|bp<|aT<|af (.int 1)<|eg hX.g_LEAF<|cu (kt (?_));refine aw<|bp<|aT<|af (.int 1)<|eg hX.g_KV<|cu (kt (?_));refine aw<|bp<|aT<|af (.int 1)<|eg hX.g_BR<|cu (kt (?_));refine aw<|bp<|lY<|gp (af (.bytes p)<|jv (by exact pV bM bP) ?_) (by rfl);refine bQ (c:=(!!p.isEmpty)) (by clear S hQ;cases p with|nil=>(simp at bP;exact z1 bP en)|cons _ _=>rfl) ?_;exact bw<|aw<|cD<|fT (af (.ref a)<|f6 hX T.tri (by simp[eY])<|ak<|af (.bytes p)<|ak<|af (.int 1)<|ak<|af (.bytes hl)<|ak<|af (.bytes hr)<|ak<|af (.bytes v)<|ak<|af (.bool false)<|aD ⟨hX.m_br.keep,bc (Vp hX ihl ihr S j1 j2 T hQ) hA⟩) (by rfl)
theorem vF:∀(t:T) (n:Nat),ni X z a dx f d db r n t
 |.leaf v,n=>Qn hX
 |.kv b t,n=>RR hX (λn=>vF t n)
 |.br l rr,n=>RS hX (λn=>vF l n) (λn=>vF rr n)
theorem Tri.root(T:Tri z σ a dx f d db r N D)(I:Inst σ a dx l)(i1:l.length<=z)(i2:l.lookup ("db":Str)=some (.ref db))(i3:l.lookup ("hash_of":Str)=some (.ref f))(i5:∀p∈eY,l.lookup p.1=none):
  Tri (z+1) (σ.set dx (.ns (("root_hash",.bytes r')::l))) a dx f d db r' N D:=by
 refine az λkk=>?_
 have hx:∀{x:Addr} {tr:Trk},σ x=some tr->(∀l,tr≠.ns l)->(σ.set dx (.ns (("root_hash",.bytes r')::l))) x=some tr:=λ{x tr} h1 h2=>by
  unfold St.set;rw[ar]
  ·exact h1
  ·intro e;rw[e,I.ns]at h1;obtain rfl:=bq h1;exact h2 _ rfl
 obtain⟨⟨o,c,co,cc,oc,code,pm,ct,doc,vs,t,e1,e2,e3,e4,e5,e6,e7,e8⟩,hd,d1⟩:=T.nm;refine kk<|⟨(vm _ ⟨hx I.obj (λy q=>by cases q),by unfold St.set;exact aaE (aA rfl) rfl⟩ (by simp;exact i1) ?_ ?_ ?_ (λp hp=>?_)),⟨⟨o,c,co,cc,oc,code,pm,ct,doc,vs,t,hx e1 (λy q=>by cases q),e2,hx e3 (λy q=>by cases q),e4,e5,hx e6 (λy q=>by cases q),e7,e8⟩,hx hd (λy q=>by cases q),d1⟩,hx T.dbt (λy q=>by cases q),T.db1,T.ne⟩
 ·(refine aaE cL<|aaE (show(("db":Str)==("root_hash":Str))=false from by decide) ?_);exact i2
 ·(refine aaE cL<|aaE (show(("hash_of":Str)==("root_hash":Str))=false from by decide) ?_);exact i3
 ·refine aaE cL ?_;simp
 ·refine aaE cL ?_
  have:(p.1==("root_hash":Str))=false:=by
   revert p;decide
  exact aaE this<|i5 p hp
end
theorem kS(x:By):ck (bu x):=λc hc=>by
 refine ax (cb.mp hc) λb y bh=>?_;subst bh;clear hc;cases b
 ·exact .inl rfl
 ·exact .inr rfl
theorem kT(x:By):(bu x).length=8*x.length:=by unfold bu;(exact aaE (dF ..)<|aaE (uV ..) rfl)
section
variable {X:Cx} {σ:St} {z:Nat} {a dx f d db:Addr} {r:By} (hX:Base5 X)
include hX
theorem sJ:cQ X σ (.ref 200):=by refine bk hX.f_vib λx x F'=>?_;exact F'.keep
theorem BG:cQ X σ (.ref 172):=by refine bk hX.f_etb λx x F'=>?_;exact F'.keep
structure Deed(z:Nat)(a dx f d db:Addr)(nn:Nat)(N D:BD)(q:By)(t':T)(c:Nat)(σ ab:St)(r':By)(N' D':BD):Prop where
 tri:Tri (z+1) ab a dx f d db r' N' D'
 ok:SOk N' D'
 n:N'.length+c<=60000
 m:D'.length+c<=60000
 sn:BD.Sub N N'
 sd:BD.Sub D D'
 ka:KA nn N' D' t' r' q
 only:Only σ ab [d,db,dx]
theorem Hs{n:Nat}{N D:BD}{q:By}{t':T}{c:Nat}{eX:St}{N' D':BD}{r':By}{Q:St->Prop}(T1:Stt z a dx f d db r σ eX N' D' c)(s1:BD.Sub N N')(s2:BD.Sub D D')(ka:KA n N' D' t' r' q)
  (hQ:∀ab N' D' r',Deed z a dx f d db n N D q t' c σ ab r' N' D'->Q ab):∃l,Inst eX a dx l/\l.length<=z/\Q (eX.set dx (.ns (("root_hash",.bytes r')::l))):=by
 refine az λkk=>?_;refine sO T1.tri.i λl I i1 i2 i3 i4 i5=>?_;refine kk<|(dh l I i1 (hQ _ N' D' r' ⟨Tri.root hX T1.tri I i1 i2 i3 i5,T1.ok,T1.n,T1.m,s1,s2,ka,λb hb=>?_⟩));simp only[dm,mG,mR,not_or]at hb;unfold St.set;exact aaE (ar hb.2.2)<|T1.only b (by simp[hb.1,hb.2.1])
theorem RT{x v q:By}{n:Nat}{t t':T}{N D:BD}{c:Nat}{Q:AP}(hx:x.length<=8)(S:SPre n N D t r (bu x) v q)(T:Stt z a dx f d db r σ σ N D (c+6*(n+1)))(hz:z<=40)(hu:upd t (bu x) v=some t')
  (hQ:∀ab N' D' r',Deed z a dx f d db n N D q t' c σ ab r' N' D'->Q .none ab):CallOk X (22+2*n) (.ref 313) [.ref a,.bytes x,.bytes v] σ Q:=by
 refine bk hX.m_set λcode pm F=>?_;refine CallOk.deep (dQ (k:=20+2*n) F ["self","key","value"] (c7 ["self","key","value"] λvs hv=>?_) rfl λA L hA=>?_) (JG)
 ·(apply ko hv;intro v w u;rfl)
 refine aw<|gD<|aV<|eg hX.g_vib<|ak<|af (.bytes x)<|aD ⟨sJ hX,bc (kc hX.toBase ?_) hA.mo⟩;refine aw<|gD<|aV<|eg hX.g_vib<|ak<|af (.bytes v)<|aD ⟨sJ hX,bc (kc hX.toBase ?_) hA.mo⟩;refine aw<|bE<|fT (af (.ref a)<|f6 hX T.tri (by simp[eY])<|ak<|x6 hX T.tri rfl<|ak<|aV<|eg hX.g_etb<|ak<|af (.bytes x)<|aD ⟨BG hX,bc (s7 hX.toBase (I5 hx)<|ak<|af (.bytes v)<|aD ⟨hX.m__set.keep,bc (vF hX t n [] S T (.inl rfl) λV eX zp=>zp.rec λN1 D1 T1 s1 s2 hV=>?_) hA⟩) hA.mo⟩) (by rfl);refine az λkk=>?_;rw[hu]at hV;refine ax hV λr' bN ka=>?_;clear hV;clear zp;subst bN;refine dp (Hs hX T1 s1 s2 ka hQ) λl I i1 q'=>?_;exact kk<|vC (hd:=by rfl) (hc:=by rfl) hX.toBase4 I rfl (by simp[atts]) (Jw hz i1) (bw q')
theorem Pu{x q:By}{n:Nat}{t t':T}{N D:BD}{c:Nat}{Q:AP}(hx:x.length<=8)(S:SPre n N D t r (bu x) [] q)(T:Stt z a dx f d db r σ σ N D (c+6*(n+1)))(hz:z<=40)(hu:upd t (bu x) []=some t')
  (hQ:∀ab N' D' r',Deed z a dx f d db n N D q t' c σ ab r' N' D'->Q .none ab):CallOk X (22+2*n) (.ref 351) [.ref a,.bytes x] σ Q:=by
 refine bk hX.m_delete λcode pm F=>?_;refine CallOk.deep (dQ (k:=20+2*n) F ["self","key"] (c7 ["self","key"] λvs hv=>?_) rfl λA L hA=>?_) (JG)
 ·(apply gG hv;intro v w;rfl)
 refine aw<|gD<|aV<|eg hX.g_vib<|ak<|af (.bytes x)<|aD ⟨sJ hX,bc (kc hX.toBase ?_) hA.mo⟩;refine aw<|bE<|fT (af (.ref a)<|f6 hX T.tri (by simp[eY])<|ak<|x6 hX T.tri rfl<|ak<|aV<|eg hX.g_etb<|ak<|af (.bytes x)<|aD ⟨BG hX,bc (s7 hX.toBase (I5 hx)<|ak<|ig<|aD ⟨hX.m__set.keep,bc (vF hX t n [] S T (.inl rfl) λV eX zp=>zp.rec λN1 D1 T1 s1 s2 hV=>?_) hA⟩) hA.mo⟩) (by rfl);refine az λkk=>?_;rw[hu]at hV;refine ax hV λr' cI ka=>?_;clear hV;clear zp;subst cI;refine dp (Hs hX T1 s1 s2 ka hQ) λl I i1 q'=>?_;exact kk<|vC (hd:=by rfl) (hc:=by rfl) hX.toBase4 I rfl (by simp[atts]) (Jw hz i1) (bw q')
theorem Pw(T0:Tri z σ a dx f d db r N D)(hN:NmOk N)(hD:nE N D)(hw:WF n t)(hn:n<=64)(hs:fA t)(hp:8*x.length<=n)(hh:Named N t r)(hg:dq N D t (bu x)=some o)(hq:Q (.bool o.isSome) σ):CallOk X (22+n) (.ref 344) [.ref a,.bytes x] σ Q:=by
 refine bk hX.m_exists λcode pm F=>?_;refine CallOk.deep (dQ (k:=21+n) F ["self","key"] (c7 ["self","key"] λvs hv=>?_) rfl λA L hA=>?_) (JE)
 ·(apply gG hv;intro v w;rfl)
 refine aw<|gD<|aV<|eg hX.g_vib<|ak<|af (.bytes x)<|aD ⟨sJ hX,bc (kc hX.toBase ?_) hA.mo⟩;refine aw<|cD<|yK<|fT (af (.ref a)<|f6 hX T0 (by simp[eY])<|ak<|af (.bytes x)<|aD ⟨hX.m_get.keep,bc (HE hX T0 hN hD hw hn hs hp hh hg<|jd<|Nk ?_) hA⟩) (by rfl);refine aaE (show(!(fW o).isNone)=o.isSome from by clear hg hq;cases o<;>rfl) ?_;exact hq
theorem Q5(I:Inst σ a dx [])(hQ:∀ab,(∀b,b≠dx->ab b=σ b)->ab dx=some (.ns [("root_hash",.bytes r),("hash_of",.ref f),("db",.ref db)])->Q .none ab):CallOk X 2 (.ref 292) [.ref a,.ref db,.ref f,.bytes r] σ Q:=by
 refine az λkk=>?_;obtain⟨T,o,v,n,c5,hT,hs⟩:=hX.m_init;obtain⟨code,pm,F⟩:=c5;refine kk<|dQ (k:=1) (l':=[.ref a,.ref db,.ref f,.bytes r]) F ["self","db","hash_of","root_hash"] (vb _ rfl hT hs λvs hv=>?_) rfl λA L hA=>?_
 ·(apply Dw hv;intro v1 v2 v3 v4;exact(cy _ ([v1,v2,v3,v4]) rfl rfl (λg r=>r)))
 have step:∀{σ:St} {l:List (Str×AV)} {y:Str} {V:AV},Inst σ a dx l->Inst (σ.set dx (.ns ((y,V)::l))) a dx ((y,V)::l):=λ{σ l y V} I=>⟨by unfold St.set;exact aaE (ar I.ne)<|I.obj,by unfold St.set;exact aaE (aA rfl) rfl⟩;refine aw<|bE<|af (.ref db)<|vC (hd:=by rfl) (hc:=by rfl) hX.toBase4 I rfl (by simp[atts]) (by simp)<|aw<|bE<|af (.ref f)<|vC (hd:=by rfl) (hc:=by rfl) hX.toBase4 (step I) rfl (by simp[atts]) (by simp)<|aw<|gD<|aV<|eg hX.g_vib<|ak<|af (.bytes r)<|aD ⟨sJ hX,bc (kc hX.toBase ?_) hA.mo⟩;refine aw<|bE<|af (.bytes r)<|vC (hd:=by rfl) (hc:=by rfl) hX.toBase4 (step (step I)) rfl (by simp[atts]) (by simp)<|bw<|hQ _ (λb hb=>?_) (by unfold St.set;exact aaE (aA rfl) rfl);unfold St.set;(exact aaE (ar hb)<|aaE (ar hb)<|aaE (ar hb) rfl)
theorem Q4:cQ X σ (.ref 404):=by
 refine ax hX.cls λK hK C=>?_;exact .inr (aE K hK C.keep)
theorem Q3(hA:Room A 3)(nmf:NmF σ f d N)(gj:σ db=some (.dict D))(db1:db≠1)(ne:db≠d)
  (hQ:∀a dx ab,σ a=none->σ dx=none->(∀b,b≠a->b≠dx->ab b=σ b)->Tri 3 ab a dx f d db r N D->Q (.ref a) ab):fy X A aC (.ref 404) [.ref db,.ref f,.bytes r] σ Q:=by
 refine Pt hX.toBase4 hA λa dx ha Mo bR=>?_;have I:Inst ((σ.set dx (.ns [])).set a (.obj (instObj 404 dx))) a dx []:=⟨by unfold St.set;exact aaE (aA rfl) rfl,by unfold St.set;(exact aaE (ar bR.symm)<|aaE (aA rfl) rfl)⟩;refine Q5 hX I λab h1 h2=>⟨rfl,?_⟩;refine az λkk=>?_
 have old:∀b,b≠a->b≠dx->ab b=σ b:=λb e1 e2=>by
  refine aaE (h1 b e2) ?_;unfold St.set;(exact aaE (ar e1)<|aaE (ar e2) rfl)
 have kp:∀{x:Addr} {tr:Trk},σ x=some tr->ab x=some tr:=λ{x tr} h=>by
  refine aaE (old x (λe=>by rw[e,ha]at h;exact be h) (λe=>by rw[e,Mo]at h;exact be h)) ?_;exact h
 obtain⟨⟨o,c,co,cc,oc,code,pm,ct,doc,vs,t,e1,e2,e3,e4,e5,e6,e7,e8⟩,hd,d1⟩:=nmf;refine kk<|hQ a dx ab ha Mo old ⟨(vm _ ⟨?_,h2⟩ (bC _) rfl rfl rfl (λp hp=>?_)),⟨⟨o,c,co,cc,oc,code,pm,ct,doc,vs,t,kp e1,e2,kp e3,e4,e5,kp e6,e7,e8⟩,kp hd,d1⟩,kp gj,db1,ne⟩
 ·exact aaE (h1 a bR)<|I.obj
 ·have hs:p.1≠("root_hash":Str)/\p.1≠("hash_of":Str)/\p.1≠("db":Str):=by revert p;decide
  (refine aaE cL<|aaE (show(p.1==("root_hash":Str))=false from cR.mpr hs.1)<|aaE cL<|aaE (show(p.1==("hash_of":Str))=false from cR.mpr hs.2.1)<|aaE cL<|aaE (show(p.1==("db":Str))=false from cR.mpr hs.2.2) ?_)
  rfl
end
theorem Go.extOn(S:Sat X g σ s)(I:Addr->Prop)(hI:∀a,I a->Free X g σ a)(k:∀a o,s.heap.get? a=some o->¬I a->s'.heap.get? a=some o)
  (kf:∀a o,s.heap.get? a=some o->I a->P.a a∨KeptAs o (s'.heap.get? a))(f9:s'.os=s.os)(hg:s'.gens=s.gens):Go X P g σ s g σ s':=by
 have tk:∀{a t},TrkAt X.w g s.heap a t->¬I a->TrkAt X.w g s'.heap a t:=λ{a t} x dK=>by
  cases t with
  |dict l=>refine ax x λkvs d r=>?_;exact(aE kvs (d.at λo e=>k a o e dK) r)
  |ns l=>refine ax x λm d r=>?_;exact(aE m (d.at λo e=>k a o e dK) r)
  |obj o=>exact k a o x dK
 have gI:∀a o,g a=some o->¬I a:=λa o e q=>by rw[(hI a q).1]at e;exact be e
 refine⟨⟨S.le,λa o e=>k a o (S.in_ a o e) (gI a o e),λa t e=>⟨(S.trk a t e).1,tk (S.trk a t e).2 λq=>?_⟩,λp hp=>?_⟩,.refl g,λy y y y=>rfl,λy y y y=>kb,
  f9,λa o e hp=>?_,λa o e h1 h2 hp=>?_,λp hp o vs e hd=>⟨#[],?_⟩,by exact aaE hg<|bC _,λi x e y=>by exact aaE hg<|e,λi x e=>.inl (by rw[hg]at e;exact e)⟩
 ·rw[(hI a q).2.1]at e;exact be e
 ·refine az λkk=>?_
  refine iE (S.tab p hp) λe1 e2 e3 ps e4=>?_;refine kk<|(mT e1 e2 e3 ps (qT e4 (λo e=>k _ o e ?_) (λo e=>k _ o e λq=>(hI _ q).2.2 p hp rfl)))
  cases q:g p.1 with
  |none=>exact absurd q e3
  |some o=>exact gI _ o q
 ·refine az λkk=>?_
  by_cases q:I a
  ·rcases kf a o e q with h|h
   ·exact kk<|absurd h hp
   ·rcases h with h|⟨_,sl,h⟩
    ·exact kk<|⟨_,h⟩
    ·exact kk<|⟨_,h⟩
  ·exact kk<|⟨o,k a o e q⟩
 ·refine az λkk=>?_
  by_cases q:I a
  ·rcases kf a o e q with h|h
   ·exact kk<|absurd h hp
   ·exact kk<|h
  ·exact kk<|.inl (k a o e q)
 ·refine aaE (k _ _ e λq=>(hI _ q).2.2 p hp rfl) ?_;congr 1;obtain⟨c,d,dt,sl⟩:=o;clear e;refine aaE (aq hd) ?_;simp
def FrOk(X:Cx)(l:List Env)(g:View)(σ:St)(h:Heap):Prop:=∀env∈l,env.scope.kind=.function/\∃L o es ep,env.frame=some L/\h.get? L=some o/\o.data=.dict es ep/\Free X g σ L
def tI(l:List Env)(N:Addr):Prop:=∀env∈l,∀L,env.frame=some L->L<N
theorem FrOk.go(F:FrOk X l g σ s.heap)(G:Go X P g σ s g' ab s')(hp:∀env∈l,∀L,env.frame=some L->¬P.a L):FrOk X l g' ab s'.heap:=λenv he=>by
 refine az λkk=>?_;refine su (F env he) λh1 L o es ep h2 h3 h4 h5=>?_;refine kk<|(q9 h1 L ?_);refine az λkk=>?_;have nP:=hp env he L h2;rcases G.run.keep L o h3 h5.2.1 h5.2.2 nP with q|⟨_,sl,q⟩
 ·exact kk<|(gZ o es ep h2 q h4 (h5.go G h3 nP))
 ·exact kk<|(gZ _ es ep h2 q h4 (h5.go G h3 nP))
theorem FrOk.lt{X:Cx}{l:List Env}{g:View}{σ:St}{s:Shared}(F:FrOk X l g σ s.heap):tI l s.heap.objs.size:=λenv he L hL=>by
 refine az λkk=>?_;refine su (F env he) λh1 L' o es ep h2 h3 h4 h5=>?_;refine kk ?_;rw[hL]at h2;(first|exact be h2|exact bZ h2|exact gy h2|exact gN h2|(clear h5;refine aaE (bq h2) ?_)|subst h2|cases h2);exact cC h3
theorem FrOk.cons(F:FrOk X l g σ s.heap)(Fr:Frm X env m g σ s)(hf:env.frame=some env.locals):FrOk X (env::l) g σ s.heap:=λe he=>by
 refine az λkk=>?_;rcases dm.mp he with rfl|he
 ·refine ax Fr.ns λmC aR x=>?_;obtain⟨o,es,ep,ho,hd,_⟩:=aR
  exact kk<|⟨Fr.kind,_,o,es,ep,hf,ho,hd,Fr.free⟩
 ·exact kk<|F e he
def ExcIn(X:Cx)(g:View)(σ:St)(h:Heap)(e:Addr)(t:Option Addr):Prop:=
 ∃oe vs a0,h.get? e=some oe/\oe.cls=.type "KeyError"/\oe.data=.fields vs/\vs[0]?=some a0/\match t with
  |none=>vs[1]?=some .none
  |some T=>vs[1]?=some (.ref T)/\T≠e/\Free X g σ T/\∃oT ts,h.get? T=some oT/\oT.data=.fields ts/\ts[3]?=some .none
noncomputable def hid(l:List Env)(e:Addr)(t:Option Addr):List Addr:=l.filterMap (·.frame)++(e::t.toList)
noncomputable def zU(e:Addr)(t:Option Addr):Pv:=⟨λa=>a=e∨t=some a,λx=>False⟩
theorem Cj(S:Sat X g σ s)(F:FrOk X l g σ s.heap)(fe:Free X g σ e)(ft:∀T,t=some T->Free X g σ T)
  (k:(hideAll s.heap (hid l e t)).StaysIn s'.heap)(u:s.heap.UpToSlots s'.heap)(f9:s'.os=s.os)(hg:s'.gens=s.gens):Go X (zU e t) g σ s g σ s':=by
 have fr:∀a,a∈l.filterMap (·.frame)->Free X g σ a/\∀o,s.heap.get? a=some o->∃es ep,o.data=.dict es ep:=λa ha=>by
  refine az λkk=>?_;refine ax (xr.mp ha) λenv he hf=>?_;refine su (F env he) λx L o es ep h2 h3 h4 h5=>?_;refine kk ?_;rw[hf]at h2;(refine aaE (bq h2) ?_);exact⟨h5,λo' q=>by rw[h3]at q;obtain rfl:=bq q;exact(cX es ep h4)⟩
 refine Go.extOn S (λa=>a∈hid l e t) (λa ha=>?_) (λa o ho hn=>k a o (hideAll_get _ ho hn)) (λa o ho ha=>?_) f9 hg
 ·refine az λkk=>?_
  rcases jw.mp ha with h|h
  ·exact kk<|(fr a h).1
  ·clear k ha;rcases dm.mp h with rfl|h
   ·exact kk<|fe
   ·exact kk<|ft a (by simpa using h)
 ·refine az λkk=>?_
  rcases jw.mp ha with h|h
  ·refine bk ((fr a h).2 o ho) λes ep hd=>?_
   obtain⟨sl,q⟩:=u a o ho λvs q=>by rw[hd]at q;cases q
   exact kk<|.inr (.inr (q9 (cX es ep hd) sl q))
  ·clear fe k ha;rcases dm.mp h with rfl|h
   ·exact kk<|.inl (.inl rfl)
   ·exact kk<|.inl (.inr (by simpa using h))
theorem Bx:∀{l:List Env},FrOk X l g σ h->(∀a∈l.filterMap (·.frame),base.get? a=none)->h.FunFrames base l
 |[],_,_=>trivial
 |env::l,F,hb=>by
  refine az λkk=>?_;refine su (F env (cV)) λh1 L o es ep h2 h3 h4 h5=>?_;refine kk<|(cA (by refine aaE h1 ?_;simp) (lX L o h2 (hb L (xr.mpr (aE env cV h2))) h3 (λvs q=>by rw[h4]at q;cases q)) (Bx (λe he=>F e (cj _ he)) λa ha=>hb a ?_));refine ax (xr.mp ha) λe he hf=>?_;exact xr.mpr (aE e (cj _ he) hf)
theorem RU{X:Cx}{l:List Env}{g:View}{σ:St}{s s':Shared}{e:Addr}{t:Option Addr}{a0:Value}(S:Sat X g σ s)(F:FrOk X l g σ s.heap)(ft:∀T,t=some T->Free X g σ T)(u:s.heap.UpToSlots s'.heap)
  (x:s'.heap.TracedW (hideAll s.heap (hid l e t)) e (.type "KeyError") a0):∃T',ExcIn X g σ s'.heap e (some T')/\(s.heap.get? T'=none∨t=some T'):=by
 refine az λkk=>?_;obtain⟨oe,vs,T',oT,ts,h1,ba,h4,h5,h6,h7,h8,bh⟩:=x;obtain⟨h2,h3⟩:=ba;obtain⟨h9,wO⟩:=bh
 have nf:T' ∉ l.filterMap (·.frame):=λha=>by
  refine az λkk=>?_;refine ax (xr.mp ha) λenv he hf=>?_;refine su (F env he) λy L o es ep q2 q3 q4 q5=>?_;refine kk ?_;rw[hf]at q2;(first|exact be q2|exact bZ q2|exact gy q2|exact gN q2|(clear q5;obtain rfl:=bq q2)|subst q2|cases q2);obtain⟨sl,q⟩:=u T' o q3 λvs q=>by rw[q4]at q;cases q
  rw[h8]at q;(first|exact be q|exact bZ q|exact gy q|exact gN q|(clear h8;obtain rfl:=bq q)|subst q|cases q);rw[q4]at h9;cases h9
 have cases_:s.heap.get? T'=none∨t=some T':=by
  cases q:s.heap.get? T' with
  |none=>exact .inl rfl
  |some o=>
   right
   by_cases hm:T'∈hid l e t
   ·rcases jw.mp hm with h|h
    ·exact absurd h nf
    ·clear kk h1 h6 hm;rcases dm.mp h with rfl|h
     ·exact absurd rfl h7
     ·simpa using h
   ·rw[hideAll_get _ q hm]at h6;exact bZ h6
 refine kk<|(aE T' ⟨oe,vs,a0,h1,h2,h4,h3,h5,h7,?_,oT,ts,h8,h9,wO⟩ cases_);refine az λkk=>?_;rcases cases_ with q|q
 ·refine kk<|(cA (View.none_of S.in_ q) ?_ (λp hp r=>?_))
  ·cases w:σ T' with
   |none=>rfl
   |some tr=>obtain⟨o,r⟩:=(S.trk T' tr w).2.at;rw[q]at r;exact be r
  ·refine az λkk=>?_
   refine iE (S.tab p hp) λy y y ps e4=>?_;refine ax (vf e4) λo r' y=>?_;refine kk ?_;rw[r,q]at r';exact be r'
 ·exact kk<|ft T' q
theorem ExcIn.base{X:Cx}{g:View}{σ:St}{s:Shared}{e:Addr}{T:Addr}{l:List Env}(x:ExcIn X g σ s.heap e (some T)):∃a0,s.heap.TracedW (hideAll s.heap (hid l e (some T))) e (.type "KeyError") a0:=by
 refine az λkk=>?_;obtain⟨oe,vs,a0,h1,h2,h3,h4,h5,h6,h7,oT,ts,bN⟩:=x;obtain⟨h8,h9,wO⟩:=bN;exact kk<|⟨a0,oe,vs,T,oT,ts,h1,⟨h2,h4⟩,h3,h5,xP _ (by simp[hid]),h6,h8,h9,wO⟩
theorem x7(h:Heap)(l:List Addr):(hideAll h l).StaysIn h:=λb o q=>of_hideAll _ q
section
variable {X:Cx} {A:Around} {env:Env} {outer:List Env} {g:View} {σ:St} {s:Shared} {e:Addr} {t:Option Addr} {E:Value->Shared->Prop}
theorem Qo{Q:Unit->Shared->Prop}(bH:A.frames=some (env::outer))(hf:env.frame=some env.locals)(S:Sat X g σ s)(F:FrOk X (env::outer) g σ s.heap)(fe:Free X g σ e)(x:ExcIn X g σ s.heap e t)
  (h:∀h' T',Go X (zU e t) g σ s g σ {s with heap:=h'}->ExcIn X g σ h' e (some T')->(s.heap.get? T'=none∨t=some T')->Q () {s with heap:=h'}):wpAny (model P0 X.w) A (leaving env (.ref e)) Q E s:=by
 have ft:∀T,t=some T->Free X g σ T:=λT q=>by clear h;subst q;obtain⟨_,_,_,_,_,_,_,_,_,f,_⟩:=x;exact f
 have ff:s.heap.FunFrames (hideAll s.heap (hid (env::outer) e t)) (env::outer):=Bx F λa ha=>xP _ (r7 _ ha);have en:(hideAll s.heap (hid (env::outer) e t)).get? e=none:=xP _ (by simp[hid])
 have fin:∀{cls a0 h'},cls=.type "KeyError"->Heap.LeftW (hideAll s.heap (hid (env::outer) e t)) (env::outer) e cls a0 s.heap h'->Q () {s with heap:=h'}:=λ{cls a0 h'} hc L=>by
  refine az λkk=>?_;subst hc;refine s9 L λk1 k2 k3 k4=>?_;refine ax (RU (s':={s with heap:=h'}) S F ft k4 k3) λT' x' c=>?_;exact kk<|h h' T' (Cj (s':={s with heap:=h'}) S F fe ft k1 k4 rfl rfl) x' c
 clear h ft;cases t with
 |none=>
  refine mM x λoe vs a0 h1 h2 h3 h4 h5=>?_;exact wpAny_leaving_firstW bH ff hf h1 (x7 _ _) en h3 h5 h4 λh' L=>fin h2 L
 |some T=>
  obtain⟨a0,tr⟩:=x.base (l:=env::outer);exact wpAny_leaving_nextW bH ff hf tr (x7 _ _) en λh' L=>fin rfl L
end
def Ex0(s s₁:Shared):Prop:=∀a o,s.heap.get? a=some o->∃o',s₁.heap.get? a=some o'
theorem Ex0.none(x:Ex0 s s₁)(h:s₁.heap.get? a=none):s.heap.get? a=none:=by
 cases q:s.heap.get? a with
 |none=>rfl
 |some o=>obtain⟨o',q'⟩:=x a o q;rw[h]at q';exact be q'
theorem Go.ex0(G:Go X aL g σ s g' ab s'):Ex0 s s':=λa o e=>G.dom e λh=>h
theorem Frm.ex0(F:Frm X env m' g' ab s')(G:Go X (bg N env) g σ s g' ab s'):Ex0 s s':=λa o e=>by
 by_cases hp:(bg N env).a a
 ·rcases hp.2 with q|⟨x,q⟩
  ·exact aaE q<|F.atL
  ·exact F.csz x a q
 ·exact G.dom e hp
inductive PR(X:Cx)(P:Pv)(env:Env)(g:View)(σ:St)(s:Shared)(v:Value)(s':Shared):Prop
 |mk (e:Addr) (t:Option Addr) (g':View) (m':Mp) (h1:v=.ref e) (h2:Go X P g σ s g' σ s') (h3:Frm X env m' g' σ s') (h4:Free X g' σ e) (h5:s.heap.get? e=none) (h6:ExcIn X g' σ s'.heap e t) (h7:∀T,t=some T->s.heap.get? T=none)
inductive PC(X:Cx)(g:View)(σ:St)(s:Shared)(v:Value)(s':Shared):Prop
 |mk (e:Addr) (t:Option Addr) (g':View) (h1:v=.ref e) (h2:Go X aL g σ s g' σ s') (h4:Free X g' σ e) (h5:s.heap.get? e=none) (h6:ExcIn X g' σ s'.heap e t) (h7:∀T,t=some T->s.heap.get? T=none)
theorem PR.after(h:PR X P env aJ σ s₁ v s')(G:Go X P g σ s aJ σ s₁)(x:Ex0 s s₁):PR X P env g σ s v s':=
 h.rec λe t g' m' h1 h2 h3 h4 h5 h6 h7=>⟨e,t,g',m',h1,G.trans h2,h3,h4,x.none h5,h6,λT q=>x.none (h7 T q)⟩
theorem PC.after(h:PC X aJ σ s₁ v s')(G:Go X aL g σ s aJ σ s₁):PC X g σ s v s':=
 h.rec λe t g' h1 h2 h4 h5 h6 h7=>⟨e,t,g',h1,G.trans h2,h4,G.ex0.none h5,h6,λT q=>G.ex0.none (h7 T q)⟩
theorem PC.pr(h:PC X g σ s v s')(F:Frm X env m g σ s):PR X P env g σ s v s':=
 h.rec λe t g' h1 h2 h4 h5 h6 h7=>⟨e,t,g',m,h1,h2.any,F.go h2,h4,h5,h6,h7⟩
abbrev oA{α:Type}:α->Shared->Prop:=λx x=>False
section
variable (X:Cx) (A:Around) (outer:List Env)
def tZ(env:Env)(m:Mp)(e:Expr)(σ:St):Prop:=∀g s,Sat X g σ s->Frm X env m g σ s->FrOk X (env::outer) g σ s.heap->wpAny (model P0 X.w) A (eval e env) oA (PC X g σ s) s
def zV(N:Addr)(env:Env)(m:Mp)(st:Stmt)(σ:St):Prop:=∀g s,Sat X g σ s->Frm X env m g σ s->FrOk X (env::outer) g σ s.heap->wpAny (model P0 X.w) A (exec st env) oA (PR X (bg N env) env g σ s) s
def om(N:Addr)(env:Env)(m:Mp)(st:List Stmt)(σ:St):Prop:=∀g s,Sat X g σ s->Frm X env m g σ s->FrOk X (env::outer) g σ s.heap->wpAny (model P0 X.w) A (execs st env) oA (PR X (bg N env) env g σ s) s
def Ck(env:Env)(f:AV)(l:List AV)(σ:St):Prop:=∀g s fv vs,Sat X g σ s->FrOk X (env::outer) g σ s.heap->Rep g f fv->RepL g l vs->wpAny (model P0 X.w) A (call fv vs []) oA (PC X g σ s) s
end
def vV(X:Cx)(k:Nat)(f:AV)(l:List AV)(σ:St):Prop:=∀A g s fv vs outer,Room A k->A.frames=some outer->FrOk X outer g σ s.heap->Sat X g σ s->Rep g f fv->RepL g l vs->codeAny (model P0 X.w) A (.call fv ⟨vs,[]⟩) (λr s'=>∃v,r=.error v/\PC X g σ s v s') s
section
variable {X:Cx} {A:Around} {outer:List Env} {env:Env} {m:Mp} {σ:St} {N:Addr}
theorem vk(h:vV X k f l σ)(hA:Room A k)(bH:A.frames=some (env::outer)):Ck X A outer env f l σ:=λg s fv vs S F r rl=>
 sC (gU (h A g s fv vs _ hA bH F S r rl) λx x aR=>ax aR λv e p=>by clear aR;exact aaE e<|p)
theorem j6{st:Stmt}{rest:List Stmt}(h:zV X A outer N env m st σ):om X A outer N env m (st::rest) σ:=λg s S F K=>
 AZ (aB (h g s S F K) (λy y x=>x.elim) i2)
theorem Py{st:Stmt}{rest:List Stmt}(hf:env.frame=some env.locals)(ho:tI outer N)(hN:N<=env.locals)(hl:∀e∈outer,∀L,e.frame=some L->¬(bg N env).a L)
  (h:Ex X A aC (bg N env) env m st σ λFl m₁ ay=>Fl=.next/\ay=σ/\om X A outer N env m₁ rest σ):om X A outer N env m (st::rest) σ:=λg s S F K=>
 AZ (aB (h g s S F) (λf s₁ zz=>zz.rec λaJ Fl m₁ ay ai fh aX ba=>ei ba λe1 e2 aF=>by
  clear h S F zz ba;subst e1 e2
  first|exact be aX|exact bZ aX|exact gy aX|exact gN aX|(clear zz;refine aaE (bq aX) ?_)|clear zz;subst aX|cases aX
  have XS:=FrOk.cons (FrOk.go (λe he=>K e (cj _ he)) ai hl) fh hf
  exact aB (aF aJ s₁ ai.sat fh XS) i2 λy y x=>x.after ai (fh.ex0 ai)) λy y x=>x.elim)
theorem vG(K:FrOk X (env::outer) g σ s.heap)(G:Go X aL g σ s g' σ s'):FrOk X (env::outer) g' σ s'.heap:=K.go G λx x x x h=>h
theorem qY{pos}(h:EvB X A aC env m t σ λc ay=>ay=σ/\if c then om X A outer N env m a σ else om X A outer N env m b σ):zV X A outer N env m (.If t a b pos) σ:=λg s S F K=>
 wpAny_If (aB (h g s S F) (λc s₁ zz=>zz.rec λaJ ay ai bh=>bY bh λe1 aF=>by
  subst e1;clear zz bh;cases c
  ·exact aB (aF aJ s₁ ai.sat (F.go ai) (vG K ai)) (λy y x=>x.elim) λy y x=>x.after ai.any ai.ex0
  ·exact aB (aF aJ s₁ ai.sat (F.go ai) (vG K ai)) (λy y x=>x.elim) λy y x=>x.after ai.any ai.ex0) λy y x=>x.elim)
theorem vd{pos}(h:tZ X A outer env m e σ):zV X A outer N env m (.Return (some e) pos) σ:=λg s S F K=>
 wpAny_Return_some (aB (h g s S F K) (λy y x=>x.elim) λy y x=>x.pr F)
theorem OM{pos}(h:tZ X A outer env m value σ)(hs:swapsWithSole [t] value pos.line env=pure false):zV X A outer N env m (.Assign [t] value pos) σ:=λg s S F K=>by
 refine aaE (exec_Assign ..)<|ag (d7 ?_);refine aaE hs<|ag (aO ?_);exact aaE (ar (aI rfl))<|ag (aB (h g s S F K) (λy y x=>x.elim) λy y x=>x.pr F)
theorem Q6{pos}(hh:A.handled=none)(ha:a≠1)(bf:σ a=some (.dict l))(hl:l.lookup k=none)(h:Ev X A aC env m value σ λV ay=>V=.ref a/\ay=σ/\Ev X A aC env m slice σ λW aS=>W=.bytes k/\aS=σ):
  tZ X A outer env m (.Subscript value slice pos) σ:=λg s S F K=>
 Subscript_ (aB (h g s S F) (λa s₁ zz=>zz.rec λaJ V ay ai aX bN=>ei bN λe1 e2 aF=>by
  subst e1 e2
  exact aB (aF aJ s₁ ai.sat (F.go ai)) (λb s₂ zz=>zz.rec λbj W aS aN dJ cI=>bY cI λe1 e2=>by
   clear h S F K aF bN zz cI;subst e1 e2;have Wk:=aX.le aN.le;obtain⟨t,rfl⟩:=dJ;clear aX zz;refine aaE Wk ?_;refine ax (jC aN.sat bf) λkvs hd hk=>?_;have e:=(hk.value (k:=k)).2 hl;refine aB (qU hd.typeIs slot_dict_getitem.lookup (wpAny_getItem_missing_of (Q:=oA) (E:=PC X bj aS s₂) (knd:=bytesKind P0 X.w) (k:=k) (qG P0 X.w k t) (by simpa [sysModules]using ha) hh hd.mapOf e λh' ea x=>?_)) (λy y x=>x.elim) λy y x=>x.after (ai.trans aN);refine az λkk=>?_;refine cP x.there λob t0 h1 h2 h3=>?_;have G:Go X aL bj aS s₂ bj aS {s₂ with heap:=h',toks:=s₂.toks+1}:=Go.keeps aN.sat x.keeps;refine kk<|⟨ea,none,bj,rfl,G,?_,x.new,(o9 ob _ t0 h1 h2 h3 rfl rfl),(λy q=>by exact be q)⟩;refine(cA (View.none_of aN.sat.in_ x.new) ?_ (λp hp r=>?_))
   ·cases w:aS ea with
    |none=>rfl
    |some tr=>obtain⟨o,r⟩:=(aN.sat.trk ea tr w).2.at;rw[x.new]at r;exact be r
   ·refine az λkk=>?_
    refine iE (aN.sat.tab p hp) λy y y ps e4=>?_;refine ax (vf e4) λo r' y=>?_;refine kk ?_
    rw[r,x.new]at r';exact be r') λy y x=>x.elim) λy y x=>x.elim)
theorem Nc(h:wpAny (model P0 X.w) A (evalArgs fv true args []) oA E s):wpAny (model P0 X.w) A (callWith pos fv first args []) R E s:=by
 exact ag (eL (aB h (λy y x=>x.elim) i2))
theorem Px(h:Ev X A aC env m fe σ λy ay=>ay=σ)(ha:tZ X A outer env m arg σ)
  (he:eval (.Call fe [arg] [] pos) env=(do callWith pos (←eval fe env) [] (backTo pos (starEach [arg] env)) (backToKw pos (keywordEach [] env))):=by rfl)
  (hst:starEach [arg] env=[(false,eval arg env)]):tZ X A outer env m (.Call fe [arg] [] pos) σ:=λg s S F K=>
 Call_ (aB (h g s S F) (λfv s₁ zz=>zz.rec λaJ f ay ai aX e1=>by
  clear h S zz;subst e1;refine aaE hst<|Nc (X:=X) (uv ?_);refine aB (E:=PC X aJ ay s₁) (Q:=oA) ?_ i2 λy y x=>x.after ai
  exact ag (aB (ha aJ s₁ ai.sat (F.go ai) (vG K ai)) (λy y x=>x.elim) i2)) λy y x=>x.elim) he
end
section
variable {X:Cx} {A:Around} {outer:List Env} {env:Env} {m:Mp} {σ:St} {N:Addr}
theorem ON(S:Sat X g σ s)(F:Frm X env m g σ s)(K:FrOk X (env::outer) g σ s.heap)(r:Rep g f fv)(rf:RepL g first fvs)
  (h:iR X A aC env m args pos σ λl aS=>aS=σ/\cQ X σ f/\Ck X A outer env f (first++l) σ)
  (hst:(starEach args env).all (λx=> !x.1)=true):wpAny (model P0 X.w) A (callWith pos fv fvs (backTo pos (starEach args env)) []) oA (PC X g σ s) s:=by
 have bP:(backTo pos (starEach args env)).any (·.1)=false:=by
  (refine aaE sv<|aaE xo ?_);simp only[hst];rfl
 refine xQ (args:=backTo pos (starEach args env)) r bP ?_
 have fin:wpAny (model P0 X.w) A (spliced (backTo pos (starEach args env))) (λvs s₁=>(∃aJ ay,Sat X aJ ay s₁/\cQ X ay f)/\wpAny (model P0 X.w) A (call fv (fvs++vs) []) oA (PC X g σ s) s₁) (PC X g σ s) s:=
  aB (h g s S F) (λvs s₁ zz=>zz.rec λaJ l ay ai aX aR=>ei aR λe Kf c=>by
   clear S F h zz aR;subst e
   exact⟨(ey aJ _ ai.sat Kf),aB (c aJ s₁ fv (fvs++vs) ai.sat (vG K ai) (r.le ai.le) ((rf.le ai.le).append aX)) i2 λy y x=>x.after ai⟩) λy y x=>x.elim
 cases hl:backTo pos (starEach args env)with
 |nil=>
  rw[hl]at fin;unfold evalArgs;refine ag (aB fin (λvs s₁ aF=>ag (aO ?_)) i2);exact eL<|ag (aO (ag (aO (aO aF))))
 |cons x rest=>
  obtain⟨b,t⟩:=x;rw[hl]at fin bP
  have:b=false:=by
   clear fin hl;cases b
   ·rfl
   ·simp at bP
  clear bP hl;subst this;exact uv fin
theorem vv
  (h:Ev X A aC env m o σ λV ay=>ay=σ/\pz X A aC name V σ λF aS=>aS=σ/\iR X A aC env m args pos σ λl dZ=>dZ=σ/\cQ X σ F/\Ck X A outer env F (V::l) σ)
  (he:eval (.Call (.Attribute o name apos) args [] pos) env=(do
   let ov ←eval o env
   standAt apos.atName
   let (f,first) ←holding [ov] (getMethod ov name pl)
   callWith pos f first (backTo pos (starEach args env)) []))
  (hst:(starEach args env).all (λx=> !x.1)=true):tZ X A outer env m (.Call (.Attribute o name apos) args [] pos) σ:=λg s S F K=>
 MethodCall_ (pl:=pl) (aB (h g s S F) (λov s₁ ⟨aJ,V,ay,ai,aX,e1,aF⟩=>by
  subst e1
  exact aB (aF aJ s₁ ov pl ai.sat aX) (λfx s₂ bh=>mM bh λbj f aS aN dJ e e2 bA=>by
   clear h S aF bh;subst e2
   exact aaE e<|aB (ON (first:=[V]) (fvs:=[ov]) aN.sat (F.go (ai.trans aN)) (vG K (ai.trans aN)) dJ (.cons (aX.le aN.le) .nil) bA hst) i2 λy y x=>x.after (ai.trans aN)) λy y x=>x.elim) λy y x=>x.elim) he
theorem yR(F:FnAt X a fd body)(xs:List Str)
  (jI:∀g s vs,Sat X g σ s->RepL g l vs->∃dz,RepL g l' dz/\BindsTo s fd ⟨vs,[]⟩ (xs.zip dz))
  (hx:xs.all (λx=>fd.scope.names.lookup x==some .local||fd.scope.names.lookup x==some .cell)=true)
  (h:∀A L outer,Room A k->A.frames=some (callEnvC fd L a::outer)->tI outer L->om X A outer L (callEnvC fd L a) (g8 xs l' Mp.nil) body σ)
  (hclo:fd.closure=[])(hco:fd.scope.isCoroutine=false)(hgen:fd.scope.isGenerator=false)(hk:fd.scope.kind=.function):
  vV X (k+1) (.ref a) l σ:=λA g s fv vs outer hA bH K S hf r=>by
 refine aaE hf<|ax (F.obj S) λo ho hd=>?_;refine ax (jI g s vs S r) λdz r' hb=>?_;refine Ay (by have:=hA.depth;exact wk this) ho hd hco hgen F.body (F.cdRec S) (hb _ _ _ _ ?_);refine aaE hclo<|r5 hk (λy hy=>?_) λenv he s' x=>?_
 ·have hm:y.1∈xs:=(uE hy).1
  have:=nR.mp hx y.1 hm;rw[qy,cM,cM]at this;rcases this with q|q
  ·exact .inl q
  ·exact .inr ⟨q,du (nU fd.scope.names (s.heap.objs.size+1) [] q) λc hc=>by refine aaE hc ?_;rfl⟩
 ·have fX:env=callEnvC fd s.heap.objs.size a:=he
  clear he;subst fX;have Fr:=qD (a:=a) S r' hk hx x;have G:=qM S x (P:=aL);have ky:(A.deeper (callEnvC fd s.heap.objs.size a)).frames=some (callEnvC fd s.heap.objs.size a::outer):=Fb bH;have K':=FrOk.cons (frok_go' K G) Fr rfl;refine⟨(F.noLimit S).keeps x.toInCall.keep,codeAny_func (aB (h (A.deeper _) s.heap.objs.size outer (Room.deeper hA) ky K.lt g s' G.sat Fr K') (λf aU x=>x.elim) λv aU bN=>bN.rec λe t g' m' h1 h2 h3 h4 h5 h6 h7=>?_)⟩;clear bN;subst h1;have Pnew:∀b,(bg s.heap.objs.size (callEnvC fd s.heap.objs.size a)).a b->s.heap.objs.size<=b:=λb hb=>hb.1;have G1:Go X aL g σ s g' σ aU:=Go.weaken (Go.trans (G.any) h2) (pj (bC _));have ZI:=FrOk.cons (frok_go' K G1) h3 rfl;refine Qo ky rfl h2.sat ZI h4 h6 λh' T' G3 x3 c3=>?_;have x0:=G1.ex0;have en:=G.ex0.none h5;have tn:∀T,t=some T->s.heap.get? T=none:=λT q=>G.ex0.none (h7 T q)
  have G4:Go X aL g σ s g' σ {aU with heap:=h'}:=by
   refine Go.comp G1 G3 ⟨λb o q hb=>?_,λz z q=>q⟩;rcases hb with hb|hb
   ·rw[hb,en]at q;exact be q
   ·rw[tn b hb]at q;exact be q
  have fe:=h4;refine⟨.ref e,rfl,e,some T',g',rfl,G4,h4,en,x3,λT q=>?_⟩;refine aaE (aq (bq q)) ?_;rcases c3 with q|q
  ·exact x0.none q
  ·exact tn _ q
where
 frok_go' {outer:List Env} {g g':View} {σ:St} {s s':Shared} (K:FrOk X outer g σ s.heap) (G:Go X aL g σ s g' σ s'):FrOk X outer g' σ s'.heap:=K.go G λx x x x h=>h
end
section
variable {X:Cx} {A:Around} {env:Env} {outer:List Env} {g:View} {σ:St} {s:Shared} {e:Addr} {t:Option Addr} {E:Value->Shared->Prop}
theorem Q7(bH:A.frames=some (env::outer))(hf:env.frame=some env.locals)(S:Sat X g σ s)(F:FrOk X (env::outer) g σ s.heap)(fe:Free X g σ e)(x:ExcIn X g σ s.heap e t)
  (h:∀h' a0,Heap.HeldW (hideAll s.heap (hid (env::outer) e t)) (env::outer) e (.type "KeyError") a0 env.locals h'->s.heap.UpToSlots h'->Q () {s with heap:=h'}):wpAny (model P0 X.w) A (noteFrame (.ref e) env) Q E s:=by
 have ff:s.heap.FunFrames (hideAll s.heap (hid (env::outer) e t)) (env::outer):=Bx F λa ha=>xP _ (r7 _ ha);have en:(hideAll s.heap (hid (env::outer) e t)).get? e=none:=xP _ (by simp[hid])
 cases t with
 |none=>
  refine mM x λoe vs a0 h1 h2 h3 h4 h5=>?_;unfold noteFrame;simp only[hf];refine ag (d9 h1 h3 h5 ?_);refine aaE (ar (by decide))<|wpAny_entryW bH ff hf h1 (x7 _ _) en h3 (Array.getElem?_eq_some_iff.mp h5).1 h4 λh' hN=>?_;refine s9 hN λk1 k2 k3 k4=>?_;rw[h2]at k3;exact h h' a0 (k7 k1 en k2 k3) k4
 |some T=>
  obtain⟨a0,tr⟩:=x.base (l:=env::outer);exact wpAny_looks_onW bH hf (k7 (x7 _ _) en ff tr) λh' hH hu=>h h' a0 hH hu
theorem Pz(hX:bV X "KeyError" (.typ "KeyError"))(bH:A.frames=some (env::outer))(hf:env.frame=some env.locals)(ho:tI outer N)(iW:env.cells=[])
  (hk:env.kindOf "KeyError"=some .globalImplicit)(hg:env.globals=mainGlobals)(hb:env.builtins=builtinsNs)
  (h:om X A outer N env m body σ)(hs:∀A' m',Exs X A' aC (bg N env) env m' (XT::suite) σ Q)
  (S:Sat X g σ s)(F:Frm X env m g σ s)(K:FrOk X (env::outer) g σ s.heap):
  wpAny (model P0 X.w) A (exec (.Try body [.ExceptHandler (some (.Name "KeyError" np)) none (XT::suite) hp] [] [] pos) env) (PostX X (bg N env) env g σ s Q) aC s:=by
 refine wpAny_Try_except (aB (h g s S F K) (λy y x=>x.elim) λv s1 aR=>aR.rec λe t g' m' h1 h2 h3 h4 h5 h6 h7=>?_);refine aaE h1 ?_;have K1:FrOk X (env::outer) g' σ s1.heap:=FrOk.cons (FrOk.go (λe he=>K e (cj _ he)) h2 λe he L hL q=>absurd (ho e he L hL) (j0.mpr q.1)) h3 hf;have ft:∀T,t=some T->Free X g' σ T:=λT q=>by subst q;obtain⟨_,_,_,_,_,_,_,_,_,f,_⟩:=h6;exact f
 refine Q7 bH hf h2.sat K1 h4 h6 λMq a0 hH u1=>wpAny_landsW hH λuf hF u2=>?_;have u12:=u1.trans u2;have G2:Go X (zU e t) g' σ s1 g' σ {s1 with heap:=uf}:=Cj h2.sat K1 h4 ft hF.1 u12 rfl rfl;refine ax hF.there λob eW XU=>?_;refine wpAny_handleBy_builtin (X:="KeyError") (T:="KeyError") (b:=true) kr_isExc_KeyError kr_notTuple_KeyError (by refine aaE (xH ..) ?_;kernel_rfl) ?_
 have neL:∀a,(a=e∨t=some a)->a≠env.locals:=λa ha q=>by
  refine az λkk=>?_;refine ax h3.ns λmC ba y=>?_;obtain⟨o,es,ep,hL,hd,_⟩:=ba;refine mM h6 λoe vs a0 q1 q2 q3 q4 q5=>?_;rcases ha with rfl|ha
  ·refine kk ?_
   rw[q,hL]at q1;obtain rfl:=bq q1;rw[hd]at q3;cases q3
  ·clear h6 h7 ft hH hF G2;subst ha
   obtain⟨_,_,_,oT,ts,r1,r2,_⟩:=q5;refine kk ?_;rw[q,hL]at r1;obtain rfl:=bq r1;rw[hd]at r2;cases r2
 have F2:=h3.goP G2 (λq=>neL _ q rfl) λx c hc=>by rw[iW]at hc;exact be hc
 refine ax hX λcv ZJ rcv=>?_;obtain rfl:=rcv;refine az λkk=>?_;refine cP (ZJ uf (G2.sat.in_.le G2.sat.le)) λmg mb q1 q2 q3=>?_
 have ldname:∀{A':Around} {E':VP} {Q':VP},Q' (.type "KeyError") {s1 with heap:=uf}->wpAny (model P0 X.w) A' (eval (.Name "KeyError" np) env) Q' E' {s1 with heap:=uf}:=λ{A' E' Q'} fin=>by
  refine az λkk=>?_;rcases q3 with q3|⟨q3,q4⟩
  ·exact kk<|Av F2.kind hk (Calls.loadGlobal_global (by exact aaE hg<|q1) q3 fin) (by decide)
  ·exact kk<|Av F2.kind hk (Calls.loadGlobal_builtin (by exact aaE hg<|q1) q3 (by exact aaE hb<|q2) q4 fin) (by decide)
 refine kk<|ldname ⟨rfl,⟨ob,eW,XU⟩,?_⟩;refine dR rfl<|lands_againW hF λMr ZK u3=>?_;have u13:=u12.trans u3;have G3:Go X (zU e t) g' σ s1 g' σ {s1 with heap:=Mr}:=Cj h2.sat K1 h4 ft ZK.1 u13 rfl rfl;have F3:=h3.goP G3 (λq=>neL _ q rfl) λx c hc=>by rw[iW]at hc;exact be hc
 have G4:Go X (bg N env) g σ s g' σ {s1 with heap:=Mr}:=by
  refine Go.comp h2 G3 ⟨λb o q hb=>?_,λy y q=>q.elim⟩;refine az λkk=>?_;rcases hb with hb|hb
  ·refine kk ?_
   rw[hb,h5]at q;exact be q
  ·refine kk ?_
   rw[h7 b hb]at q;exact be q
 exact aB (hs _ _ g' _ G3.sat F3) (λf s4 x=>x.after G4) λy y x=>x.elim
end
structure Base6(X:Cx):Prop extends Base5 X where
 f_told:Fn X 445 54 "_law_told" .none
 g_told:bV X "_law_told" (.ref 445)
 g_KeyError:bV X "KeyError" (.typ "KeyError")
theorem pe{X:Cx}{A:Around}{outer:List Env}{env:Env}{m:Mp}{σ:St}{N:Addr}{st:Stmt}{rest:List Stmt}(ho:tI outer N)(hf:env.frame=some env.locals)(hN:N<=env.locals)
  (h:Ex X A aC (bg N env) env m st σ λFl m₁ ay=>Fl=.next/\ay=σ/\om X A outer N env m₁ rest σ):om X A outer N env m (st::rest) σ:=
 Py hf ho hN (λe he L hL q=>absurd (ho e he L hL) (j0.mpr q.1)) h
section
variable {X:Cx} {σ:St} {z:Nat} {a dx f d db:Addr} {r:By} {N D:BD} (hX:Base5 X)
include hX
theorem BH(T0:Tri z σ a dx f d db r N D){h p:By}{k:Nat}(dk:h≠blank)(hl:D.lookup h=none):vV X (k+1) (.ref 306) [.ref a,.bytes h,.bytes p] σ:=by
 refine bk hX.m__get λcode pm F=>?_;refine yR (hclo:=by rfl) (hco:=by rfl) (hgen:=by rfl) (hk:=by rfl) F ["self","node_hash","keypath"] (c7 ["self","node_hash","keypath"] λvs hv=>?_) rfl λA L outer hA bH ho=>?_
 ·(apply ko hv;intro v w u;rfl)
 refine pe ho rfl (bC _)<|bp<|aT<|af (.bytes h)<|eg hX.g_BLANK<|dU (kt (?_));refine bQ (c:=(h==blank)) (cR.mpr dk)<|bw ⟨rfl,rfl,j6<|OM (hs:=by rfl)<|Px (hst:=by rfl) (eg hX.g_parse rfl)<|Q6 hA.handled T0.db1 T0.dbt hl<|iL hX T0 rfl ⟨rfl,rfl,af (.bytes h) ⟨rfl,rfl⟩⟩⟩
theorem x8(T0:Tri z σ a dx f d db r N D)(hN:NmOk N)(hD:nE N D):∀{t:T} {n:Nat} {h p:By},WF n t->n<=64->fA t->p.length<=n->Named N t h->dq N D t p=none->vV X (20+n) (.ref 306) [.ref a,.bytes h,.bytes p] σ
 |.leaf v,n,h,p,hw,hn,hs,hp,hh,hg=>by
  have hl:D.lookup h=none:=by
   dsimp only[dq]at hg
   split at hg
   ·exact bZ hg
   ·rename_i q;rw[hh.nm]at q;cases e:D.lookup h with
    |none=>rfl
    |some _=>rw[e]at q;exact absurd rfl q
  refine aaE (show 20+n=(19+n)+1 from by exact C2) ?_;exact BH hX T0 (hN.blank _ _ hh.ltx) hl
 |.kv b t,n,h,p,hw,hn,hs,hp,hh,hg=>by
  refine aaE (show 20+n=(19+n)+1 from by exact C2) ?_
  by_cases jT:(D.lookup (nm N (.kv b t))).isSome=true
  case neg=>
   rw[hh.nm]at jT;refine BH hX T0 (hN.blank _ _ hh.ltx) ?_
   cases e:D.lookup h with
   |none=>rfl
   |some _=>rw[e]at jT;exact absurd rfl jT
  refine az λkk=>?_;dsimp only[dq]at hg;rw[aA jT]at hg;have gj:=vU hN hD hh jT;have dk:=cR.mpr (hN.blank _ _ hh.ltx);refine ax (id hh) λh' rS hl=>?_;have etx:tx N (.kv b t)=bX b h':=by show bX b (nm N t)=_;exact aaE rS.nm rfl
  rw[etx]at gj;refine eE (id hw) λhb cz hk n' en iw=>?_;have kD:1<=b.length:=by clear hw hs hh jT hg gj hl etx cz en;cases b with|nil=>exact absurd rfl hb|cons _ _=>simp
  have f7:p≠[]:=λe=>by rw[aA e]at hg;exact bZ hg
  rw[ar f7]at hg;have hc:=xm λe=>by rw[ar e]at hg;exact bZ hg
  rw[aA hc]at hg;refine bk hX.m__get λcode pm F=>?_;refine kk<|yR (hclo:=by rfl) (hco:=by rfl) (hgen:=by rfl) (hk:=by rfl) F ["self","node_hash","keypath"] (c7 ["self","node_hash","keypath"] λvs hv=>?_) rfl λA L outer hA bH ho=>?_
  ·(apply ko hv;intro v w u;rfl)
  refine pe ho rfl (bC _)<|bp<|aT<|af (.bytes h)<|eg hX.g_BLANK<|dU (kt (?_));refine bQ dk<|bw ⟨rfl,rfl,pe ho rfl (bC _)<|bE<|aV<|eg hX.g_parse<|ak<|bz<|iL hX T0 rfl<|af (.bytes h)<|fw T0.dbt gj<|aD ⟨jA hX.toBase,bc (qH hX.toBase (ze hn en) cz (hN.len _ _ rS.ltx) ?_) hA.mo⟩⟩;refine eR hA.handled rfl rfl<|bG<|aQ<|bG<|aQ<|bG<|aQ<|eS ⟨rfl,rfl,?_⟩;refine j6<|qY<|aT<|af (.int 0)<|eg hX.g_LEAF<|cu (kt ⟨rfl,?_⟩);refine j6<|qY<|aT<|af (.int 0)<|eg hX.g_KV<|cu (kt ⟨rfl,?_⟩);refine pe ho rfl (bC _)<|bp<|lY<|gp (af (.bytes p)<|jv (jQ hn hp) ?_) (by rfl);refine bQ (c:=(!!p.isEmpty)) (by clear hp kk hg hc;cases p with|nil=>exact absurd rfl f7|cons _ _=>rfl) ?_;refine bw ⟨rfl,rfl,j6<|qY<|aT<|vE (hd:=by rfl) (hc:=by rfl) hX.toBase (p:=p) (b:=b) rfl rfl (nC hn hp) (zd hn en) rfl rfl rfl<|af (.bytes b)<|dU (kt ⟨rfl,?_⟩)⟩;exact dR (c:=(List.take b.length p==b)) (cM.mpr hc)<|j6<|vd<|vv (hst:=by rfl) (af (.ref a) ⟨rfl,f6 hX T0 (by simp[eY]) ⟨rfl,ak<|af (.bytes h')<|ak<|B8 (hd:=by rfl) (hc:=by rfl) hX.toBase (p:=p) (b:=b) rfl rfl (nC hn hp) (zd hn en) rfl rfl rfl<|aD ⟨rfl,hX.m__get.keep,vk (x8 T0 hN hD iw (wj hn en) hs (by exact aaE dE<|C5 hp en) rS hg) hA.mo bH⟩⟩⟩) (by rfl)
 |.br l rr,n,h,p,hw,hn,hs,hp,hh,hg=>by
  refine aaE (show 20+n=(19+n)+1 from by exact C2) ?_
  by_cases jT:(D.lookup (nm N (.br l rr))).isSome=true
  case neg=>
   rw[hh.nm]at jT;refine BH hX T0 (hN.blank _ _ hh.ltx) ?_
   cases e:D.lookup h with
   |none=>rfl
   |some _=>rw[e]at jT;exact absurd rfl jT
  refine az λkk=>?_;dsimp only[dq]at hg;rw[aA jT]at hg;have gj:=vU hN hD hh jT;have dk:=cR.mpr (hN.blank _ _ hh.ltx);refine cP (id hh) λhl hr kG kH Ei=>?_;have etx:tx N (.br l rr)=b9 hl hr:=by show b9 (nm N l) (nm N rr)=_;(exact aaE kG.nm<|aaE kH.nm rfl)
  rw[etx]at gj;refine dp (id hw) λn' en iI lE=>?_;have f7:p≠[]:=λe=>by rw[aA e]at hg;exact bZ hg
  rw[ar f7]at hg;refine bk hX.m__get λcode pm F=>?_;refine kk<|yR (hclo:=by rfl) (hco:=by rfl) (hgen:=by rfl) (hk:=by rfl) F ["self","node_hash","keypath"] (c7 ["self","node_hash","keypath"] λvs hv=>?_) rfl λA L outer hA bH ho=>?_
  ·(apply ko hv;intro v w u;rfl)
  refine pe ho rfl (bC _)<|bp<|aT<|af (.bytes h)<|eg hX.g_BLANK<|dU (kt (?_));refine bQ dk<|bw ⟨rfl,rfl,pe ho rfl (bC _)<|bE<|aV<|eg hX.g_parse<|ak<|bz<|iL hX T0 rfl<|af (.bytes h)<|fw T0.dbt gj<|aD ⟨jA hX.toBase,bc (qI hX.toBase (hN.len _ _ kG.ltx) (hN.len _ _ kH.ltx) ?_) hA.mo⟩⟩;refine eR hA.handled rfl rfl<|bG<|aQ<|bG<|aQ<|bG<|aQ<|eS ⟨rfl,rfl,?_⟩;refine j6<|qY<|aT<|af (.int 1)<|eg hX.g_LEAF<|cu (kt ⟨rfl,?_⟩);refine j6<|qY<|aT<|af (.int 1)<|eg hX.g_KV<|cu (kt ⟨rfl,?_⟩);refine j6<|qY<|aT<|af (.int 1)<|eg hX.g_BR<|cu (kt ⟨rfl,?_⟩);refine pe ho rfl (bC _)<|bp<|lY<|gp (af (.bytes p)<|jv (jQ hn hp) ?_) (by rfl);refine bQ (c:=(!!p.isEmpty)) (by clear hp kk hg;cases p with|nil=>exact absurd rfl f7|cons _ _=>rfl) ?_;refine bw ⟨rfl,rfl,j6<|qY<|aT<|vu (hd:=by rfl) (hc:=by rfl) (p:=p) rfl (nC hn hp)<|eg hX.g_B0<|dU (kt ⟨rfl,?_⟩)⟩;refine az λkk=>?_
  by_cases hc:p.take 1=[0]
  ·refine kk<|dR (c:=(List.take 1 p==[0])) (cM.mpr hc) ?_
   rw[aA hc]at hg;exact j6<|vd<|vv (hst:=by rfl) (af (.ref a) ⟨rfl,f6 hX T0 (by simp[eY]) ⟨rfl,ak<|af (.bytes hl)<|ak<|sR (hd:=by rfl) (hc:=by rfl) (p:=p) rfl (nC hn hp)<|aD ⟨rfl,hX.m__get.keep,vk (x8 T0 hN hD iI (pT hn en) hs.1 (by exact aaE dE<|tF hp en) kG hg) hA.mo bH⟩⟩⟩) (by rfl)
  ·refine kk<|bQ (c:=(List.take 1 p==[0])) (cR.mpr hc) ?_
   rw[ar hc]at hg;exact j6<|vd<|vv (hst:=by rfl) (af (.ref a) ⟨rfl,f6 hX T0 (by simp[eY]) ⟨rfl,ak<|af (.bytes hr)<|ak<|sR (hd:=by rfl) (hc:=by rfl) (p:=p) rfl (nC hn hp)<|aD ⟨rfl,hX.m__get.keep,vk (x8 T0 hN hD lE (pT hn en) hs.2 (by exact aaE dE<|tF hp en) kH hg) hA.mo bH⟩⟩⟩) (by rfl)
theorem PA(T0:Tri z σ a dx f d db r N D)(hN:NmOk N)(hD:nE N D){t:T}{n:Nat}{x:By}(hw:WF n t)(hn:n<=64)(hs:fA t)(hp:8*x.length<=n)(hh:Named N t r)(hg:dq N D t (bu x)=none):vV X (21+n) (.ref 299) [.ref a,.bytes x] σ:=by
 refine bk hX.m_get λcode pm F=>?_;have hl:(bu x).length=8*x.length:=by unfold bu;(exact aaE (dF ..)<|aaE (uV ..) rfl)
 refine aaE (show 21+n=(20+n)+1 from by exact UI) ?_;refine yR (hclo:=by rfl) (hco:=by rfl) (hgen:=by rfl) (hk:=by rfl) F ["self","key"] (c7 ["self","key"] λvs hv=>?_) rfl λA L outer hA bH ho=>?_
 ·(apply gG hv;intro v w;rfl)
 refine pe ho rfl (bC _)<|gD<|aV<|eg hX.g_vib<|ak<|af (.bytes x)<|aD ⟨sJ hX,bc (kc hX.toBase ⟨rfl,rfl,?_⟩) hA.mo⟩;exact j6<|vd<|vv (hst:=by rfl) (af (.ref a) ⟨rfl,f6 hX T0 (by simp[eY]) ⟨rfl,ak<|x6 hX T0 rfl<|ak<|aV<|eg hX.g_etb<|ak<|af (.bytes x)<|aD ⟨BG hX,bc (s7 hX.toBase (Dn hn hp)<|aD ⟨rfl,hX.m__get.keep,vk (x8 hX T0 hN hD hw hn hs (Jd hp hl) hh hg) hA.mo bH⟩) hA.mo⟩⟩⟩) (by rfl)
end
theorem PB
  (h:Exs X A aC P env m body σ (wm (Exs X A aC P env) orelse Q)):Ex X A aC P env m (.Try body (h₀::hs) orelse [] pos) σ Q:=λg s S F=>
 wpAny_Try_except (aB (h g s S F) (λf s₁ zz=>zz.rec λaJ Fl m₁ ay ai fh aX aF=>by
  cases Fl with
  |next=>subst aX;exact aB (aF aJ s₁ ai.sat fh) (λf s₂ bA=>bA.after ai) i2
  |brk=>subst aX;exact⟨aJ,.brk,m₁,ay,ai,fh,rfl,aF⟩
  |cont=>subst aX;exact⟨aJ,.cont,m₁,ay,ai,fh,rfl,aF⟩
  |ret V=>refine ax aX λv bN r=>?_;clear zz aX;exact aaE bN<|⟨aJ,.ret V,m₁,ay,ai,fh,(aE v rfl r),aF⟩) λ_ _ x=>x.elim)
def vW(X:Cx)(k:Nat)(f:AV)(l:List AV)(σ:St)(Q:AP):Prop:=∀A g s fv vs outer,Room A k->A.frames=some outer->FrOk X outer g σ s.heap->Sat X g σ s->Rep g f fv->RepL g l vs->
 codeAny (model P0 X.w) A (.call fv ⟨vs,[]⟩) (λr s'=>∃v,r=.ok (.ret v)/\Post X aL g σ s Q v s') s
theorem CallOk.f{f l σ}(h:CallOk X k f l σ Q):vW X k f l σ Q:=λA g s fv vs x hA x x S r rl=>h A g s fv vs hA S r rl
theorem RV(F:FnAt X a fd body)(xs:List Str)
  (jI:∀g s vs,Sat X g σ s->RepL g l vs->∃dz,RepL g l' dz/\BindsTo s fd ⟨vs,[]⟩ (xs.zip dz))
  (hx:xs.all (λx=>fd.scope.names.lookup x==some .local||fd.scope.names.lookup x==some .cell)=true)
  (h:∀A L outer,Room A k->A.frames=some (callEnvC fd L a::outer)->tI outer L->∀g s,Sat X g σ s->Frm X (callEnvC fd L a) (g8 xs l' Mp.nil) g σ s->FrOk X (callEnvC fd L a::outer) g σ s.heap->
   wpAny (model P0 X.w) A (execs body (callEnvC fd L a)) (PostX X (bg L (callEnvC fd L a)) (callEnvC fd L a) g σ s (jR Q)) aC s)
  (hclo:fd.closure=[])(hco:fd.scope.isCoroutine=false)(hgen:fd.scope.isGenerator=false)(hk:fd.scope.kind=.function):
  vW X (k+1) (.ref a) l σ Q:=λA g s fv vs outer hA bH K S hf r=>by
 refine aaE hf<|ax (F.obj S) λo ho hd=>?_;refine ax (jI g s vs S r) λdz r' hb=>?_;refine Ay (by have:=hA.depth;exact wk this) ho hd hco hgen F.body (F.cdRec S) (hb _ _ _ _ ?_);refine aaE hclo<|r5 hk (λy hy=>?_) λenv he s' x=>?_
 ·have hm:=(uE hy).1
  have:=nR.mp hx y.1 hm;rw[qy,cM,cM]at this;rcases this with q|q
  ·exact .inl q
  ·exact .inr ⟨q,du (nU fd.scope.names (s.heap.objs.size+1) [] q) λc hc=>by refine aaE hc ?_;rfl⟩
 ·have fX:env=callEnvC fd s.heap.objs.size a:=he
  clear he;subst fX;have Fr:=qD (a:=a) S r' hk hx x;have G:=qM S x (P:=aL);have ky:(A.deeper (callEnvC fd s.heap.objs.size a)).frames=some (callEnvC fd s.heap.objs.size a::outer):=Fb bH;have K':=FrOk.cons (K.go G λ_ _ _ _ h=>h) Fr rfl;refine⟨(F.noLimit S).keeps x.toInCall.keep,codeAny_func (aB (h (A.deeper _) s.heap.objs.size outer (Room.deeper hA) ky K.lt g s' G.sat Fr K') (λf aU zz=>zz.rec λg' Fl m' ab G' _ rf q=>?_) λ_ _ x=>x.elim)⟩;have dX:Go X aL g σ s g' ab aU:=Go.weaken (Go.trans (G.any) G') (pj (bC _))
  cases Fl with
  |next=>(first|exact be rf|exact bZ rf|exact gy rf|exact gN rf|(refine aaE (aq (bq rf)) ?_)|clear zz;subst rf|cases rf);exact(aE _ rfl ⟨g',.none,ab,dX,by exact rfl,q⟩)
  |ret V=>refine ax rf λv cI rv=>?_;clear zz rf;exact aaE cI<|(aE v rfl ⟨g',V,ab,dX,rv,q⟩)
  |brk=>exact q.elim
  |cont=>exact q.elim
def Cm(X:Cx)(A:Around)(env:Env)(f:AV)(l:List AV)(σ:St)(Q:AP):Prop:=∀g s fv vs,Sat X g σ s->FrOk X [env] g σ s.heap->Rep g f fv->RepL g l vs->wpAny (model P0 X.w) A (call fv vs []) (Post X aL g σ s Q) aC s
section
variable {X:Cx} {A:Around} {env:Env} {m:Mp} {σ:St} {Q:AV->St->Prop}
theorem PD(h:vW X k f l σ Q)(hA:Room A k)(bH:A.frames=some [env]):Cm X A env f l σ Q:=λg s fv vs S K r rl=>
 sC (gU (h A g s fv vs _ hA bH K S r rl) λx x ba=>ax ba λv e p=>by clear ba;exact aaE e<|p)
theorem OP(hf:env.frame=some env.locals)(S:Sat X g σ s)(F:Frm X env m g σ s)(r:Rep g f fv)(rf:RepL g first fvs)
  (h:iR X A aC env m args pos σ λl aS=>cQ X aS f/\Cm X A env f (first++l) aS Q)
  (hst:(starEach args env).all (λx=> !x.1)=true):wpAny (model P0 X.w) A (callWith pos fv fvs (backTo pos (starEach args env)) []) (Post X aL g σ s Q) aC s:=by
 have bP:(backTo pos (starEach args env)).any (·.1)=false:=by
  (refine aaE sv<|aaE xo ?_);simp only[hst];rfl
 refine xQ (args:=backTo pos (starEach args env)) r bP ?_
 have fin:wpAny (model P0 X.w) A (spliced (backTo pos (starEach args env))) (λvs s₁=>(∃aJ ay,Sat X aJ ay s₁/\cQ X ay f)/\wpAny (model P0 X.w) A (call fv (fvs++vs) []) (Post X aL g σ s Q) aC s₁) aC s:=
  aB (h g s S F) (λvs s₁ zz=>zz.rec λaJ l ay ai aX bh=>bY bh λK c=>⟨⟨aJ,ay,ai.sat,K⟩,aB (c aJ s₁ fv (fvs++vs) ai.sat (FrOk.cons (l:=[]) (λy q=>by cases q) (F.go ai) hf) (r.le ai.le) ((rf.le ai.le).append aX)) (λy y x=>x.after ai) i2⟩) i2
 cases hl:backTo pos (starEach args env)with
 |nil=>
  rw[hl]at fin;unfold evalArgs;refine ag (aB fin (λvs s₁ aF=>ag (aO ?_)) i2);exact eL<|ag (aO (ag (aO (aO aF))))
 |cons x rest=>
  obtain⟨b,t⟩:=x;rw[hl]at fin bP
  have:b=false:=by
   clear fin hl;cases b
   ·rfl
   ·simp at bP
  clear bP hl;subst this;exact uv fin
theorem Qp(hf:env.frame=some env.locals)(h:Ev X A aC env m fe σ (DS X (iR X A aC env m args pos) (Cm X A env) Q))
  (he:eval (.Call fe args [] pos) env=(do callWith pos (←eval fe env) [] (backTo pos (starEach args env)) (backToKw pos (keywordEach [] env))):=by rfl)
  (hst:(starEach args env).all (λx=> !x.1)=true):Ev X A aC env m (.Call fe args [] pos) σ Q:=λg s S F=>
 Call_ (aB (h g s S F) (λfv s₁ zz=>zz.rec λaJ f ay ai aX aF=>aB (OP (first:=[]) (fvs:=[]) hf ai.sat (F.go ai) aX .nil aF hst) (λy y x=>x.after ai) i2) i2) he
end
section
variable {X:Cx} {σ:St} {z:Nat} {a dx f d db:Addr} {r:By} {N D:BD} (hX:Base6 X)
include hX
theorem BI:cQ X σ (.ref 445):=by refine bk hX.f_told λx x F'=>?_;exact F'.keep
theorem B9(T0:Tri z σ a dx f d db r N D)(hN:NmOk N)(hD:nE N D)(hw:WF n t)(hn:n<=64)(hs:fA t)(hp:8*x.length<=n)(hh:Named N t r)(hg:dq N D t (bu x)=some o)(hq:Q (fW o) σ):CallOk X (22+n) (.ref 445) [.ref a,.bytes x] σ Q:=by
 refine bk hX.f_told λcode pm F=>?_;refine CallOk.deep (dQ (k:=21+n) F ["trie","key"] (c7 ["trie","key"] λvs hv=>?_) rfl λA L hA=>?_) (JE)
 ·(apply gG hv;intro v w;rfl)
 exact aw<|PB<|aw<|cD<|fT (af (.ref a)<|f6 hX.toBase5 T0 (by simp[eY])<|ak<|af (.bytes x)<|aD ⟨hX.m_get.keep,bc (HE hX.toBase5 T0 hN hD hw hn hs hp hh hg hq) hA⟩) (by rfl)
theorem OO(T0:Tri z σ a dx f d db r N D)(hN:NmOk N)(hD:nE N D)(hw:WF n t)(hn:n<=64)(hs:fA t)(hp:8*x.length<=n)(hh:Named N t r)(hg:dq N D t (bu x)=none)(hq:Q (.str "lacks") σ):vW X (22+n) (.ref 445) [.ref a,.bytes x] σ Q:=by
 refine bk hX.f_told λcode pm F=>?_;refine aaE (show 22+n=(21+n)+1 from by exact UE) ?_;refine RV (hclo:=by rfl) (hco:=by rfl) (hgen:=by rfl) (hk:=by rfl) F ["trie","key"] (c7 ["trie","key"] λvs hv=>?_) rfl λA L outer hA bH ho g s S Fr K=>?_
 ·(apply gG hv;intro v w;rfl)
 refine AZ (aB (Pz (Q:=(jR Q)) hX.g_KeyError bH rfl ho rfl rfl rfl rfl (j6<|vd<|vv (hst:=by rfl) (af (.ref a) ⟨rfl,f6 hX.toBase5 T0 (by simp[eY]) ⟨rfl,ak<|af (.bytes x)<|aD ⟨rfl,hX.m_get.keep,vk (PA hX.toBase5 T0 hN hD hw hn hs hp hh hg) hA bH⟩⟩⟩) rfl) (λA' m'=>aw<|cD<|s6 hq) S Fr K) (λfl s₁ zz=>zz.rec λaJ Fl m₁ ay ai fh aX aF=>?_) i2)
 cases Fl with
 |next=>subst aX;exact aB (bw (Q:=(jR Q)) aF aJ s₁ ai.sat fh) (λ_ _ x=>x.after ai) i2
 |ret V=>refine ax aX λv c5 r=>?_;clear zz aX;exact aaE c5<|⟨aJ,.ret V,m₁,ay,ai,fh,⟨v,rfl,r⟩,aF⟩
 |brk=>exact aF.elim
 |cont=>exact aF.elim
end
theorem Fo:Slot "bytes" (cmpInfo .Lt).2.1 "bytes.__lt__":=
 .of (owner:="bytes") (n:="__lt__") (by(refine aaE (A6 ..)<|aaE AB ?_);kernel_rfl) (by decide+kernel) (by decide+kernel) (by decide+kernel)
  (by first|exact .inl (by decide+kernel)|exact .inr (by decide+kernel)) (by refine aaE (xH ..) ?_;kernel_rfl)
theorem Nf:entryFor table "bytes.__lt__"=some Builtin.«bytes.__lt__»:=entryFor_of_tree (by kernel_rfl)
theorem MX(a b:Value):argsOk "bytes.__lt__" ⟨[a,b],[]⟩:=by
 unfold argsOk;refine aaE (signature?_of (id:="bytes.__lt__") (n:=['_','_','t','l','_','_']) (o:=['s','e','t','y','b']) (by kernel_rfl) PySem.W.FB.owner_bytes) ?_;kernel_rfl
noncomputable def l8(b:By):List Nat:=b.map (·.toNat)
theorem Hb:∀(a b:By),(Builtin.Bytes.order a b==.lt)=decide (l8 a<l8 b)
 |[],[]=>by decide
 |[],_::_=>by simp[Builtin.Bytes.order,l8]
 |_::_,[]=>by simp[Builtin.Bytes.order,l8]
 |x::a,y::b=>by
  unfold Builtin.Bytes.order;have ih:=Hb a b;simp only[l8,eB]at ih ⊢
  by_cases h1:x<y
  ·have ej:x.toNat<y.toNat:=h1
   (refine aaE (aA h1)<|aaE (sj (E4.mpr (.inl ej))) ?_);rfl
  ·by_cases h2:x>y
   ·have lF:y.toNat<x.toNat:=h2
    rw[ar h1,aA h2,oQ]
    ·rfl
    ·refine aaE (propext E4) ?_;lia -abstractProof
   ·have:=UInt8.le_antisymm (UInt8.not_lt.mp h2) (UInt8.not_lt.mp h1)
    subst this
    (refine aaE (ar h1)<|aaE (ar h2)<|aaE ih ?_)
    congr 1
    refine aaE (propext E4) ?_;simp
@[reducible] noncomputable def Cn:PyProof.Rows.KeyKind where
 α:=List Nat
 blt a b:=decide (a<b)
 irrefl a:=by simp
 trans a b c h1 h2:=by simp only[oN]at *;exact List.lt_trans h1 h2
 negTrans a b c h:=by
  simp only[oN]at *
  by_cases dK:a<b
  ·exact .inl dK
  ·exact .inr (List.lt_of_le_of_lt (List.not_lt.mp dK) h)
 total a b h1 h2:=by simp only[EU]at *;exact List.le_antisymm (List.not_lt.mp h2) (List.not_lt.mp h1)
 keyOf v:=match v with|.bytes b _=>some (l8 b.toList)|_=>none
 dflt:=[]
section
variable {prog:Program} {w:World} {A:Around} {E:Value->Shared->Prop} {s:Shared}
theorem Nw(h:Q (.bool (decide (l8 a.toList<l8 b.toList))) s):wpAny (model prog w) A (call (.builtin "bytes.__lt__") [.bytes a t,.bytes b u]) Q E s:=by
 refine i7 Fo (jy s a t) Nf ?_ (MX _ _);show wpAny _ _ (isInstance (.bytes b u) (.type "bytes")>>= λr=>_) _ _ s;refine ag (lO (jy s b u) PySem.F.sub_bytes_bytes ?_);refine aO (aE _ rfl ?_);rw[←Hb]at h;exact h
theorem Qq(h:Q (decide (l8 a.toList<l8 b.toList)) s):wpAny (model prog w) A (oneLt' true (.bytes a t) (.bytes b u)) Q E s:=by
 refine aaE (oneLt'_eq ..) ?_;simp only[if_true];refine ag (wpAny_cRoomFor_byValue rfl ?_);refine ag (wpAny_callSpecialIfBound?_slot (jy s a t) Fo (Nw ?_));exact wpAny_truthy_bool h
end
theorem NL:Cn.OneLt:=by
 intro prog w A E s x y a b Q ha hb h;cases x<;>simp only[Cn,reduceCtorEq,Option.some.injEq]at ha;cases y<;>simp only[Cn,reduceCtorEq,Option.some.injEq]at hb;subst ha;subst hb;exact Qq h
noncomputable def oq:Value->By
 |.bytes b _=>b.toList
 |_=>[]
def pI(v:Value):Prop:=∃b t,v=.bytes b t
theorem Fp:∀{vs:List Value},(∀v∈vs,pI v)->vs.mapM firstOfTuple'=pure (vs.map λx=>none)
 |[],_=>by simp
 |v::vs,h=>by
  refine bk (h v cV) λb t aR=>?_;refine aaE aR ?_
  (refine aaE List.mapM_cons<|aaE (show firstOfTuple' (.bytes b t)=pure none from rfl)<|aaE (Fp λu hu=>h u (cj _ hu)) ?_);simp
theorem FA:∀{vs:List Value},(∀v∈vs,pI v)->vs.mapM typeOf=pure (vs.map λx=>Value.type "bytes")
 |[],_=>by simp
 |v::vs,h=>by
  refine bk (h v cV) λb t ba=>?_;refine aaE ba ?_
  (refine aaE List.mapM_cons<|aaE (FA λu hu=>h u (cj _ hu)) ?_)
  show(pure (Value.type "bytes")>>= λb=>pure _>>= λbs=>pure (b::bs))=_;simp
theorem OQ(hS:∀v∈(zJ::zK::vs),pI v):keyKind' (zJ::zK::vs).toArray=pure oneType':=by
 (refine aaE (keyKind'_eq ..)<|aaE List.mapM_toArray<|aaE (Fp hS) ?_)
 simp only[map_pure,pure_bind]
 (refine aaE (ar (by simp))<|aaE (ar (by simp)) ?_)
 (refine aaE (oneTypeOnly'_eq ..)<|aaE List.mapM_toArray<|aaE (FA hS) ?_)
 simp only[map_pure,pure_bind]
 have mx:((List.map (λy=>Value.type "bytes") (zJ::zK::vs)).toArray.all λx=>x==Value.type "bytes")=true:=by
  simp only[List.all_toArray,List.all_map,nR];intro y y
  rfl
 have h0:(List.map (λy=>Value.type "bytes") (zJ::zK::vs)).toArray[0]?=some (Value.type "bytes"):=by simp
 refine aaE h0 ?_;simp only[mx,if_true,pure_bind,AN]
theorem RW{vs:List Value}(hS:∀v∈vs,pI v){xs:Array Keyed}(hp:xs.Perm (pairsOf vs)):(∀v∈(xs.map (·.2)).toList,pI v)/\((xs.map (·.2)).toList.map oq).Perm (vs.map oq):=by
 have hl:xs.toList.Perm (vs.zip vs):=by exact aaE (aq (pairsOf_toList ..))<|Array.perm_iff_toList_perm.mp hp
 have e:(xs.map (·.2)).toList.Perm vs:=by
  refine aaE Array.toList_map ?_;have:=hl.map (·.2)
  rwa [show(vs.zip vs).map (·.2)=vs from List.map_snd_zip (bC _)]at this
 exact⟨λv hv=>hS v (e.mem_iff.mp hv),e.map _⟩
theorem Ht:∀{vs:List Value},(∀v∈vs,pI v)->RepL g ((vs.map oq).map .bytes) vs
 |[],_=>.nil
 |v::vs,h=>by
  refine bk (h v cV) λb t bh=>?_;refine aaE bh ?_;exact .cons (by exact⟨t,by simp[oq]⟩) (Ht λu hu=>h u (cj _ hu))
section
variable {X:Cx} {A:Around} {E:Value->Shared->Prop} {σ:St} {Q:AV->St->Prop} {a:Addr} {l:BD}
theorem Fg(h:(bytesKind P0 X.w).is k v=true):pI v/\oq v=k:=by
 obtain⟨t,rfl⟩:=isBytes_shape h;exact⟨(cX _ _ rfl),by simp[oq]⟩
theorem Fh(bf:σ a=some (.dict l))(ha:a≠1)(hh:A.handled=none)(bM:l.length<64)(h:∀L:List By,L.Perm (l.map (·.1))->Q (.lst (L.map .bytes)) σ):fy X A E (.blt "sorted") [.ref a] σ Q:=λg s fv vs S r rl=>by
 refine aaE r ?_;obtain⟨v,us,rfl,r,rl⟩:=rl;obtain rfl:=rl;refine aaE r ?_;obtain⟨kvs,hd,hk⟩:=jC S bf;obtain⟨ep,qi⟩:=hd.dictAt;have lo:(a==sysModules)=false:=by simpa [sysModules]using ha
 refine Calls.call_function_entry kind_sorted plain_sorted entry_sorted (args_sorted1 _) ?_;unfold Builtin.«sorted»;refine ag (m:=checkCount "sorted" 1 1 _) (aO ?_);have hn:kvs.length<=sizeLine:=by(refine aaE hk.len<|aaE df ?_);exact ae (dS bM) (lb rfl)
 refine ag (kdu_collect (A:=A.in1) (kdl_dict (knd:=bytesKind P0 X.w) (kvs:=kvs) (ep:=ep) lo) hh qi hn λh' tk acc nJ DQ=>?_);have hl:acc.toList.length=kvs.length:=by exact aaE Array.length_toList<|DQ.1
 have Ey:∀v∈acc.toList,pI v:=λv hv=>by
  obtain⟨i,hi,e⟩:=List.mem_iff_getElem.mp hv;obtain⟨k,x,_,Ez⟩:=DQ.2 i v (by(refine aaE (aq (Array.getElem?_toList)) ?_;refine aaE (hZ hi) ?_;exact aaE e rfl));exact(Fg Ez).1
 have Wl:acc.toList.map oq=l.map (·.1):=by
  refine aaE (aq hk.keys)<|List.ext_getElem? λi=>?_;refine aaE (kL) ?_;refine aaE (kL) ?_
  cases q:acc.toList[i]? with
  |none=>
   rw[qp]at q;refine aaE (Az (ae (aK hl.symm) q)) ?_;rfl
  |some v=>
   obtain⟨k,x,hx,Ez⟩:=DQ.2 i v (by refine aaE (aq (Array.getElem?_toList)) ?_;exact q);refine aaE hx ?_;show some (oq v)=some k;exact aaE ((Fg Ez).2) rfl
 refine ag (wpAny_newList ?_ (by exact aaE hl<|hn));have mB:(h'.push (seqObj "list" acc.toList.toArray 0)).get? h'.objs.size=some (seqObj "list" acc.toList.toArray 0):=cB _ rfl;have XW:acc.toList.length<64:=by(refine aaE hl<|aaE hk.len ?_);exact bM
 have h0:KeysOf Cn (pairsOf acc.toList):=by
  intro p hp;rw[pairsOf_toList]at hp;obtain⟨b,t,e⟩:=Ey _ (mem_zip_self hp).2;exact⟨l8 b.toList,by exact aaE e rfl⟩
 refine ag (eL (i7 slot_list_sort (aE _ mB rfl) entry_list_sort (list_sort_treeK NL mB h0 (λzJ zK rest e=>OQ (by exact aaE (aq e)<|Ey)) XW λAk a1 a2=>(aE _ rfl ?_)) (args_list_sort _)));refine aO (aE _ rfl ?_);obtain⟨o1,o2⟩:=RW Ey a1;obtain⟨e,he⟩:=sortedHeap_at (n:=0) (out:=(arrOf Ak).map (·.2)) mB
 have fresh:s.heap.get? h'.objs.size=none:=by
  cases q:s.heap.get? h'.objs.size with
  |none=>rfl
  |some o=>exact absurd (cC (nJ _ o q)) (de _)
 have keep:∀b o,s.heap.get? b=some o->(sortedHeap (h'.push (seqObj "list" acc.toList.toArray 0)) h'.objs.size acc.toList ((arrOf Ak).map (·.2))).get? b=some o:=λb o q=>by
  have q':=nJ b o q;have ql:=cC q';refine aaE (sortedHeap_old (kP ql) (by rw[size_push'];exact xu ql)) ?_;exact bJ _ q'
 have hg:=View.none_of S.in_ fresh;refine Post.to (Go.keeps_add S keep fresh he) (aE _ ?_ (h ((((arrOf Ak).map (·.2)).toList).map oq) (by exact aaE (aq Wl)<|o2)));exact(cy _ (((arrOf Ak).map (·.2)).toList) rfl (cy _ e (by unfold View.add;exact aaE (aA rfl) rfl) rfl (by exact aaE Array.toArray_toList rfl)) (Ht o1))
end
end
section
open PySem.W.X PySem.SeqAt
section
open AutoSeq1 (wpAny_loadPart')
theorem PH(l:Addr)(items:Array Value)(n:Nat)(x:Int)(u:Tok)(dd:Option Addr)(sl:Array (Option Value))(EA:¬(!Builtin.List.listFitsIndex x)=true)(EB:¬items.size*x.toNat>(2 ^ 63 - 1) / 8)(ZL:¬Builtin.List.listTooLong (items.size*x.toNat)=true):
  Meets (Builtin.«list.__mul__» ⟨[.ref l,.int x u],[]⟩) (λy R s=>s.heap.get? l=some {cls:=.type "list",dict:=dd,data:=.seq items n,slots:=sl}/\R (.ok (.ret (Value.ref s.heap.objs.size))) {s with heap:=s.heap.push {cls:=Value.type "list",data:=Data.seq (List.foldl (λx1 x2=>x1++x2) #[] (List.replicate (if items.isEmpty=true then 0 else x.toNat) items))},toks:=s.toks}):=
 .of_wp λprog w A R s h=>by
  obtain⟨hp,g,d,tk,os⟩:=s;obtain⟨hl,h⟩:=h;have hsz:=AutoListH.joined_fits ZL
  wp_walk using wpAny_loadPart' hl;refine Ba (oQ (j0.mpr hsz)) ?_;wp_walk;exact⟨_,rfl,h⟩
theorem PJ(a:Int)(t:Tok)(l:Addr)(items:Array Value)(n:Nat)(dd:Option Addr)(sl:Array (Option Value)):
  Meets (Builtin.«int.__rmul__» ⟨[.int a t,.ref l],[]⟩) (λx R s=>s.heap.get? l=some {cls:=.type "list",dict:=dd,data:=.seq items n,slots:=sl}/\R (.ok (.ret Value.notImplemented)) s):=
 .of_wp λprog w A R s h=>by obtain⟨hp,g,d,tk,os⟩:=s;obtain⟨hl,h⟩:=h;wp_walk using wpAny_loadPart' hl;exact(aE _ rfl h)
end
theorem PI(a:Str)(t:Tok)(b:Array UInt8)(u:Tok):Gives (Builtin.«str.__ne__» ⟨[.str a t,.bytes b u],[]⟩) (.val (Value.notImplemented)):=
 .of_wp λM A E s Q h=>by obtain⟨hp,g,d,tk,os⟩:=s;wp_walk;exact(aE _ rfl h)
theorem PG(a:Str)(t:Tok)(b:Array UInt8)(u:Tok):Gives (Builtin.«str.__eq__» ⟨[.str a t,.bytes b u],[]⟩) (.val (Value.notImplemented)):=
 .of_wp λM A E s Q h=>by obtain⟨hp,g,d,tk,os⟩:=s;wp_walk;exact(aE _ rfl h)
theorem PK(a:Str)(t:Tok)(b:Array UInt8)(u:Tok):Gives (Builtin.«bytes.__ne__» ⟨[.bytes b u,.str a t],[]⟩) (.val (Value.notImplemented)):=by
 refine .of_wp λM A E s Q hq=>?_;have key:∀{α:Type} {f:Bool->Sem α} {Q':α->Shared->Prop},wpAny M A (f false) Q' E s->wpAny M A (isInstance (.str a t) (.type "bytes")>>= f) Q' E s:=λh=>ag (lO (ve s a t) PySem.F.sub_str_bytes h);unfold Builtin.«bytes.__ne__»
 wp_delta
 refine ag (dn (a:=(Value.bytes b u,[Value.str a t])) rfl ?_);exact key<|aaE (aA (show(!false)=true from rfl))<|ag (gX (aO (aE _ rfl hq)))
theorem PE(a:Str)(t:Tok)(b:Array UInt8)(u:Tok):Gives (Builtin.«bytes.__eq__» ⟨[.bytes b u,.str a t],[]⟩) (.val (Value.notImplemented)):=by
 refine .of_wp λM A E s Q hq=>?_;have key:∀{α:Type} {f:Bool->Sem α} {Q':α->Shared->Prop},wpAny M A (f false) Q' E s->wpAny M A (isInstance (.str a t) (.type "bytes")>>= f) Q' E s:=λh=>ag (lO (ve s a t) PySem.F.sub_str_bytes h);unfold Builtin.«bytes.__eq__»
 wp_delta
 refine ag (dn (a:=(Value.bytes b u,[Value.str a t])) rfl ?_);exact key<|aaE (aA (show(!false)=true from rfl))<|ag (gX (aO (aE _ rfl hq)))
section
variable {X:Cx} {A:Around} {E:Value->Shared->Prop} {σ:St} {Q:AV->St->Prop}
theorem NM(h:Q (.bool true) σ):cU X A E (compareOp .NotEq) (.bytes b) (.str x) σ Q:=λg s v u S r r'=>by
 obtain⟨t,rfl⟩:=r;obtain⟨t',rfl⟩:=r'
 exact rc_ne_decline_or (k:=false) (jy s _ t) (ve s x t') (aI rfl) PySem.F.sub_str_bytes PySem.W.FB.slot_bytes_ne PySem.F.slot_str_ne_refl
  (λy hq=>call_gives PySem.W.FB.slot_bytes_ne (jy s _ t) PySem.W.FB.entry_bytes_ne (PySem.W.FB.args_bytes_ne_2 _ _) (PK x t' _ t) hq)
  (λy hq=>call_gives PySem.F.slot_str_ne_refl (ve s x t') PySem.F.entry_str_ne (PySem.F.args_str_ne_2 _ _) (PI x t' _ t) hq)
  (λy hq=>dn (rfl:isSame (.bytes b.toArray t) (.str x t')=pure false) hq) (.inl rfl) (Post.here S .bool h)
theorem PF(h:Q (.bool (!(x==y))) σ):cU X A E (compareOp .NotEq) (.str x) (.str y) σ Q:=λg s v u S r r'=>by
 obtain⟨t,rfl⟩:=r;obtain⟨t',rfl⟩:=r';exact RcNeAt.str_str x t y t' _ _ _ _ (Post.here S .bool h)
theorem PL(h:Q (.bool (x==y)) σ):cU X A E (compareOp .Eq) (.str x) (.str y) σ Q:=λg s v u S r r'=>by
 obtain⟨t,rfl⟩:=r;obtain⟨t',rfl⟩:=r';exact RcAt.str_str x t y t' _ _ _ _ (Post.here S .bool h)
theorem OR(h:Q (.bool false) σ):cU X A E (compareOp .NotEq) .none .none σ Q:=λg s v u S r r'=>by
 subst r r';exact RcNeAt.none_none _ _ _ _ (Post.here S .bool h)
theorem Vq{i n:Nat}(h:i<n):seqIndex? (i:Int) n=some i:=by
 unfold seqIndex?;have h0:=Int.not_lt.mpr (qv i);simp only[h0,j7];refine aaE (aA (by simp;exact h)) ?_;simp
theorem yh{g:View}{T a vs}{s:Shared}(x:SeqAt g T a vs)(hO:g.In s.heap):∃dd n sl,s.heap.get? a=some {cls:=.type T,dict:=dd,data:=.seq vs.toArray n,slots:=sl}:=by
 refine az λkk=>?_;refine cP x λaR n e hc hd=>?_;obtain⟨c,d,dt,sl⟩:=aR;refine kk ?_;dsimp only at hc hd;subst hc hd;exact(Io _ _ _ (hO _ _ e))
theorem FC(S:Sat X g σ s)(rl:RepL g l vs)(h:Qv (.lst l) σ):Post X aL g σ s Qv (.ref s.heap.objs.size) {s with heap:=s.heap.push {cls:=.type "list",data:=.seq vs.toArray}}:=by
 have hn:=View.none_of S.in_ iJ;refine Post.to (Go.keeps_add S (λb o e=>bJ _ e) iJ (cB _ rfl)) (aE (.lst l) ?_ h);exact(cy _ vs rfl (qL rfl rfl) (rl.le (View.le_add _ hn)))
theorem sq(hz:l.length+l'.length<=65536)(h:Q (.lst (l++l')) σ):cU X A E (binaryOp .Add) (.lst l) (.lst l') σ Q:=λg s v u S r r'=>by
 refine cP r λa vs ba hq rl=>?_;clear r;subst ba;refine cP r' λb ws bh fp lG=>?_;clear r';refine aaE bh ?_;refine az λkk=>?_;refine Il (yh hq S.in_) λdd n sl ho=>?_;refine Il (yh fp S.in_) λdd2 n2 sl2 rT=>?_;have e:vs.toArray++ws.toArray=(vs++ws).toArray:=by simp
 refine kk<|concat_meets (aE _ ho rfl) (aE _ rT rfl) noFill_list_add seq_list_add PySem.F.slot_list_add PySem.F.entry_list_add (PySem.F.args_list_add_2 _ _) (list_addW a b vs.toArray ws.toArray n n2 dd dd2 sl sl2 (by(refine aaE f3<|aaE f3<|aaE rl.length<|aaE lG.length<|aaE df ?_);exact ae hz (lb rfl))) (cA ho rT ?_);exact aaE e<|FC S (rl.append lG) h
theorem Q8(hx:x.toNat<=65536)(h0:0<=x)(h:Q (.lst (List.replicate x.toNat (.int 0))) σ):cU X A E (binaryOp .Mult) (.lst [.int 0]) (.int x) σ Q:=λg s v u S r r'=>by
 obtain⟨a,vs,rfl,hq,rl⟩:=r;obtain⟨t,rfl⟩:=r';obtain⟨v0,us,rfl,r0,rl⟩:=rl;obtain rfl:=rl;obtain⟨dd,k,sl,ho⟩:=yh hq S.in_;have c0:¬(!Builtin.List.listFitsIndex x)=true:=by simp[Builtin.List.listFitsIndex];exact⟨fR (aI rfl) h0,AM (b:=65536) (Int.toNat_le.mp hx) (aI rfl)⟩
 have c1:¬([v0].toArray.size*x.toNat>(2 ^ 63 - 1) / 8):=by
  refine aaE (show [v0].toArray.size=1 from rfl) ?_;have:(65536:Nat)<=(2 ^ 63 - 1) / 8:=by decide
  exact j0.mpr (ae (aK (Nat.one_mul _)) (ae hx this))
 have c2:¬Builtin.List.listTooLong ([v0].toArray.size*x.toNat)=true:=by
  refine aaE (show [v0].toArray.size=1 from rfl) ?_;have:=df;unfold Builtin.List.listTooLong
  (refine aaE oN<|aaE this ?_);exact j0.mpr (ae (aK (Nat.one_mul _)) (ae hx (lb rfl)))
 have gm:=PH a [v0].toArray k x t dd sl c0 c1 c2;have gr:=PJ x t a [v0].toArray k dd sl
 refine wpAny_binaryOp_repeat_ref (T:="list") (U:="int") (by decide) ⟨_,ho,rfl⟩ (λs'=>sE s' x t) noFill_list_mul PySem.F.fills_int_mul PySem.F.slot_int_rmul repeat_list PySem.F.slot_int_index.lookup
  (call_meets PySem.F.slot_int_rmul (sE s x t) PySem.F.entry_int_rmul (PySem.F.args_int_rmul_2 _ _) gr
   ⟨ho,rfl,⟨_,ho,rfl⟩,call_meets PySem.F.slot_list_mul ⟨_,ho,rfl⟩ PySem.F.entry_list_mul (PySem.F.args_list_mul_2 _ _) gm ⟨ho,?_⟩⟩)
 have e:(List.foldl (λ(x1 x2:Array Value)=>x1++x2) #[] (List.replicate (if ([v0].toArray).isEmpty=true then 0 else x.toNat) [v0].toArray))=(List.replicate x.toNat v0).toArray:=by
  have:∀(m:Nat) (acc:Array Value),List.foldl (λ(x1 x2:Array Value)=>x1++x2) acc (List.replicate m [v0].toArray)=acc++(List.replicate m v0).toArray:=λm=>by
   induction m with
   |zero=>intro acc;apply Array.ext';simp
   |succ m ih=>intro acc;(refine aaE List.replicate_succ<|aaE List.foldl_cons<|aaE (ih ..)<|aaE List.replicate_succ ?_);apply Array.ext';simp
  (refine aaE (ar (by simp))<|aaE (this ..) ?_);apply Array.ext';simp
 refine aaE e ?_
 have rr:∀m:Nat,RepL g (List.replicate m (.int 0)) (List.replicate m v0):=λm=>by
  induction m with
  |zero=>exact .nil
  |succ m ih=>exact .cons r0 ih
 exact FC S (rr _) h
theorem Ny(hz:l.length<=65536)(h:Q (.lst l) σ):fy X A E (.typ "list") [.lst l] σ Q:=λg s fv vs S r rl=>by
 obtain rfl:=r;obtain⟨v,us,rfl,r,rl⟩:=rl;refine aaE rl ?_;obtain⟨a,ws,rfl,hq,rl⟩:=r;refine az λkk=>?_;obtain⟨dd,n,sl,ho⟩:=yh hq S.in_;refine kk<|call_list_seq a (.inl rfl) ho rfl rfl (λh' c' hk hS=>?_) (by(refine aaE f3<|aaE rl.length<|aaE df ?_);exact kA hz);have hn:=View.none_of S.in_ iJ;refine Post.to (Go.keeps_add (s':={s with heap:=h'}) S hk iJ hS) (aE (.lst l) ?_ h);exact(cy _ ws rfl (qL rfl rfl) (rl.le (View.le_add _ hn)))
theorem NN{ns:List Int}(hh:A.handled=none)(h:Q (.int ns.sum) σ):fy X A E (.blt "sum") [.lst (ns.map .int)] σ Q:=λg s fv vs S r rl=>by
 obtain rfl:=r;obtain⟨v,us,rfl,r,rl⟩:=rl;refine aaE rl ?_;obtain⟨a,ws,rfl,hq,rl⟩:=r;have hi:=Bu rl;obtain⟨xs,Al⟩:=hi.allInts.items;have hl:=gY hq S.in_;rw[Al]at hl;refine sum_intListG hh hl λh' tk t' hk=>?_
 have e:preSum (numAt xs) xs.size=ns.sum:=by
  have:=hi.numsOf;rw[show ws=ws.toArray.toList from rfl,Al,nums_intItems]at this
  (exact aaE (preSum_eq ..)<|aaE (qr (by simp))<|aaE this rfl)
 exact aaE e<|Post.to (Go.keeps (s':={s with heap:=h',toks:=tk}) S hk) ⟨.int ns.sum,by exact⟨_,rfl⟩,h⟩
theorem OT(hu:A.units<cLine)(h:Q (.bool l.isEmpty) σ):cU X A E (compareOp .Eq) (.lst l) (.lst []) σ Q:=λg s v u S r r'=>by
 refine cP r λa vs jL hq rl=>?_;subst jL;refine cP r' λb ws jM fp lG=>?_;refine aaE jM ?_;obtain rfl:=lG;have h1:=gY hq S.in_;have h2:=gY fp S.in_
 clear hq r;cases l with
 |nil=>
  obtain rfl:=rl;exact RcAt.lists (e:=λx=>true) h1 h2 rfl hu (λj h1=>absurd h1 (by simp)) _ _ _ _ (Post.here S .bool h)
 |cons V l=>
  have:=rl.length;exact RcAt.lists_lengths h1 h2 (by simp;intro e;rw[e]at this;simp at this) hu _ _ _ _ (Post.here S .bool h)
theorem OS(hu:A.units<cLine)(h:Q (.bool (!l.isEmpty)) σ):cU X A E (compareOp .NotEq) (.lst l) (.lst []) σ Q:=λg s v u S r r'=>by
 refine cP r λa vs jN hq rl=>?_;subst jN;refine cP r' λb ws jj fp lG=>?_;refine aaE jj ?_;obtain rfl:=lG;have h1:=gY hq S.in_;have h2:=gY fp S.in_
 clear hq r;cases l with
 |nil=>
  obtain rfl:=rl;exact RcNeAt.lists (e:=λx=>true) h1 h2 rfl hu (λj h1=>absurd h1 (by simp)) _ _ _ _ (Post.here S .bool h)
 |cons V l=>
  have:=rl.length;exact RcNeAt.lists_lengths h1 h2 (by simp;intro e;rw[e]at this;simp at this) hu _ _ _ _ (Post.here S .bool h)
theorem Iz:∀{l:List (Option By)} {vs ws:List Value},RepL g (l.map fW) vs->RepL g (l.map fW) ws->∀j (h1:j<vs.toArray.size) (h2:j<ws.toArray.size),EqAt A s vs.toArray[j] ws.toArray[j] true:=λ{l vs ws} r r' j h1 h2=>by
 refine az λkk=>?_;have ej:j<vs.length:=by simpa using h1
 have lF:j<ws.length:=by simpa using h2
 have hl:j<l.length:=by have:=r.length;rw[dF]at this;exact jV ej this
 have hg:(l.map fW)[j]?=some (fW l[j]):=by(refine aaE (kL) ?_;refine aaE (hZ hl) ?_);rfl
 refine ax (r.get hg) λv hv rv=>?_;refine ax (r'.get hg) λw hw rw_=>?_;have ev:vs.toArray[j]=v:=by rw[hZ ej]at hv;simpa using hv
 have ew:ws.toArray[j]=w:=by rw[hZ lF]at hw;simpa using hw
 refine kk ?_
 (refine aaE ev<|aaE ew ?_)
 cases q:l[j]with
 |none=>rw[q]at rv rw_;unfold fW Rep at rv rw_;clear hv hw ev ew;subst rv rw_;exact EqAt.same _
 |some b=>
  rw[q]at rv rw_;unfold fW Rep at rv rw_;obtain⟨t,rfl⟩:=rv;clear hw ew;obtain⟨t',rfl⟩:=rw_;have:=(Fk b.toArray b.toArray t t').at A s
  rwa [sj rfl]at this
theorem Qr{l:List (Option By)}(hu:A.units<cLine)(h:Q (.bool true) σ):cU X A E (compareOp .Eq) (.lst (l.map fW)) (.lst (l.map fW)) σ Q:=λg s v u S r r'=>by
 refine cP r λa vs zL hq rl=>?_;clear r;subst zL;refine cP r' λb ws DF fp lG=>?_;clear r';refine aaE DF ?_;refine RcAt.lists (e:=λx=>true) (gY hq S.in_) (gY fp S.in_) (by(exact aaE f3<|aaE f3<|aaE rl.length<|aaE lG.length rfl)) hu (Iz rl lG) _ _ _ _ ?_;refine aaE (show(List.range vs.toArray.size).all (λx=>true)=true from by simp) ?_;exact Post.here S .bool h
theorem Qs{l:List (Option By)}(hu:A.units<cLine)(h:Q (.bool false) σ):cU X A E (compareOp .NotEq) (.lst (l.map fW)) (.lst (l.map fW)) σ Q:=λg s v u S r r'=>by
 refine cP r λa vs XX hq rl=>?_;clear r;subst XX;refine cP r' λb ws DG fp lG=>?_;clear r';refine aaE DG ?_;refine RcNeAt.lists (e:=λx=>true) (gY hq S.in_) (gY fp S.in_) (by(exact aaE f3<|aaE f3<|aaE rl.length<|aaE lG.length rfl)) hu (Iz rl lG) _ _ _ _ ?_;refine aaE (show(List.range vs.toArray.size).all (λx=>true)=true from by simp) ?_;exact Post.here S .bool h
theorem Bs{value slice:Expr}{l:List AV}{i:Nat}{V:AV}(hz:l.length<=65536)(hi:l[i]?=some V)(h:Q V σ):cU X A E (subscriptTail value slice) (.tup l) (.int i) σ Q:=λg s v u S r r'=>by
 refine cP r λa vs XY hq rl=>?_;clear r;subst XY;obtain⟨t,rfl⟩:=r';refine ax (rl.get hi) λx hx rx=>?_;have cG:=(ES.mp hi).1;have ht:=GN hq S.in_;refine qU ht.typeIs slot_tuple_getitem.lookup (getItem_tuple (j:=i) ht (fR (aI rfl) (qv i)) (wF (ae (dS cG) hz) rfl) ?_ (by simpa using hx) (Post.here S rx h));have:=rl.length
 (refine aaE f3<|aaE this ?_)
 exact Vq cG
end
noncomputable def BD.del(l:BD)(k:By):BD:=l.filter λp=>decide (p.1≠k)
theorem KVs.del:∀{l:BD} {kvs:List (List UInt8×Value)},KVs l kvs->KVs (l.del k) (without kvs k)
 |[],_,h=>by refine aaE h ?_;unfold BD.del without KVs;rfl
 |(k',b)::l,_,h=>by
  obtain⟨t,r,rfl,h⟩:=h;have ih:=h.del (k:=k);unfold BD.del without at ih ⊢
  by_cases e:k'=k
  ·(refine aaE (uu (by simpa using e))<|aaE (uu (by simpa using e)) ?_);exact ih
  ·(refine aaE (r6 (by simpa using e))<|aaE (r6 (by simpa using e)) ?_)
   exact(ey t _ rfl ih)
section
variable {X:Cx} {A:Around} {E:Value->Shared->Prop} {σ:St} {Q:AV->St->Prop} {a:Addr} {l:BD} {k:By}
theorem Ng(bf:σ a=some (.dict l))(ha:a≠1)(hz:l.length<=65536)(h:match l.lookup k with|some b=>Q (.bytes b) (σ.set a (.dict (l.del k)))|none=>Q D σ):fy X A E (.blt "dict.pop") [.ref a,.bytes k,D] σ Q:=λg s fv vs S r rl=>by
 refine aaE r ?_;obtain⟨v,us,rfl,r,rl⟩:=rl;obtain⟨u,ws,rfl,r',rl⟩:=rl;obtain⟨w,zs,rfl,w5,rl⟩:=rl;obtain rfl:=rl;refine aaE r ?_;obtain⟨t,rfl⟩:=r';refine az λkk=>?_;obtain⟨kvs,hd,hk⟩:=jC S bf;obtain⟨h1,h2⟩:=hk.value (k:=k);refine kk ?_
 cases q:l.lookup k with
 |none=>
  rw[q]at h;exact call_meetsIn PySem.F.slot_dict_pop hd.typeIs PySem.F.entry_dict_pop (PySem.F.args_dict_pop_3 _ _ _) (meets_dict_pop_default (bytesKind P0 X.w) a (qG P0 X.w k t) (by simpa [sysModules]using ha) rfl w) (dh kvs hd (h2 q) (Post.tok S w5 h))
 |some b=>
  rw[q]at h;obtain⟨t',e⟩:=h1 b q;refine call_meetsIn PySem.F.slot_dict_pop hd.typeIs PySem.F.entry_dict_pop (PySem.F.args_dict_pop_3 _ _ _) (meets_dict_pop_there (bytesKind P0 X.w) a (qG P0 X.w k t) [w] (.inr ⟨w,rfl⟩) rfl) (lX kvs _ hd (by(refine aaE hk.len<|aaE df ?_);exact kA hz) e (λh' cZ hs=>?_));have G:=Go.setTrk (s':={s with heap:=h',toks:=s.toks+1}) S bf hs (t':=.dict (l.del k)) (aE _ cZ hk.del);exact Post.to G (aE (.bytes b) .bytes h)
theorem OU(bf:σ a=some (.dict l))(XZ:σ b=some (.dict l'))(ha:a≠1)(hb:b≠1)(hu:A.units<cLine)(bR:l.length≠l'.length)(h:Q (.bool false) σ):cU X A E (compareOp .Eq) (.ref a) (.ref b) σ Q:=λg s v u S r r'=>by
 subst r r';refine az λkk=>?_;refine ax (jC S bf) λkvs hd hk=>?_;refine ax (jC S XZ) λaap cZ hU=>?_;have hT:=hd.typeIs;have gR:=cZ.typeIs;refine kk ?_;show wpAny (model P0 X.w) A (richCompare .Eq (.ref a) (.ref b)) _ _ _;refine wpAny_richCompare_same_room (T:="dict") hT gR PySem.F.slot_dict_eq (i7 PySem.F.slot_dict_eq hT PySem.F.entry_dict_eq ?_ (PySem.F.args_dict_eq_2 _ _)) hu;refine az λkk=>?_;obtain⟨ep,o,es,ho,hc,X1,iX,hp,hn⟩:=hd.dictAt;obtain⟨ep',o',ZM,dj,dA,Wm,aaq,da,eO⟩:=cZ.dictAt;refine kk ?_;show wpAny _ _ (Builtin.Dict.dictSlotArgs "__eq__" ⟨[.ref a,.ref b],[]⟩>>= λx=>_) _ _ s;refine ag ?_;unfold Builtin.Dict.dictSlotArgs;refine ag (wpAny_notOrdered_dict hT ?_);refine aO ?_;refine ag (lO (b:=true) gR (by refine aaE (xH ..) ?_;kernel_rfl) ?_);show wpAny _ _ (Builtin.Dict.samePairs "dict.__eq__" a b>>= λr=>_) _ _ s;refine ag ?_;unfold Builtin.Dict.samePairs Builtin.Dict.showsAll
 (refine aaE (ar (by simpa [sysModules]using ha))<|aaE (ar (by simpa [sysModules]using hb)) ?_)
 refine ag (aO (ag (aO ?_)));refine ag (wpAny_dictEntries ho X1 (ag (wpAny_dictEntries dj Wm ?_)));have e1:es.size=l.length:=by(refine aaE (aq hk.len)<|aaE (aq hp.length) ?_);simp
 have e2:ZM.size=l'.length:=by(refine aaE (aq hU.len)<|aaE (aq da.length) ?_);simp
 refine aaE (aA (by rw[qK,e1,e2];exact bR)) ?_;refine ag (gX (aO ?_));exact aO (dh _ rfl (λe=>nomatch e) (Post.here S .bool h))
end
structure DIt(X:Cx)(a:Addr)(o:Obj)(kvs:List (By×Value))(ep:Nat)(l:BD):Prop where
 at_:∀h:Heap,h.get? a=some o->h.DictAt (bytesKind P0 X.w) a kvs ep
 kv:KVs l kvs
noncomputable def Yw(X:Cx)(a:Addr)(o:Obj)(n ep:Nat)(I:Addr)(ks:List By):l9:=λown L g σ s=>own=cH I/\Free X g σ I/\σ a=some (.obj o)/\∃i,s.heap.IsKeyIter I a i n ep/\(ks.drop i).map .bytes=L
theorem Qt(D:DIt X a o kvs ep l):Itr X k tgt (.ref I) (λσ ab=>ab a=σ a) (Yw X a o kvs.length ep I (l.map (·.1))):=by
 have atk:∀{i:Nat} {V:AV} {L:List AV},((l.map (·.1)).drop i).map AV.bytes=V::L->∃key x,kvs[i]?=some (key,x)/\V=.bytes key/\((l.map (·.1)).drop (i+1)).map AV.bytes=L:=λ{i V L} h=>by
  cases q:(l.map (·.1)).drop i with
  |nil=>rw[q]at h;cases h
  |cons y r=>
   rw[q]at h;obtain⟨e1,e2⟩:=qN q;rw[←D.kv.keys,kL,EZ]at e1;clear q;obtain⟨⟨key,x⟩,e1,rfl⟩:=e1;cases h;exact(cy key x e1 rfl (by exact aaE e2 rfl))
 refine⟨λ{A own V L g σ s} hA S zq21=>eE zq21 λe hf bf i hit hL=>?_,λ{A own g σ s} hA S zq22=>eE zq22 λe hf bf i hit hL=>?_,λz=>rfl,λ{own L g σ s} zq23=>eE zq23 λe hf bf i hit hL=>?_,λ{A own L g σ s Q} hA S zq24 q=>eE zq24 λe hf bf i hit hL=>wpAny_pyIter_keyiter hit q,λ{own L P g σ s g' ab s'} zq25 G aZ hd=>eE zq25 λe hf bf i hit hL=>?_⟩
 ·have qi:=D.at_ _ (S.trk a _ bf).2
  clear zq21;obtain⟨key,x,hx,rfl,rC⟩:=atk hL;refine wpAny_pyNext_dict_item hit qi hx λkv h' hk iu hs=>(aE kv rfl ?_);obtain⟨o',dj,dA,_⟩:=id iu;refine A5 (s:={s with heap:=h'}) dj dA (by decide) ⟨g,own,.refl _ _,?_,?_,e,hf,bf,i+1,iu,rC⟩
  ·exact aaE e<|Go.sameBut S hs hf rfl
  ·obtain⟨t,rfl⟩:=isBytes_shape hk
   exact⟨t,rfl⟩
 ·have qi:=D.at_ _ (S.trk a _ bf).2
  have hn:kvs[i]?=none:=by
   have:(l.map (·.1)).drop i=[]:=by simpa using hL
   have:=sG this;rw[←D.kv.keys,kL,Option.map_eq_none_iff]at this;exact this
  refine wpAny_pyNext_dict_end hA.handled hit qi hn λh' hs=>(q9 rfl g ?_);clear zq22;subst e;exact Go.extBut S hf hs rfl
 ·refine aaE e ?_
  obtain⟨o',dj,_⟩:=hit;exact⟨λb q=>⟨o',by exact aaE (show b=I from q)<|dj⟩,λz q=>q.elim⟩
 ·clear zq25;subst e
  obtain⟨o',dj,dA,cZ⟩:=id hit;have hp:=aZ.1 I rfl;refine(nZ rfl (hf.go G dj hp) (by exact aaE hd<|bf) i ?_ hL);rcases G.run.keep I o' dj hf.2.1 hf.2.2 hp with q|⟨q,_⟩
  ·exact(dh o' q dA cZ)
  ·obtain⟨_,_,q⟩:=q;rw[cZ]at q;cases q
section
variable {X:Cx} {A:Around} {E:Value->Shared->Prop} {σ:St} {a:Addr} {l:BD}
theorem Go.retrk(S:Sat X g σ s)(bf:σ a=some t)(h:TrkAt X.w g s.heap a t'):Go X aL g σ s g (σ.set a t') s:=by
 have hn:∀b,σ.set a t' b=none↔σ b=none:=λb=>by
  unfold St.set;split
  ·rename_i e;(refine aaE e<|aaE bf ?_);simp
  ·rfl
 refine⟨⟨S.le,S.in_,λb u e=>?_,λp hp=>?_⟩,.refl g,λ_ _ _ _=>rfl,λb _ _ _=>hn b,.keeps (λ_ _ e=>e) rfl rfl⟩
 ·unfold St.set at e;split at e
  ·rename_i q;(refine aaE (aq (bq e)) ?_);exact aaE q<|⟨(S.trk a _ bf).1,h⟩
  ·exact S.trk b u e
 ·refine az λkk=>?_
  refine s9 (S.tab p hp) λe1 e2 e3 e4=>?_;exact kk<|(k7 e1 ((hn _).mpr e2) e3 e4)
theorem Qu(bf:σ a=some (.dict l))(ha:a≠1)(h:∀o,(∀g h,h.get? a=some o->TrkAt X.w g h a (.dict l))->Q (λσ ab=>ab a=σ a) ((l.map (·.1)).map .bytes) (σ.set a (.obj o))):rp X A E k tgt (.ref a) σ Q:=λg s v S r=>by
 refine aaE r<|az λkk=>?_;refine ax (jC S bf) λkvs hd hk=>?_;obtain⟨ep,qi⟩:=hd.dictAt;refine iF (id qi) λo es ho hx=>?_;have D:DIt X a o kvs ep l:=⟨λh e=>(ey o es e hx),hk⟩;have G0:=Go.retrk S bf (t':=.obj o) ho;have G:Go X aL g σ s g (σ.set a (.obj o)) {s with heap:=s.heap.push {cls:=.type "dict_keyiterator",data:=.fields #[.ref a,.int 0 0,.int kvs.length 0,.int ep 0]}}:=G0.trans (Go.keeps G0.sat λb o e=>bJ _ e);have hf:=dG G0.sat (bC _);exact kk<|wpAny_pyIter_dict (by simpa [sysModules]using ha) qi ⟨g,_,_,_,_,_,G,uY,Qt D,(nZ rfl hf (by unfold St.set;exact aaE (aA rfl) rfl) 0 (dh _ (cB _ rfl) rfl rfl) rfl),h o λg h e=>(aE kvs ((D.at_ h e).dictOf) hk)⟩
theorem Q9(h:Ev X A E env m e σ λV ab=>(∃o,ab a=some (.obj o)/\(∀g h,h.get? a=some o->TrkAt X.w g h a (.dict l)))/\Q V (ab.set a (.dict l))):Ev X A E env m e σ Q:=λg s S F=>
 aB (h g s S F) (λv s₁ zz=>zz.rec λaJ V ay ai aX c5=>bY c5 λ⟨o,h1,h2⟩ q=>⟨aJ,V,_,ai.trans (Go.retrk ai.sat h1 (h2 _ _ (ai.sat.trk a _ h1).2)),aX,q⟩) i2
end
end
section
open PySem.W.X
noncomputable def WG:List By:=[[65,0],[65,1],[65,128],[65,255],[64,1],[97,1],[193,0],[193,1]]
noncomputable def aaj:List By:=[[65],[193],[64],[67]]
noncomputable def WE:List By:=[[0],[1],[128],[255]]
structure Base7(X:Cx):Prop extends Base6 X where
 g_sorted:bV X "sorted" (.blt "sorted")
 g_keys:bV X "_law_keys" (.lst (WG.map .bytes))
 f_octets:Fn X 416 49 "_law_octets" .none
 g_octets:bV X "_law_octets" (.ref 416)
 f_ends:Fn X 423 50 "_law_ends" .none
 g_ends:bV X "_law_ends" (.ref 423)
 f_path:Fn X 428 51 "_law_path" .none
 g_path:bV X "_law_path" (.ref 428)
 f_node:Fn X 433 52 "_law_node" .none
 g_node:bV X "_law_node" (.ref 433)
 f_tree:Fn X 438 53 "_law_tree" .none
 g_tree:bV X "_law_tree" (.ref 438)
section
variable {X:Cx} {A:Around} {σ:St} {Q:AV->St->Prop}
theorem FR(h:Q (.rng 0 n 1) σ):fy X A aC (.typ "range") [.int n] σ Q:=λg s fv vs S r rl=>by
 obtain rfl:=r;obtain⟨v,us,rfl,r,rl⟩:=rl;obtain rfl:=rl;obtain⟨t,rfl⟩:=r;refine call_range_1 ?_;generalize eW:({cls:=.type "range",data:=.fields #[.int 0 s.toks,.int n t,.int 1 (s.toks+1)]}:Obj)=ob;have kp:∀b o,s.heap.get? b=some o->(s.heap.push ob).get? b=some o:=λb o e=>bJ _ e;have ai:Go X aL g σ s g σ {s with heap:=s.heap.push ob,toks:=s.toks+1+1}:=Go.keeps S kp;have hf:=dG (a:=s.heap.objs.size) S (bC _);have aN:=Go.freeze ai.sat hf (cB _ (by refine aaE (aq eW) ?_;rfl));refine Post.to (ai.comp aN ⟨λb o e q=>?_,λx x q=>q⟩) (aE (.rng 0 n 1) ?_ h)
 ·rw[show b=s.heap.objs.size from q]at e;exact de _ (cC e)
 ·exact(sU _ s.toks t (s.toks+1) rfl (by unfold View.add;(exact aaE (aA rfl)<|aaE (aq eW) rfl)))
theorem oV(hz:l.length<=65536)(h:Q (.int l.length) σ):fy X A E (.blt "len") [.lst l] σ Q:=λg s fv vs S r rl=>by
 obtain rfl:=r;obtain⟨v,us,rfl,r,rl⟩:=rl;obtain rfl:=rl;obtain⟨a,ws,rfl,hq,rl⟩:=r;have e:=rl.length;have hl:=gY hq S.in_;refine Calls.call_len_list hl (by(refine aaE f3<|aaE e ?_);exact wF hz rfl) ?_
 (refine aaE f3<|aaE e ?_)
 exact Post.tok S .int h
end
section
variable {X:Cx} {σ:St} (hX:Base7 X)
include hX
theorem PM(h:Q (.lst (aaj.map .bytes)) σ):CallOk X 1 (.ref 416) [] σ Q:=by
 refine bk hX.f_octets λcode pm F=>?_;refine dQ F [] (c7 [] λvs hv=>?_) rfl λA L hA=>?_
 ·(apply Dx hv;rfl)
 exact aw<|cD<|mS<|ak<|ig<|ak<|ig<|ak<|ig<|ak<|ig<|aD ⟨by exact aaE df<|fZ rfl,h⟩
theorem yH(h:Q (.lst (WE.map .bytes)) σ):CallOk X 1 (.ref 423) [] σ Q:=by
 refine bk hX.f_ends λcode pm F=>?_;refine dQ F [] (c7 [] λvs hv=>?_) rfl λA L hA=>?_
 ·(apply Dx hv;rfl)
 exact aw<|cD<|mS<|ak<|ig<|ak<|ig<|ak<|ig<|ak<|ig<|aD ⟨by exact aaE df<|fZ rfl,h⟩
end
theorem kW(b:By):(bl b).length=b.length:=by simp[bl]
theorem sY(a b:By):bl (a++b)=bl a++bl b:=by simp[bl]
theorem Qw(b:By):(rowK b).length % 8=0/\(rowK b).length<=b.length+11:=by
 have h4:(c8 b).length % 4=0/\(c8 b).length<=b.length+3:=by
  unfold c8;(refine aaE cw<|aaE E5 ?_);exact Uj
 first|((refine aaE cw<|aaE cw ?_);done)|(refine aq (cw)▸?_;refine aq (cw)▸?_)|rw[cw,cw]
 have ht:(two (b.length % 4)).length=2:=rfl
 first|(refine aaE ht ?_;done)|(refine aq (ht)▸?_)|rw[ht]
 split
 ·rename_i q;have:(c8 b).length % 8=4:=by simpa using q
  simp only[cW,oP];exact TS h4 this
 ·rename_i q;have:(c8 b).length % 8≠4:=by simpa using q
  simp only[cW,oP];exact Tg h4 this
noncomputable def px(c:By)(i:Nat):Int:=((c.getD i 0).toNat:Int)*2 ^ (7 - i)
theorem OV(c:By)(h:c.length=8):gv c=((List.range 8).map (px c)).sum:=by
 apply Dv h;intro a0 a1 a2 a3 a4 a5 a6 a7
 ·simp only[gv,List.reverse_cons,List.reverse_nil,gT,A4,kq,List.sum_cons,List.sum_nil,show List.range 8=[0,1,2,3,4,5,6,7]from rfl,eB,List.map_nil,px,List.getD_cons_zero,List.getD_cons_succ]
  lia -abstractProof
section
variable {X:Cx} {σ:St} (hX:Base7 X)
include hX
theorem Ra(hb:ck b)(hz:b.length<=64)(h:Q (.bytes (eT b)) σ):CallOk X 5 (.ref 428) [.lst (bl b)] σ Q:=by
 refine bk hX.f_path λcode pm F=>?_;have hl:=kW b
 have e1:(-((bl b).length:Int)).fmod 4=(((4 - b.length % 4) % 4:Nat):Int):=by
  (refine aaE hl<|aaE (ur _ (by decide)) ?_);exact Te
 have e2:(((bl b).length:Int).fdiv 2).fmod 2=(((b.length % 4 / 2 % 2).toUInt8.toNat:Nat):Int):=by
  have:(b.length % 4 / 2 % 2).toUInt8.toNat=b.length % 4 / 2 % 2:=by
   show(UInt8.ofNat _).toNat=_;exact aaE AO<|AY (bT (Nat.mod_lt _ (lb rfl)) (lb rfl))
  (refine aaE hl<|aaE this<|aaE (Int.fdiv_eq_ediv_of_nonneg _ (by decide))<|aaE (ur _ (by decide)) ?_);exact Tq
 have e3:((bl b).length:Int).fmod 2=(((b.length % 4 % 2).toUInt8.toNat:Nat):Int):=by
  have:(b.length % 4 % 2).toUInt8.toNat=b.length % 4 % 2:=by
   exact aaE AO<|AY (bT (Nat.mod_lt _ (lb rfl)) (lb rfl))
  (refine aaE hl<|aaE this<|aaE (ur _ (by decide)) ?_);exact UM
 have ef:List.replicate ((((4 - b.length % 4) % 4:Nat):Int)).toNat (AV.int 0)++bl b=bl (c8 b):=by
  unfold c8;(refine aaE (sY ..)<|aaE (kM ..) ?_);congr 1;unfold bl;refine aaE List.map_replicate ?_;rfl
 refine dQ (k:=4) F ["bits"] (c7 ["bits"] λvs hv=>?_) rfl λA L hA=>?_
 ·(apply ml hv;intro v;rfl)
 refine aw<|bE<|bK<|bK<|mS<|ak<|aY<|aD ⟨by exact aaE df<|fZ rfl,bK<|Cu<|aV<|eg hX.g_len<|ak<|af (.lst (bl b))<|aD ⟨trivial,oV (kB hz hl)<|Bt<|aY<|jB (by decide) ?_⟩⟩;refine aaE e1<|Q8 (U2) (Tc)<|aV<|eg hX.g_list<|ak<|af (.lst (bl b))<|aD ⟨trivial,Ny (kB hz hl)<|sq (by exact aaE E5<|Uk hz hl) ?_⟩;refine aaE ef<|aQ<|aw<|bE<|mS<|ak<|bK<|bK<|aV<|eg hX.g_len<|ak<|af (.lst (bl b))<|aD ⟨trivial,oV (kB hz hl)<|aY<|uU (by decide) (by decide)<|aY<|jB (by decide)<|ak<|bK<|aV<|eg hX.g_len<|ak<|af (.lst (bl b))<|aD ⟨trivial,oV (kB hz hl)<|aY<|jB (by decide)<|aD ⟨by exact aaE df<|fZ rfl,?_⟩⟩⟩
 (refine aaE e2<|aaE e3 ?_)
 refine aaE (show([AV.int (((b.length % 4 / 2 % 2).toUInt8.toNat:Nat):Int),AV.int (((b.length % 4 % 2).toUInt8.toNat:Nat):Int)]:List AV)=bl (two (b.length % 4))from rfl)<|aQ ?_;have bP:=kW (c8 b);have EC:(c8 b).length<=67:=by unfold c8;(refine aaE cw<|aaE E5 ?_);exact S6 hz
 have hr:=Qw b;refine aw<|Ex.mono (Q:=λF m' ab=>F=.next/\ab=σ/\∃m0:Mp,m'=m0.upd "whole" (.lst (bl (rowK b)))) ?_ ?_
 ·refine bE<|yJ<|aT<|bK<|aV<|eg hX.g_len<|ak<|aP (V:=.lst (bl (c8 b))) rfl<|aD ⟨trivial,oV (TC bP EC)<|aY<|jB (by decide)<|aY<|cu (iH (?_))⟩
  have e4:(((bl (c8 b)).length:Int).fmod 8==4)=((c8 b).length % 8==4):=by
   (refine aaE bP<|aaE (ur _ (by decide)) ?_)
   (refine aaE (propext xA)<|aaE (propext cM)<|aaE (propext cM) ?_);exact UC
  refine aaE e4<|wG (λq=>?_) λq=>?_
  ·refine aaE (show rowK b=[0,0]++two (b.length % 4)++c8 b from by unfold rowK;rw[aA q]) ?_
   refine bK<|bK<|mS<|ak<|aY<|ak<|aY<|aD ⟨by exact aaE df<|fZ rfl,aP (V:=.lst (bl (two (b.length % 4)))) rfl<|sq (by simp[bl,two])<|aP (V:=.lst (bl (c8 b))) rfl<|sq (by simp[bl,two];exact Ve EC) ?_⟩;refine lZ (c:=L+1) rfl (by decide) rfl ⟨gV _,.inr ⟨"whole",by rfl⟩⟩ ⟨rfl,rfl,?_⟩;rw[sY,sY];exact⟨_,rfl⟩
  ·refine aaE (show rowK b=[1,0,0,0,0,0]++two (b.length % 4)++c8 b from by unfold rowK;rw[q,ar kK]) ?_
   refine bK<|bK<|mS<|ak<|aY<|ak<|aY<|ak<|aY<|ak<|aY<|ak<|aY<|ak<|aY<|aD ⟨by exact aaE df<|fZ rfl,aP (V:=.lst (bl (two (b.length % 4)))) rfl<|sq (by simp[bl,two])<|aP (V:=.lst (bl (c8 b))) rfl<|sq (by simp[bl,two];exact U5 EC) ?_⟩;refine lZ (c:=L+1) rfl (by decide) rfl ⟨gV _,.inr ⟨"whole",by rfl⟩⟩ ⟨rfl,rfl,?_⟩;rw[sY,sY];exact⟨_,rfl⟩
 rintro F' m' ab ⟨rfl,rfl,m0,rfl⟩;have iI:=kW (rowK b)
 have cz:ck (rowK b):=by
  refine mO (mO ?_ (yq _)) (BB hb)
  split<;>(intro c hc;simp at hc;rcases hc with rfl|rfl<;>simp)
 have h':Q (.bytes (ny (rowK b))) ab:=h;generalize rowK b=row at *;have hw:=Um hz hr
 refine aw<|cD<|aV<|eg hX.g_bytes<|ak<|mH (k:=4) (λD env=>T1 D env _) (λC env=>J1 X A env _) hA (λC D it=>lg) (λD C fY hD=>kj hD) rfl rfl (by decide) (by decide)
  <|g7<|aV<|eg hX.g_range<|ak<|aY<|ak<|aV<|eg hX.g_len<|ak<|af (.lst (bl row))<|aD ⟨trivial,oV (Tf iI hw)<|ak<|aY<|aD ⟨trivial,FI (by decide) (EX (by decide)) ?_⟩⟩
 refine aaE iI<|yb (Fx row (TN hw)) (Bp row) λC=>
   ja (λm=>m "whole"=some (.lst (bl row))) (λy=>true) (λV=>match V with|.int i=>.int (gv ((row.drop i.toNat).take 8))|V=>V) trivial _ _ [] (λV hV m hm=>?_) ?_ rfl λm' y=>?_
 ·refine ax (cb.mp hV) λi hi aR=>?_;subst aR
  have gz:=xI.mp hi;refine lZ (c:=C+1) rfl (by decide) rfl ⟨gV _,.inr ⟨"k",by rfl⟩⟩ ⟨rfl,rfl,rfl,?_,λy=>?_⟩
  ·refine aaE (aq hm) ?_;rfl
  have IX:=UU hr gz;have iW:((row.drop (8*i)).take 8).length=8:=by(refine aaE jW<|aaE dE ?_);exact TK IX
  have X2:∀q,q<8->((row.drop (8*i)).take 8).getD q 0=row.getD (8*i+q) 0:=λq hq=>by
   refine aaE (lJ) ?_;refine aaE (lJ) ?_;refine aaE (List.getElem?_take_of_lt hq) ?_;exact aaE (List.getElem?_drop) rfl
  refine aV<|eg hX.g_sum<|ak<|mH (k:=4) (λD env=>T1 D env _) (λC env=>J1 X A env _) hA (λC D it=>lg) (λD C fY hD=>kj hD) rfl rfl (by decide) (by decide)
   <|g7<|aV<|eg hX.g_range<|ak<|aY<|aD ⟨trivial,FR<|yb (n:=8) (by decide) (by decide) λC'=>
    ja (λm=>m "whole"=some (.lst (bl row))/\m "k"=some (.int (0+(i:Int)*8))) (λy=>true) (λV=>match V with|.int q=>.int (px ((row.drop (8*i)).take 8) q.toNat)|V=>V) trivial _ _ [] (λV hV m2 eP=>?_) (by simp[fK]) ⟨?_,by rfl⟩ λm' y=>?_⟩
  ·refine ax (cb.mp hV) λq hq ba=>?_;subst ba
   have fp:=xI.mp hq;refine aQ ⟨rfl,rfl,rfl,⟨?_,?_⟩,λy=>?_⟩
   ·refine aaE (aq eP.1) ?_;rfl
   ·refine aaE (aq eP.2) ?_;rfl
   refine bK<|bz<|aP (V:=.lst (bl row)) (by refine aaE (aq eP.1) ?_;rfl)<|bK<|aP (V:=.int (0+(i:Int)*8)) (by refine aaE (aq eP.2) ?_;rfl)<|aP (V:=.int (0+(q:Int)*1)) rfl<|mK ?_;refine aaE (X8 i q) ?_;have ED:=bT (Nat.add_lt_add_left fp (8*i)) IX;refine jx (V:=.int ((row.getD (8*i+q) 0).toNat:Int)) (ae (aK (kW row)) (ae hw (lb rfl))) ?_<|bK<|aY<|bK<|aY<|aP (V:=.int (0+(q:Int)*1)) rfl<|xY ?_
   ·unfold bl
    (refine aaE (kL) ?_;refine aaE (hZ ED) ?_;refine aaE (lJ) ?_;refine aaE (hZ ED) ?_);rfl
   refine aaE (H6 fp)<|B3 (Nat.sub_le _ _)<|FY ⟨rfl,?_⟩ ?_
   ·show AV.int _=AV.int (px _ (0+(q:Int)*1).toNat)
    refine aaE (Cr (a:=q)) ?_;unfold px;exact aaE (X2 q fp) rfl
   ·have rD:=cz _ (E9 (show row[8*i+q]?=some (row.getD (8*i+q) 0)from by(refine aaE (lJ) ?_;refine aaE (hZ ED) ?_);rfl))
    exact .of_left (by rcases rD with w|w<;>refine aaE w ?_<;>decide)
  ·refine aaE (aq hm) ?_;rfl
  ·have e:((fK 0 1 8).filter λy=>true)=fK 0 1 8:=by simp
   (refine aaE e<|aaE (gT ..) ?_)
   have e2:(fK 0 1 8).map (λV=>match V with|AV.int q=>AV.int (px ((row.drop (8*i)).take 8) q.toNat)|V=>V)=(((List.range 8).map (px ((row.drop (8*i)).take 8))).map AV.int):=by
    unfold fK;rw[fS,fS];apply r9;intro q y;show AV.int (px _ (0+(q:Int)*1).toNat)=_;refine aaE (Cr (a:=q)) ?_;rfl
   refine aaE e2<|aD ⟨trivial,NN hA.handled ⟨rfl,?_⟩⟩;show AV.int _=AV.int (gv ((row.drop (0+(i:Int)*8).toNat).take 8))
   (exact aaE (Cq (a:=i))<|aaE (OV _ iW) rfl)
 ·simp[fK];exact ae (uB _ _) (ae (dD hw 7) (lb rfl))
 ·have e:((fK 0 8 ((row.length+7) / 8)).filter λy=>true)=fK 0 8 ((row.length+7) / 8):=by simp
  (refine aaE e<|aaE (gT ..) ?_)
  have e2:(fK 0 8 ((row.length+7) / 8)).map (λV=>match V with|AV.int i=>AV.int (gv ((row.drop i.toNat).take 8))|V=>V)=(((ik row).map gv).map AV.int):=by
   unfold fK ik
   (refine aaE fS<|aaE fS<|aaE fS ?_)
   apply r9;intro i y;show AV.int (gv ((row.drop (0+(i:Int)*8).toNat).take 8))=_;refine aaE (Cq (a:=i)) ?_;rfl
  refine aaE e2<|aD ⟨trivial,xy hA.handled (λn hn=>?_) (by(refine aaE (dF ..)<|aaE (uM ..) ?_);exact ae (uB _ _) (ae (dD hw 7) (lb rfl))) ?_⟩
  ·refine ax (cb.mp hn) λc hc bh=>?_;subst bh
   exact F6 (vj hc) λx hx=>cz x (vi hc hx)
  ·exact aaE fS<|h'
end
noncomputable abbrev gP:=List (By×By)
structure RowsOk(n:Nat)(R:gP):Prop where
 ne:R≠[]
 len:∀r∈R,r.1.length=n
 bits:∀r∈R,ck r.1
 nd:(R.map (·.1)).Nodup
 val:∀r∈R,r.2≠[]/\r.2.length<=16
def IB(R:gP):Prop:=∃r1∈R,∃r2∈R,r1.1.take 1≠r2.1.take 1
structure Tr(n:Nat)(R:gP)(t:T):Prop where
 wf:WF n t
 short:fA t
 look:∀p,p.length=n->ck p->look t p=R.lookup p
noncomputable def km(c:Nat)(R:gP):gP:=R.map λr=>(r.1.drop c,r.2)
noncomputable def fB(s:UInt8)(R:gP):gP:=km 1 (R.filter λr=>r.1.take 1==[s])
theorem Bz:∀{R:gP} {p:By} {c:Nat},(∀r∈R,r.1.take c=b)->b.length=c->R.lookup (b++p)=(km c R).lookup p
 |[],_,_,_,_=>rfl
 |(k,v)::R,p,c,h,hb=>by
  have hk:=h (k,v) cV;have ih:=Bz (R:=R) (p:=p) (c:=c) (λr hr=>h r (cj _ hr)) hb;show List.lookup (b++p) ((k,v)::R)=List.lookup p ((k.drop c,v)::km c R)
  (refine aaE cL<|aaE cL ?_)
  have e:(b++p==k)=(p==k.drop c):=by
   (refine aaE (propext xA)<|aaE (propext cM)<|aaE (propext cM) ?_)
   constructor
   ·intro q;(exact aaE (aq q)<|aaE (aq hb)<|aaE (uG rfl) rfl)
   ·intro q;(exact aaE q<|aaE (aq hk)<|aaE (i0 ..) rfl)
  (exact aaE e<|aaE ih rfl)
theorem Nh{R:gP}{p:By}(h:∀r∈R,r.1≠p):R.lookup p=none:=by
 induction R with
 |nil=>rfl
 |cons r R ih=>
  obtain⟨k,v⟩:=r
  (refine aaE cL<|aaE (show(p==k)=false from cR.mpr λe=>h (k,v) cV e.symm) ?_)
  exact ih λr hr=>h r (cj _ hr)
theorem Nz{R:gP}{f:By×By->Bool}{p:By}(h:∀v,f (p,v)=true):(R.filter f).lookup p=R.lookup p:=by
 induction R with
 |nil=>rfl
 |cons r R ih=>
  obtain⟨k,v⟩:=r
  by_cases e:p=k
  ·subst e
   (refine aaE (r6 (h v))<|aaE cL<|aaE cL ?_);simp
  ·have e':=cR.mpr e
   by_cases hf:f (k,v)=true
   ·(exact aaE (r6 hf)<|aaE cL<|aaE cL<|aaE e'<|aaE ih rfl)
   ·(exact aaE (uu hf)<|aaE cL<|aaE e'<|aaE ih rfl)
theorem Qy{c:Nat}{b x y:By}(hx:x.take c=b)(hy:y.take c=b)(h:x.drop c=y.drop c):x=y:=by
 (exact aaE (aq (i0 c x))<|aaE (aq (i0 c y))<|aaE hx<|aaE hy<|aaE h rfl)
theorem RowsOk.drop{n c:Nat}{R:gP}{b:By}(h:RowsOk (c+n) R)(hb:∀r∈R,r.1.take c=b):RowsOk n (km c R) where
 ne:=by unfold km;simpa using h.ne
 len r hr:=by
  refine ax (cb.mp hr) λq hq aR=>?_;clear hr;subst aR;have:=h.len q hq;exact aaE dE<|HZ this
 bits r hr:=by
  refine ax (cb.mp hr) λq hq ba=>?_;clear hr;subst ba;exact kR (h.bits q hq) c
 nd:=by
  unfold km;refine aaE fS ?_;have h2:=h.nd;unfold List.Nodup at h2 ⊢;rw[List.pairwise_map]at h2 ⊢;refine h2.imp_of_mem λ{x y} hx hy bR e=>bR (Qy (hb x hx) (hb y hy) e)
 val r hr:=by
  refine ax (cb.mp hr) λq hq bh=>?_;clear hr;subst bh;exact h.val q hq
theorem Tr.kv{n c:Nat}{R:gP}{b:By}{t:T}(h:RowsOk (c+n) R)(hb:∀r∈R,r.1.take c=b)(dk:b.length=c)(hc:0<c)(T:Tr n (km c R) t)(hk:tG t=false):Tr (c+n) R (.kv b t) where
 wf:=by
  obtain⟨r,hr⟩:=List.exists_mem_of_ne_nil _ h.ne;refine(nZ (λe=>by rw[e]at dk;simp at dk;exact de 0 (jV hc dk.symm)) (by exact aaE (aq (hb r hr))<|yg (h.bits r hr) c) hk n (by exact aaE dk rfl) T.wf)
 short:=T.short
 look p hp dC:=by
  show(if p.take b.length=b then Internal.look t (p.drop b.length)else none)=_;refine aaE dk ?_
  split
  ·rename_i q
   refine aaE (T.look _ (by rw[dE];exact HZ hp) (kR dC c)) ?_;refine aaE (aq (Bz (b:=b) hb dk)) ?_
   congr 1
   (exact aaE (aq q)<|aaE (i0 ..) rfl)
  ·rename_i q
   exact(Nh λr hr e=>q (by exact aaE (aq e)<|hb r hr)).symm
theorem Tr.leaf(h:RowsOk 0 R):∃v,R=[([],v)]/\v≠[]/\v.length<=16/\Tr 0 R (.leaf v):=by
 have h1:∀r∈R,r.1=[]:=λr hr=>oJ.mp (h.len r hr)
 match R,h,h1 with
 |[],h,_=>exact absurd rfl h.ne
 |[(k,v)],h,h1=>
  have hk:k=[]:=h1 (k,v) cV;clear h1;subst hk;have hv:=h.val ([],v) cV;refine(jG v rfl hv.1 hv.2 ⟨⟨rfl,hv.1⟩,hv.2,λp hp x=>?_⟩);have:=oJ.mp hp;clear hp;refine aaE this ?_;rfl
 |(k,v)::(k',v')::R,h,h1=>
  have e1:k=[]:=h1 (k,v) (by simp);have e2:k'=[]:=h1 (k',v') (by simp);have:=h.nd;simp[e1,e2]at this
theorem RowsOk.side(h:RowsOk (1+n) R)(bR:∃r∈R,r.1.take 1=[s]):RowsOk n (fB s R):=by
 have hf:∀r∈R.filter (λr=>r.1.take 1==[s]),r∈R/\r.1.take 1=[s]:=λr hr=>by
  have:=xC.mp hr;exact⟨this.1,cM.mp this.2⟩
 refine RowsOk.drop (c:=1) (b:=[s]) ⟨?_,λr hr=>h.len r (hf r hr).1,λr hr=>h.bits r (hf r hr).1,?_,λr hr=>h.val r (hf r hr).1⟩ λr hr=>(hf r hr).2
 ·refine ax bR λr hr e=>?_
  exact List.ne_nil_of_mem (xC.mpr ⟨hr,cM.mpr e⟩)
 ·exact(List.filter_sublist.map _).nodup h.nd
theorem Tr.br{n:Nat}{R:gP}{l r:T}(h:RowsOk (1+n) R)(Tl:Tr n (fB 0 R) l)(EE:Tr n (fB 1 R) r):Tr (1+n) R (.br l r) where
 wf:=(dh n (U1) Tl.wf EE.wf)
 short:=⟨Tl.short,EE.short⟩
 look p hp dC:=by
  cases p with
  |nil=>simp at hp;exact z1 hp (eD 1 n)
  |cons c p=>
   have hc:=dC c cV;have da:p.length=n:=by simp at hp;exact i8 (hp.trans (eD 1 _))
   have el:ck p:=λx hx=>dC x (cj _ hx)
   have key:∀s:UInt8,(fB s R).lookup p=R.lookup (s::p):=λs=>by
    have hf:∀r∈R.filter (λr=>r.1.take 1==[s]),r.1.take 1=[s]:=λr hr=>cM.mp (xC.mp hr).2;have:=Bz (p:=p) hf rfl;unfold fB;exact aaE (aq this)<|Nz λv=>by simp
   refine aaE (g6 ..) ?_;clear hp dC;rcases hc with rfl|rfl
   ·(exact aaE (aA rfl)<|aaE (Tl.look p da el)<|aaE (key ..) rfl)
   ·(exact aaE (ar (by decide))<|aaE (EE.look p da el)<|aaE (key ..) rfl)
theorem Qx(h:RowsOk (1+n) R):(fB 0 R).length+(fB 1 R).length=R.length:=by
 have aux:∀R:gP,(∀r∈R,r.1.take 1=[0]∨r.1.take 1=[1])->(fB 0 R).length+(fB 1 R).length=R.length:=λR=>by
  induction R with
  |nil=>intro y;rfl
  |cons r R ih=>
   intro h;have:=ih λr hr=>h r (cj _ hr);unfold fB km at this ⊢;simp only[dF]at this ⊢;rcases h r cV with e|e
   ·refine aaE (r6 (by rw[e];rfl)) ?_;refine aaE (uu (by rw[e];decide)) ?_
    simp only[cW];exact(fq _ 1 _).trans (bF (·+1) this)
   ·refine aaE (uu (by rw[e];decide)) ?_;refine aaE (r6 (by rw[e];rfl)) ?_
    simp only[cW];exact bF (·+1) this
 refine aux R λr hr=>?_;have hl:=h.len r hr;have hb:=h.bits r hr
 match r.1,hl,hb with
 |[],hl,_=>simp at hl;exact z1 hl (eD 1 n)
 |x::p,_,hb=>
  rcases hb x cV with e|e
  ·left;refine aaE e ?_;rfl
  ·right;refine aaE e ?_;rfl
theorem Full.mono(s:BD.Sub N N')(d:BD.Sub D D'):∀{t:T} {h:By} {L:List By},Full N D t h L->Full N' D' t h L
 |.leaf v,h,L,x=>(cA (s _ _ x.1) (d _ _ x.2.1) x.2.2)
 |.kv b t,h,L,x=>by refine j8 x λh' L' a b1 c e=>?_;exact(lX h' L' (a.mono s d) (s _ _ b1) (d _ _ c) e)
 |.br l r,h,L,x=>by refine sr x λhl hr Ll Lr a a' b1 c e=>?_;exact⟨hl,hr,Ll,Lr,a.mono s d,a'.mono s d,s _ _ b1,d _ _ c,e⟩
structure Sn(f d dT:Addr)(σ0 σ:St)(N D:BD)(c:Nat):Prop where
 nm:NmF σ f d N
 td:σ dT=some (.dict D)
 t1:dT≠1
 ne:dT≠d
 ok:SOk N D
 only:Only σ0 σ [d,dT]
 n:N.length+c<=50000
 m:D.length+c<=50000
theorem Sn.less(S:Sn f d dT σ0 σ N D c)(h:c'<=c):Sn f d dT σ0 σ N D c':=⟨S.nm,S.td,S.t1,S.ne,S.ok,S.only,by have:=S.n;exact H0 h this,by have:=S.m;exact H0 h this⟩
theorem NmF.setd(F:NmF σ f d N):NmF (σ.set d (.dict N')) f d N':=by
 refine az λkk=>?_;obtain⟨⟨o,c,co,cc,oc,code,pm,ct,doc,vs,t,e1,e2,e3,e4,e5,e6,e7,e8⟩,hd,d1⟩:=F
 have kp:∀{x:Addr} {tr:Trk},σ x=some tr->(∀l,tr≠.dict l)->(σ.set d (.dict N')) x=some tr:=λ{x tr} h1 h2=>by
  unfold St.set;rw[ar]
  ·exact h1
  ·intro e;rw[e,hd]at h1;obtain rfl:=bq h1;exact h2 _ rfl
 exact kk<|⟨⟨o,c,co,cc,oc,code,pm,ct,doc,vs,t,kp e1 (λy q=>by cases q),e2,kp e3 (λy q=>by cases q),e4,e5,kp e6 (λy q=>by cases q),e7,e8⟩,by unfold St.set;rw[aA rfl],d1⟩
section
variable {X:Cx} {σ:St} {f d dT:Addr} (hX:Base7 X)
include hX
theorem Hu(F:NmF σ f d N)(hN:N.length<60000)(h:∀ab,Only σ ab [d]->NmF ab f d (d6 N x)->Q (.bytes (fm N x)) ab):CallOk X 3 (.ref f) [.bytes x] σ Q:=
 Ho hX.toBase4 F hN (h _ (λb hb=>by unfold St.set;exact aaE (ar (by simpa using hb)) rfl) F.setd) λhl=>h σ .refl (by
  have e:d6 N x=N:=by
   unfold d6
   cases hh:N.lookup x with
   |none=>exact absurd hh hl
   |some _=>rfl
  exact aaE e<|F)
theorem Fq(F:NmF σ f d N)(hN:N.length<60000)(hl:N.lookup x=some b)(h:∀ab,Only σ ab [d]->NmF ab f d N->Q (.bytes b) ab):CallOk X 3 (.ref f) [.bytes x] σ Q:=by
 have e:d6 N x=N:=by unfold d6;exact aaE hl rfl
 have e2:fm N x=b:=by unfold fm;(refine aaE e<|aaE hl ?_);rfl
 refine Hu hX F hN λab o g=>?_;refine aaE e2 ?_;rw[e]at g;exact h ab o g
theorem PN(hA:Room A 3)(h1:m "text"=some (.bytes x))(h2:m "told"=some (.ref dT))(h3:m "name_of"=some (.ref f))(S:Sn f d dT σ0 σ N0 D0 (c+1))
  (hQ:∀ab N' D' h,Sn f d dT σ0 ab N' D' c->BD.Sub N0 N'->BD.Sub D0 D'->N'.lookup x=some h->D'.lookup h=some x->Q (.ret (.bytes h)) m ab)
  (s1:swapsWithSole [.Subscript (.Name "told" p2) (.Call (.Name "name_of" p3) [.Name "text" p4] [] p5) p6] (.Name "text" p1) p7.line env=pure false)(s2:swappedStores [.Subscript (.Name "told" p2) (.Call (.Name "name_of" p3) [.Name "text" p4] [] p5) p6] (.Name "text" p1) env=pure none)(s3:assignEach [.Subscript (.Name "told" p2) (.Call (.Name "name_of" p3) [.Name "text" p4] [] p5) p6] env=[(false,assign (.Subscript (.Name "told" p2) (.Call (.Name "name_of" p3) [.Name "text" p4] [] p5) p6) env)])
  (c1:∀p3 p4 p5,eval (.Call (.Name "name_of" p3) [.Name "text" p4] [] p5) env=(do callWith p5 (←eval (.Name "name_of" p3) env) [] (backTo p5 (starEach [.Name "text" p4] env)) (backToKw p5 (keywordEach [] env))))(c2:∀p4,starEach [.Name "text" p4] env=[(false,eval (.Name "text" p4) env)]):
  Exs X A aC P env m [.Assign [.Subscript (.Name "told" p2) (.Call (.Name "name_of" p3) [.Name "text" p4] [] p5) p6] (.Name "text" p1) p7,.Return (some (.Call (.Name "name_of" p8) [.Name "text" p9] [] p10)) p11] σ Q:=by
 refine az λkk=>?_;have hn:=S.n;have hm:=S.m;obtain⟨w,sd⟩:=S.ok.save x (Ds hn);refine pk (S.ok.W.add x (Ds hn)) λy sn g l1 l2=>?_;have l3:=sA (x:=fm N0 x) (v:=x) D0;refine kk<|aw<|bE (hs:=s1) (hw:=s2) (he:=s3)<|aP (V:=.bytes x) h1<|sx<|aP (V:=.ref dT) h2 ⟨rfl,aV (aP (V:=.ref f) h3<|ak (aP (V:=.bytes x) h1<|aD ⟨S.nm.keep,bc (Hu hX S.nm (Ds hn) λab o F'=>⟨rfl,D0,?_,by exact ae (bB _ _) (ae hm (lb rfl)),?_⟩) hA⟩) (c2 _)) (c1 _ _ _) (by refine aaE (c2 ..) ?_;rfl)⟩
 ·exact aaE (o dT (by simpa using S.ne))<|S.td
 have F2:NmF (ab.set dT (.dict (D0.put (fm N0 x) x))) f d (d6 N0 x):=by
  have ZN:ab dT=some (.dict D0):=by exact aaE (o dT (by simpa using S.ne))<|S.td
  refine F'.upd ZN (λb hb=>?_) ?_
  ·simp only[dm,mG,mR,not_or]at hb
   unfold St.set;exact aaE (ar hb.2) rfl
  ·unfold St.set;exact aaE (ar λe=>S.ne e.symm)<|F'.dict
 refine aw<|cD<|aV (aP (V:=.ref f) h3<|ak (aP (V:=.bytes x) h1<|aD ⟨F2.keep,bc (Fq hX F2 (dw l1 (dw (ae (cK (ib 1 _) _) hn) (lb rfl))) g λeK o2 F3=>?_) hA⟩) (c2 _)) (c1 _ _ _) (by refine aaE (c2 ..) ?_;rfl);refine hQ eK _ _ _ ⟨F3,?_,S.t1,S.ne,w,?_,by exact H7 hn l1,by exact H7 hm l3⟩ sn sd g G9
 ·refine aaE (o2 dT (by simpa using S.ne)) ?_;unfold St.set;exact aaE (aA rfl) rfl
 ·intro b hb
  simp only[dm,mG,mR,not_or]at hb;refine aaE (o2 b (by simpa using hb.1)) ?_;unfold St.set;(refine aaE (ar hb.2)<|aaE (o b (by simpa using hb.1)) ?_);exact S.only b (by simp[hb.1,hb.2])
end
noncomputable def dH(r:By×By):AV:=.tup [.lst (bl r.1),.bytes r.2]
noncomputable def wt(code pm:Value)(L:Addr):Env:=callEnvC (ip (bD 52) "_law_node" code pm .none) L 433
structure Im(R:gP)(b0:By)(f dT:Addr)(j:Nat)(m:Mp):Prop where
 rows:m "rows"=some (.lst (R.map dH))
 first:m "first"=some (.lst (bl b0))
 far:m "far"=some (.int (j:Int))
 nmof:m "name_of"=some (.ref f)
 told:m "told"=some (.ref dT)
theorem Im.upd(I:Im R b0 f dT j m)(k:Nat):Im R b0 f dT k (m.upd "far" (.int (k:Int))):=
 ⟨I.rows,I.first,rfl,I.nmof,I.told⟩
theorem vN(h:j<b.length):(bl b)[j]?=some (.int ((b.getD j 0).toNat:Int)):=by
 unfold bl
 (refine aaE (kL) ?_;refine aaE (hZ h) ?_;refine aaE (lJ) ?_;refine aaE (hZ h) ?_);rfl
noncomputable def tJ(b0:By)(j:Nat):AV->Bool
 |.tup (.lst l::_)=>match l[j]? with|some (.int i)=>i !=((b0.getD j 0).toNat:Int)|_=>false
 |_=>false
noncomputable def JU:AV->AV
 |.tup (V::_)=>V
 |V=>V
theorem Hc(h:j<r.1.length):tJ b0 j (dH r)=(r.1.getD j 0 !=b0.getD j 0):=by
 unfold tJ dH;dsimp only;refine aaE (vN h) ?_
 (refine aaE (propext xA)<|aaE (propext qK)<|aaE (propext qK) ?_)
 constructor
 ·intro q e;exact q (by exact aaE e rfl)
 ·intro q e;exact q (xB.mp (by exact_mod_cast e))
section
variable {X:Cx} {σ:St} {f dT:Addr} (hX:Base7 X)
include hX
theorem Qz{A:Around}{code pm:Value}{L:Addr}{R:gP}{b0:By}{n:Nat}{m:Mp}{pw:Pos}{test:Expr}{body:List Stmt}(hst:(fz (bD 52))[1]?=some (.While test body [] pw))(hA:Room A 4)(bM:n<=64)(hR:R.length<=64)(EF:b0.length=n)(hlen:∀r∈R,r.1.length=n)(I:Im R b0 f dT 0 m):
  Ex X A aC (bg L (wt code pm L)) (wt code pm L) m (.While test body [] pw) σ λF m' ab=>F=.next/\ab=σ/\∃c,Im R b0 f dT c m'/\c<=n/\(∀r∈R,r.1.take c=b0.take c)/\(c=n∨∃r∈R,r.1.getD c 0≠b0.getD c 0):=by
 have hst:=bq hst;injection hst with e1 e2 e3 e4;clear hst;subst e1 e2 e4;refine PZ (λk m' ab=>ab=σ/\∃j,k=n - j/\j<=n/\Im R b0 f dT j m'/\∀r∈R,r.1.take j=b0.take j) n (vy rfl 0 (rfl) (mI _) I (λr _=>by simp)) λk m' ab aR=>sV aR λe j hk hj I' agree=>?_;have e:=e.symm;clear aR;refine aaE (aq e) ?_;have lH:(bl b0).length=n:=by(exact aaE (kW ..)<|aaE EF rfl)
 refine kU<|aT<|aP I'.far<|aV<|eg hX.g_len<|ak<|aP I'.first<|aD ⟨trivial,oV (kB bM lH)<|BA (kt (?_))⟩;refine aaE lH ?_
 by_cases lI:j<n
 case neg=>
  exact bQ (oQ (λq=>lI (lR.mp q)))<|bQ rfl<|(BK rfl rfl j I' hj agree (.inl (uC hj (j0.mp lI))))
 refine dR (sj (I0 lI))<|kU<|aT<|mH (k:=3) (λD env=>T1 D env _) (λC env=>J1 X A env _) (hA.mono (by decide)) (λC D it=>lg) (λD C fY hD=>kj hD) rfl rfl (by decide) (by decide)
  <|g7<|aP I'.rows<|mN λC=>ja (λm2=>m2 "far"=some (.int (j:Int))/\m2 "first"=some (.lst (bl b0))) (tJ b0 j) JU trivial _ _ [] (λV hV m2 eP=>?_) (by simp;exact Df hR) ⟨I'.far,I'.first⟩ λm2 _=>?_
 ·refine az λkk=>?_
  refine ax (cb.mp hV) λr hr ba=>?_;clear hV;subst ba;have rU:=hlen r hr;refine kk<|eR hA.handled rfl rfl<|bG<|aQ<|bG<|aQ<|eS ⟨rfl,?_⟩;refine aT<|bz<|af (.lst (bl r.1))<|aP (V:=.int (j:Int)) eP.1<|jx (V:=.int ((r.1.getD j 0).toNat:Int)) (by exact aaE (kW ..)<|pV bM rU) (vN (Ie lI rU))<|bz<|aP (V:=.lst (bl b0)) eP.2<|aP (V:=.int (j:Int)) eP.1<|jx (V:=.int ((b0.getD j 0).toNat:Int)) (pV bM lH) (vN (H8 EF lI))<|x9 (kt (k7 rfl ?_ ⟨eP.1,eP.2⟩ (λ_=>af (.lst (bl r.1)) ⟨rfl,rfl⟩)));unfold tJ dH;dsimp only;exact aaE (vN (Ie lI rU)) rfl
 ·refine aaE (gT ..)<|mS<|aD ⟨by exact aaE df<|fZ rfl,OT (by have:=hA.units;exact dw (bB _ _) this) (kt (?_))⟩
  refine az λkk=>?_
  by_cases mx:∀r∈R,r.1.getD j 0=b0.getD j 0
  ·have he:((R.map dH).filter (tJ b0 j))=[]:=by
    refine aaE (propext List.filter_eq_nil_iff) ?_;intro V hV;refine az λkk=>?_;refine ax (cb.mp hV) λr hr bh=>?_;clear hV;subst bh;refine kk ?_
    (refine aaE (Hc (by rw[hlen r hr];exact Dq lI)) ?_;refine aaE (mx r hr) ?_);simp
   refine kk ?_
   (refine aaE he<|aaE List.map_nil ?_)
   refine Bo<|dR rfl<|aw<|RB (hd:=by decide) (hc:=by decide) I'.far (aY<|NV ?_) (λS F r k=>BY S F r rfl rfl (F.own "far" (L+3) rfl (by decide) rfl) (show(bg L (wt code pm L)).a (L+3)from⟨bB _ _,.inr ⟨"far",by rfl⟩⟩) k);refine bw ⟨n - (j+1),by exact jV (Nat.sub_succ_lt_self _ _ lI) hk.symm,rfl,j+1,rfl,by exact lI,I'.upd (j+1),λr hr=>?_⟩
   (refine aaE qx<|aaE qx<|aaE (agree r hr) ?_)
   have h1:r.1[j]?=some (r.1.getD j 0):=by(refine aaE (lJ) ?_;refine aaE (hZ (by rw[hlen r hr];exact Dq lI)) ?_);rfl
   have h2:b0[j]?=some (b0.getD j 0):=by(refine aaE (lJ) ?_;refine aaE (hZ (H8 EF lI)) ?_);rfl
   (exact aaE h1<|aaE h2<|aaE (mx r hr) rfl)
  ·have hx:=xm λZO=>mx λr hr=>xm λq=>ZO (aE r hr q)
   refine ax hx λr hr q=>?_
   have bR:(((R.map dH).filter (tJ b0 j)).map JU).isEmpty=false:=by
    refine aaE (propext List.isEmpty_eq_false_iff) ?_;intro he;rw[List.map_eq_nil_iff,List.filter_eq_nil_iff]at he;refine he (dH r) (cb.mpr (aE r hr rfl))<|aaE (Hc (by rw[hlen r hr];exact Dq lI)) ?_;simpa using q
   exact kk<|bQ (bR)<|bQ rfl<|(BK rfl rfl j I' hj agree (.inr (aE r hr q)))
end
noncomputable def y0(c:Nat):AV->AV
 |.tup (.lst l::r)=>.tup (.lst (l.drop c)::r)
 |V=>V
noncomputable def CB(s:UInt8):AV->Bool
 |.tup (.lst (.int i::_)::_)=>i==(s.toNat:Int)
 |_=>false
theorem GD(c:Nat)(R:gP):(R.map dH).map (y0 c)=(km c R).map dH:=by
 unfold km
 (refine aaE fS<|aaE fS ?_)
 refine r9 λr x=>?_;show AV.tup [.lst ((bl r.1).drop c),.bytes r.2]=AV.tup [.lst (bl (r.1.drop c)),.bytes r.2];unfold bl;exact aaE List.map_drop rfl
theorem yZ{b:By}(h:0<b.length):b.take 1=[b.getD 0 0]:=by
 cases b with
 |nil=>simp at h
 |cons x p=>rfl
theorem PO{s:UInt8}{r:By×By}(h:0<r.1.length):CB s (dH r)=(r.1.take 1==[s]):=by
 refine aaE (yZ h) ?_;obtain⟨b,v⟩:=r
 cases b with
 |nil=>simp at h
 |cons x p=>
  show((x.toNat:Int)==(s.toNat:Int))=([x]==[s])
  by_cases e:x=s
  ·subst e;simp
  ·have h1:((x.toNat:Int)==(s.toNat:Int))=false:=by
    refine aaE (propext cR) ?_;intro q;exact e (xB.mp (by exact_mod_cast q))
   rw[h1,cR.mpr];intro q;exact e (iB q).1
theorem PS(s:UInt8)(h:∀r∈R,0<r.1.length):((R.map dH).filter (CB s)).map (y0 1)=(fB s R).map dH:=by
 unfold fB;refine aaE (aq (GD ..)) ?_
 congr 1
 refine aaE List.filter_map ?_
 congr 1
 refine List.filter_congr λr hr=>?_;exact PO (h r hr)
noncomputable def IC(R:gP):AV->AV
 |.int s=>.lst ((fB s.toNat.toUInt8 R).map dH)
 |V=>V
def RX(X:Cx)(f d:Addr)(n:Nat):Prop:=∀{R:gP} {dT:Addr} {σ0 σ:St} {N D:BD} {c:Nat} {Q:AP},RowsOk n R->R.length<=64->Sn f d dT σ0 σ N D (c+R.length*(n+1))->
 (∀t h ab N' D',Tr n R t->(n=0∨IB R->tG t=false)->Sn f d dT σ0 ab N' D' c->BD.Sub N N'->BD.Sub D D'->(∃L,Full N' D' t h L)->Q (.bytes h) ab)->CallOk X (6+n) (.ref 433) [.lst (R.map dH),.ref f,.ref dT] σ Q
section
variable {X:Cx} {f d:Addr} (hX:Base7 X)
include hX
theorem yi:cQ X σ (.ref 433):=by refine bk hX.f_node λx x F'=>?_;exact F'.keep
theorem PQ:cQ X σ (.ref 428):=by refine bk hX.f_path λx x F'=>?_;exact F'.keep
theorem Rb(n:Nat):n<=64->RX X f d n:=by
 induction n using Nat.strongRecOn with
 |_ n ih=>
 intro bM R dT σ0 σ N D c Q hR qj S hQ;have ZP:=hR
 obtain⟨r0,R1,xh⟩:∃r0 R1,R=r0::R1:=by
  cases ZQ:R with
  |nil=>exact absurd ZQ hR.ne
  |cons a b=>exact(cX a b rfl)
 have rW:r0∈R:=by exact aaE xh<|cV
 have lH:=hR.len r0 rW;have rL:1<=R.length:=by refine aaE xh ?_;simp
 have C1:(R.map dH)[0]?=some (dH r0):=by refine aaE xh ?_;rfl
 refine bk hX.f_node λcode pm F=>?_;refine CallOk.deep (k:=5+n+1) (dQ (k:=5+n) F ["rows","name_of","told"] (c7 ["rows","name_of","told"] λvs hv=>?_) rfl λA L hA=>?_) (UR)
 ·(apply ko hv;intro v1 v2 v3;rfl)
 refine aw<|bE<|lW<|ak<|bz<|bz<|af (.lst (R.map dH))<|aY<|jx (i:=0) (V:=dH r0) (by exact aaE (dF ..)<|H4 qj) C1<|aY<|Bs (i:=0) (V:=.lst (bl r0.1)) (by simp) rfl<|ak<|aY<|aD ⟨by exact aaE df<|fZ rfl,?_⟩;refine eR hA.handled rfl rfl<|bG<|lZ (c:=L+2) rfl (by decide) rfl ⟨bB _ _,.inr ⟨"first",by rfl⟩⟩<|bG<|lZ (c:=L+3) rfl (by decide) rfl ⟨bB _ _,.inr ⟨"far",by rfl⟩⟩<|eS ?_;refine aw<|Ex.mono (Qz hX (n:=n) rfl hA.mo bM qj lH hR.len ⟨rfl,rfl,rfl,rfl,rfl⟩) ?_;rintro F' m' ab ⟨rfl,rfl,c0,I,EA,agree,stop⟩;have lenb:∀r∈R,(bl r.1).length=n:=λr hr=>by(exact aaE (kW ..)<|aaE (hR.len r hr) rfl)
 have tail:∀{x:By} {m:Mp} {eX:St} {N1 D1:BD} {t:T},m "text"=some (.bytes x)->m "told"=some (.ref dT)->m "name_of"=some (.ref f)->Sn f d dT σ0 eX N1 D1 (c+1)->BD.Sub N N1->BD.Sub D D1->Tr n R t->(n=0∨IB R->tG t=false)->(∀N' D' h,BD.Sub N1 N'->BD.Sub D1 D'->N'.lookup x=some h->D'.lookup h=some x->∃L,Full N' D' t h L)->
   Exs X A aC (bg L (wt code pm L)) (wt code pm L) m ((fz (bD 52)).drop 3) eX ((jR Q)):=λ{x m eX N1 D1 t} h1 h2 h3 S1 s1 s2 hT hk hF=>
  PN hX hA.mo h1 h2 h3 S1 (λab N' D' h S' u1 u2 e1 e2=>hQ t h ab N' D' hT hk S' (s1.trans u1) (s2.trans u2) (hF N' D' h u1 u2 e1 e2)) rfl rfl rfl (λy y y=>rfl) (λy=>rfl)
 by_cases oy:0<c0
 ·
  obtain⟨n',eO⟩:∃n',n=c0+n':=⟨n - c0,by exact Ti EA⟩;subst eO;have dk:(r0.1.take c0).length=c0:=by exact aaE jW<|TG lH
  have ZR:=hR.drop agree;have hmul:R.length*(c0+n'+1)=R.length*(n'+1)+R.length*c0:=by refine aaE (aq (Nat.mul_add ..)) ?_;congr 1;exact UJ
  have Wn:=Nat.mul_pos rL oy;have qc:(km c0 R).length=R.length:=by unfold km;exact aaE (dF ..) rfl
  refine aw<|bp<|aT<|aP I.far<|aY<|Gm (kt (?_))
  refine dR (sj (Tj oy))<|aw<|Bb (hsw:=by rfl) (he:=by rfl) (hfa:=by rfl) (k:=3) (λD env=>T1 D env _) (λC env=>J1 X A env _) hA.mo (λC D it=>lg) (λD C fY hD=>kj hD) rfl rfl (by decide) (by decide)
   <|g7<|aP I.rows<|mN λC=>ja (λm2=>m2 "far"=some (.int (c0:Int))) (λy=>true) (y0 c0) trivial _ _ [] (λV hV m2 eP=>?_) (by simp;exact Df qj) I.far λm2 y=>?_
  ·refine ax (cb.mp hV) λr hr aR=>?_;subst aR
   have Am:=lenb r hr;refine eR hA.handled rfl rfl<|bG<|aQ<|bG<|aQ<|eS (l7 rfl rfl rfl eP (λy=>?_));refine lW<|ak<|bz<|af (.lst (bl r.1))<|ee (lower:=some _) (upper:=none)<|aP (V:=.int (c0:Int)) eP (ki (o3 (HY bM Am) ?_));exact aaE (iK ..)<|ak<|af (.bytes r.2)<|aD (cA (by exact aaE df<|fZ rfl) rfl rfl)
  (refine aaE (gT ..)<|aaE (show((R.map dH).filter λy=>true)=R.map dH from by simp) ?_;refine aaE (GD ..) ?_)
  refine aQ<|aw<|bE<|bK<|bK<|ig<|aV<|eg hX.g_path<|ak<|bz<|aP I.first<|ee (lower:=none) (upper:=some _)<|aP I.far (ki (o3 (by exact aaE (kW ..)<|HY bM lH) ?_))
  (refine aaE (mJ ..)<|aaE (show(bl r0.1).take c0=bl (r0.1.take c0)from by unfold bl;rw[Bl]) ?_)
  have mA:=yg (hR.bits r0 rW) c0;have Ms:=yC (r0.1.take c0);refine aD ⟨PQ hX,bc (Ra hX mA (T9 bM dk)<|f5 (by simp;exact TQ bM dk Ms)<|aV<|eg hX.g_node<|ak<|aP (V:=.lst ((km c0 R).map dH)) rfl<|ak<|aP (V:=.ref f) I.nmof<|ak<|aP (V:=.ref dT) I.told<|aD ⟨yi hX,bc (ih n' (UN oy) (TA bM) (c:=c+1) ZR (Uu qj qc) (S.less (by exact aaE qc<|Va hmul Wn)) λt h1 eX N1 D1 hT hk S1 s1 s2 hF=>?_) hA.mo⟩) hA.mo⟩;obtain⟨Lf,hF⟩:=hF
  have ZS:=hk (by
   rcases stop with e|⟨r,hr,e⟩
   ·left;exact Uv e
   ·by_cases hz:n'=0
    ·exact .inl hz
    ·right
     refine(Rz (r.1.drop c0,r.2) (cb.mpr (aE r hr rfl)) (r0.1.drop c0,r0.2) (cb.mpr (aE r0 rW rfl)) (λq=>e ?_))
     have g1:∀b:By,c0<b.length->(b.drop c0).take 1=[b.getD c0 0]:=λb hb=>by
      (refine aaE (yZ (by rw[dE];exact Ud hb)) ?_;refine aaE (lJ) ?_;refine aaE (List.getElem?_drop) ?_;exact aaE (Nat.add_zero ..)<|aaE (lJ) rfl)
     have:=hR.len r hr;rw[show((r.1.drop c0,r.2):By×By).1=r.1.drop c0 from rfl,show((r0.1.drop c0,r0.2):By×By).1=r0.1.drop c0 from rfl,g1 _ (UH hz this),g1 _ (Vc lH hz)]at q
     exact(iB q).1)
  have An:=S1.ok.W.ok.len _ _ hF.named.ltx;refine f5 (by simp;exact U6 bM dk Ms An)<|aQ<|bw<|tail (x:=bX (r0.1.take c0) h1) (t:=.kv (r0.1.take c0) t) rfl I.told I.nmof S1 s1 s2 (hT.kv hR agree dk oy ZS) (λq=>?_) λN' D' h u1 u2 e1 e2=>(gZ _ h1 Lf (hF.mono u1 u2) e1 e2 rfl);exfalso;rcases q with q|⟨ra,ha,rb,hb,q⟩
  ·exact TU oy q
  ·refine q ?_
   have t1:∀r∈R,r.1.take 1=r0.1.take 1:=λr hr=>by
    have:=bF (List.take 1) (agree r hr)
    rwa [oR,oR,gS (Ug oy)]at this
   (exact aaE (t1 ra ha)<|aaE (t1 rb hb) rfl)
 ·have X3:=Un oy
  subst X3;refine aw<|bp<|aT<|aP I.far<|aY<|Gm (kt (?_));refine bQ (oQ (TM))<|aw<|bp<|aT<|aV<|eg hX.g_len<|ak<|aP I.first<|aD ⟨trivial,oV (by exact aaE (kW ..)<|kB bM lH)<|aY<|cu (kt (?_))⟩
  (refine aaE (kW ..)<|aaE lH ?_)
  by_cases qf:n=0
  ·subst qf
   refine dR (c:=(((0:Nat):Int)==0)) (rfl)<|kX (Tr.leaf hR) λv ZT hv Ah hT=>?_;have X4:r0=([],v):=by rw[ZT]at xh;clear rW C1 I agree lH stop;cases xh;rfl
   refine aw<|bE<|bK<|ig<|bz<|bz<|aP I.rows<|aY<|jx (i:=0) (V:=dH r0) (by exact aaE (dF ..)<|H4 qj) C1<|aY<|Bs (i:=1) (V:=.bytes r0.2) (by simp) rfl ?_;refine aaE X4<|f5 (by simp;exact Uc Ah)<|aQ<|bw<|bw<|tail (x:=fi v) (t:=.leaf v) rfl I.told I.nmof (S.less (cK (ae rL (aK (Nat.mul_one _).symm)) c)) (.refl _) (.refl _) hT (λy=>rfl) λN' D' h u1 u2 e1 e2=>(dh _ e1 e2 rfl)
  ·refine bQ (c:=(((n:Nat):Int)==0)) (by exact aaE (propext cR)<|Ji qf) ?_
   obtain⟨n',eO⟩:∃n',n=1+n':=⟨n - 1,by exact Tp qf⟩;clear hQ ZP lH EA qf;subst eO
   have nj:∃r∈R,r.1.getD 0 0≠r0.1.getD 0 0:=by
    rcases stop with e|h
    ·lia
    ·exact h
   refine ax nj λrd nK LC=>?_;have tC:∀r∈R,0<r.1.length:=λr hr=>by exact aaE (hR.len r hr)<|TJ
   have LD:∀r∈R,r.1.getD 0 0=0∨r.1.getD 0 0=1:=λr hr=>by
    have:=tC r hr;refine hR.bits r hr _ (E9 (i:=0) ?_)
    (refine aaE (lJ) ?_;refine aaE (hZ this) ?_);rfl
   have both:∀s:UInt8,s=0∨s=1->∃r∈R,r.1.take 1=[s]:=λs hs=>by
    have h1:=LD rd nK;have h2:=LD r0 rW
    by_cases e:rd.1.getD 0 0=s
    ·exact(aE rd nK (by(exact aaE (yZ (tC rd nK))<|aaE e rfl)))
    ·refine(aE r0 rW ?_)
     refine aaE (yZ (tC r0 rW)) ?_
     have:r0.1.getD 0 0=s:=by
      rcases hs with rfl|rfl
      ·rcases h1 with h1|h1
       ·exact absurd h1 e
       ·rcases h2 with h2|h2
        ·exact h2
        ·exact absurd (h1.trans h2.symm) LC
      ·rcases h1 with h1|h1
       ·rcases h2 with h2|h2
        ·exact absurd (h1.trans h2.symm) LC
        ·exact h2
       ·exact absurd h1 e
     exact aaE this rfl
   have R0:=hR.side (both 0 (.inl rfl));have ZU:=hR.side (both 1 (.inr rfl));have DR:=Qx hR
   have hmul:R.length*(1+n'+1)=(fB 0 R).length*(n'+1)+(fB 1 R).length*(n'+1)+R.length:=by
    have h1:∀a:Nat,a*(1+n'+1)=a*(n'+1)+a:=λa=>by(refine aaE (show 1+n'+1=(n'+1)+1 from by exact S8) ?_;exact aaE (Nat.mul_succ ..) rfl)
    (refine aaE (aq DR)<|aaE (Nat.add_mul ..)<|aaE (h1 ..)<|aaE (h1 ..) ?_);exact Ua
   refine aw<|Bb (hsw:=by rfl) (he:=by rfl) (hfa:=by rfl) (k:=3) (λD env=>T1 D env _) (λC env=>J1 X A env _) hA.mo (λC D it=>lg) (λD C fY hD=>kj hD) rfl rfl (by decide) (by decide)
    <|g7<|lW<|ak<|aY<|ak<|aY<|aD ⟨by exact aaE df<|fZ rfl,BZ λC=>ja (λm2=>m2 "rows"=some (.lst (R.map dH))) (λy=>true) (IC R) trivial _ _ [] (λV hV m2 eP=>?_) (by simp) I.rows λm2 y=>?_⟩
   ·obtain⟨s,hs,rfl⟩:∃s:UInt8,(s=0∨s=1)/\V=.int (s.toNat:Int):=by
     simp only[dm,mG,mR]at hV;rcases hV with rfl|rfl
     ·exact(aE 0 (.inl rfl) rfl)
     ·exact(aE 1 (.inr rfl) rfl)
    refine lZ (c:=C+1) rfl (by decide) rfl ⟨gV _,.inr ⟨"side",by rfl⟩⟩ (l7 rfl rfl rfl eP (λy=>?_))
    refine mH (k:=3) (λD env=>T1 D env _) (λC env=>J1 X A env _) hA.mo (λC D it=>lg) (λD C fY hD=>kj hD) rfl rfl (by decide) (by decide)
     <|g7<|aP (V:=.lst (R.map dH)) eP<|mN λC'=>ja (λm3=>m3 "side"=some (.int (s.toNat:Int))) (CB s) (y0 1) trivial _ _ [] (λV hV m3 Mt=>?_) (by simp;exact Df qj) rfl λm3 y=>?_
    ·refine ax (cb.mp hV) λr hr ba=>?_;subst ba
     have Am:=lenb r hr;refine eR hA.handled rfl rfl<|bG<|aQ<|bG<|aQ<|eS ⟨rfl,?_⟩;refine aT<|bz<|af (.lst (bl r.1))<|aY<|jx (i:=0) (V:=.int ((r.1.getD 0 0).toNat:Int)) (HW bM Am) (vN (tC r hr))<|aP (V:=.int (s.toNat:Int)) Mt<|cu (kt (k7 rfl ?_ Mt (λy=>?_)))
     ·obtain⟨b,v⟩:=r
      cases b with
      |nil=>exact absurd (tC _ hr) (by simp)
      |cons x p=>rfl
     ·refine lW<|ak<|bz<|af (.lst (bl r.1))<|ee (lower:=some _) (upper:=none)<|aY (ki (o3 (HW bM Am) ?_))
      have EB:=iK (l:=bl r.1) 1;rw[show((1:Nat):Int)=1 from rfl]at EB;exact aaE EB<|ak<|af (.bytes r.2)<|aD (cA (by exact aaE df<|fZ rfl) rfl rfl)
    ·(refine aaE (gT ..)<|aaE (PS s tC) ?_)
     refine⟨rfl,?_⟩;show AV.lst _=AV.lst ((fB ((s.toNat:Int).toNat.toUInt8) R).map dH)
     (exact aaE (kM ..)<|aaE (show s.toNat.toUInt8=s from xw) rfl)
   refine aaE (gT ..)<|aaE (show(([AV.int 0,AV.int 1].filter λy=>true).map (IC R))=[.lst ((fB 0 R).map dH),.lst ((fB 1 R).map dH)]from rfl)<|aQ<|aw<|bE<|bK<|bK<|ig<|aV<|eg hX.g_node<|ak<|bz<|aP (V:=.lst [.lst ((fB 0 R).map dH),.lst ((fB 1 R).map dH)]) rfl<|aY<|jx (i:=0) (V:=.lst ((fB 0 R).map dH)) (by simp) rfl<|ak<|aP (V:=.ref f) I.nmof<|ak<|aP (V:=.ref dT) I.told<|aD ⟨yi hX,bc (ih n' (H3) (Ia bM) (c:=c+1+(fB 1 R).length*(n'+1)) R0 (TL qj DR) (S.less (To rL hmul)) λt h1 eX N1 D1 hT hk S1 s1 s2 hF=>?_) hA.mo⟩;obtain⟨Lf,hF⟩:=hF;have An:=S1.ok.W.ok.len _ _ hF.named.ltx;refine f5 (by simp;exact JH An)<|aV<|eg hX.g_node<|ak<|bz<|aP (V:=.lst [.lst ((fB 0 R).map dH),.lst ((fB 1 R).map dH)]) rfl<|aY<|jx (i:=1) (V:=.lst ((fB 1 R).map dH)) (by simp) rfl<|ak<|aP (V:=.ref f) I.nmof<|ak<|aP (V:=.ref dT) I.told<|aD ⟨yi hX,bc (ih n' (H3) (Ia bM) (c:=c+1) ZU (U8 qj DR) S1 λt' ej eK N2 D2 gR hU S2 u1 u2 Ao=>?_) hA.mo⟩;obtain⟨ZV,Ao⟩:=Ao;have X5:=S2.ok.W.ok.len _ _ Ao.named.ltx;refine f5 (by simp;exact JC An X5)<|aQ<|bw<|bw<|tail (x:=b9 h1 ej) (t:=.br t t') rfl I.told I.nmof S2 (s1.trans u1) (s2.trans u2) (Tr.br hR hT gR) (λy=>rfl) λN' D' h w1 w2 e1 e2=>(NS _ h1 ej Lf ZV ((hF.mono u1 u2).mono w1 w2) (Ao.mono w1 w2) e1 e2 rfl)
end
noncomputable def e8(c:UInt8):By:=(vp c).map lj
theorem vl(c:UInt8)(k:By):bu (c::k)=e8 c++bu k:=by unfold bu bits e8;(exact aaE nQ<|aaE qC rfl)
theorem BU(a b:UInt8):bu [a,b]=e8 a++e8 b:=by(refine aaE (vl ..)<|aaE (vl ..) ?_);simp[bu,bits]
theorem RY(c:UInt8):(e8 c).length=8:=rfl
theorem HJ:∀n<256,gv (e8 (UInt8.ofNat n))=(n:Int):=by decide+kernel
theorem HH(h:e8 a=e8 b):a=b:=by
 have h1:=HJ a.toNat (UInt8.toNat_lt a);have h2:=HJ b.toNat (UInt8.toNat_lt b);rw[xw]at h1 h2;rw[h,h2]at h1;exact xB.mp (by exact_mod_cast h1.symm)
noncomputable def yx:Nat->List By
 |0=>[[]]
 |n+1=>(yx n).map (0::·)++(yx n).map (1::·)
theorem Bn:∀{n:Nat} {c:By},c.length=n->ck c->c∈yx n
 |0,c,h,_=>by exact aaE (oJ.mp h)<|cV
 |n+1,[],h,_=>by simp at h
 |n+1,x::c,h,hb=>by
  have ih:=Bn (n:=n) (c:=c) (by simpa using h) λy hy=>hb y (cj _ hy);clear h;rcases hb x cV with rfl|rfl
  ·exact r7 _ (cb.mpr (aE c ih rfl))
  ·exact oK _ (cb.mpr (aE c ih rfl))
theorem HI:∀c∈yx 8,e8 (gv c).toNat.toUInt8=c:=by decide+kernel
theorem vw(h:k.length=2)(h':k'.length=2)(e:bu k=bu k'):k=k':=by
 revert e
 apply gG h;intro a b;apply gG h';intro c d e;rw[BU,BU]at e;have:=List.append_inj e rfl
 (exact aaE (HH this.1)<|aaE (HH this.2) rfl)
theorem Hd(h:p.length=16)(hb:ck p):∃k:By,k.length=2/\bu k=p:=by
 refine⟨[(gv (p.take 8)).toNat.toUInt8,(gv (p.drop 8)).toNat.toUInt8],rfl,?_⟩
 (refine aaE (BU ..)<|aaE (HI _ (Bn (by rw[jW];exact bF (min 8 ·) h) (yg hb 8))) ?_;refine aaE (HI _ (Bn (by rw[dE];exact bF (· - 8) h) (kR hb 8))) ?_;exact aaE (i0 ..) rfl)
structure HOk(H:BD):Prop where
 nd:(H.map (·.1)).Nodup
 k2:∀p∈H,p.1.length=2
 val:∀p∈H,p.2≠[]/\p.2.length<=16
structure HT(H:BD)(t:T):Prop where
 wf:WF 16 t
 short:fA t
 look:∀k:By,k.length=2->look t (bu k)=H.lookup k
theorem HT.unique(x:HT H t)(y:HT H t'):t=t':=Internal.Ce x.wf y.wf λp hp hb=>by
 refine ax (Hd hp hb) λk hk aR=>?_;clear hp hb;subst aR
 (exact aaE (x.look k hk)<|aaE (y.look k hk) rfl)
noncomputable def kg(H:BD)(L:List By):gP:=L.map λk=>(bu k,(H.lookup k).getD [])
theorem oO{H:BD}{k:By}(h:k∈H.map (·.1)):∃v,H.lookup k=some v:=by
 cases e:H.lookup k with
 |none=>exact absurd h (uz e)
 |some v=>exact⟨v,rfl⟩
theorem Rc{H:BD}{L:List By}(hH:HOk H)(hp:L.Perm (H.map (·.1)))(bR:H≠[]):RowsOk 16 (kg H L):=by
 have hk:∀k∈L,k.length=2/\∃v,H.lookup k=some v/\(k,v)∈H:=λk hk=>by
  have hm:=hp.mem_iff.mp hk;obtain⟨v,hv⟩:=oO hm;exact(dP (hH.k2 _ (jD hv)) v hv (jD hv))
 refine⟨λe=>?_,λr hr=>?_,λr hr=>?_,?_,λr hr=>?_⟩
 ·unfold kg at e
  rw[List.map_eq_nil_iff]at e;rw[e]at hp;have:=hp.length_eq;simp at this;exact bR (oJ.mp this.symm)
 ·refine az λkk=>?_
  refine ax (cb.mp hr) λk qk ba=>?_;clear hr;subst ba;refine kk ?_
  (exact aaE (kT ..)<|aaE ((hk k qk).1) rfl)
 ·refine az λkk=>?_
  refine ax (cb.mp hr) λk qk bh=>?_;clear hr;subst bh;exact kk<|kS k
 ·unfold kg
  refine aaE fS ?_;have hL:=hp.nodup_iff.mpr hH.nd;unfold List.Nodup at hL ⊢;exact aaE (propext List.pairwise_map)<|hL.imp_of_mem λ{x y} hx hy hn e=>hn (vw (hk x hx).1 (hk y hy).1 e)
 ·refine az λkk=>?_
  refine ax (cb.mp hr) λk qk bN=>?_;clear hr;subst bN;refine fJ (hk k qk) λz v hv hm=>?_;refine kk ?_;show(H.lookup k).getD []≠[]/\((H.lookup k).getD []).length<=16;exact aaE hv<|hH.val _ hm
theorem Vr{H:BD}{L:List By}{t:T}(hH:HOk H)(hp:L.Perm (H.map (·.1)))(T:Tr 16 (kg H L) t):HT H t:=by
 refine⟨T.wf,T.short,λk hk=>?_⟩;refine aaE (T.look _ (by rw[kT,hk]) (kS k)) ?_
 have gen:∀M:List By,(∀x∈M,x.length=2/\x∈H.map (·.1))->(kg H M).lookup (bu k)=if k∈M then H.lookup k else none:=λM=>by
  induction M with
  |nil=>intro _;rfl
  |cons x M ih=>
   intro h;have ih:=ih λy hy=>h y (cj _ hy);obtain⟨Mu,ZW⟩:=h x cV;show List.lookup (bu k) ((bu x,(H.lookup x).getD [])::kg H M)=_;refine aaE cL ?_
   by_cases e:k=x
   ·clear h Mu;refine aaE e ?_
    obtain⟨v,hv⟩:=oO ZW;simp[hv]
   ·(refine aaE (show(bu k==bu x)=false from cR.mpr λq=>e (vw hk Mu q))<|aaE ih ?_)
    simp[e]
 refine aaE (gen L λx hx=>⟨by obtain⟨v,hv⟩:=oO (hp.mem_iff.mp hx);exact hH.k2 _ (jD hv),hp.mem_iff.mp hx⟩) ?_
 split
 ·rfl
 ·rename_i q
  cases e:H.lookup k with
  |none=>rfl
  |some v=>exact absurd (hp.mem_iff.mpr (cb.mpr ⟨_,jD e,rfl⟩)) q
theorem Gh{H:BD}{k x:By}:(H.del k).lookup x=if x=k then none else H.lookup x:=by
 induction H with
 |nil=>simp[BD.del]
 |cons p H ih=>
  obtain⟨a,b⟩:=p;unfold BD.del at ih ⊢
  by_cases e:a=k
  ·(refine aaE (uu (by simpa using e))<|aaE ih<|aaE cL ?_)
   by_cases q:x=k
   ·simp[q]
   ·(exact aaE (ar q)<|aaE (ar q)<|aaE (show(x==a)=false from cR.mpr λw=>q (w.trans e)) rfl)
  ·(refine aaE (r6 (by simpa using e))<|aaE cL<|aaE cL<|aaE ih ?_)
   by_cases q:x=a
   ·subst q;refine aaE (ar e) ?_;simp[e]
   ·exact aaE (show(x==a)=false from cR.mpr q) rfl
theorem HOk.nil:HOk []:=⟨by simp,by simp,by simp⟩
theorem BS:∀{H:BD},(H.put k v).map (·.1)=if k∈H.map (·.1)then H.map (·.1)else H.map (·.1)++[k]
 |[]=>rfl
 |(a,b)::H=>by
  have ih:=BS (k:=k) (v:=v) (H:=H);dsimp only[BD.put]
  by_cases e:a=k
  ·(refine aaE (aA e)<|aaE (aA (by rw[eB,e];exact cV)) ?_);rfl
  ·(refine aaE (ar e)<|aaE eB<|aaE ih ?_)
   by_cases q:k∈H.map (·.1)
   ·(refine aaE (aA q)<|aaE (aA (show k∈List.map (λx=>x.1) ((a,b)::H)from cj _ q)) ?_);rfl
   ·rw[ar q,ar]
    ·rfl
    ·(refine aaE eB<|aaE (propext dm) ?_);rintro(w|w)
     ·exact e w.symm
     ·exact q w
theorem Hv{H:BD}{k v:By}{p:By×By}(h:p∈H.put k v):p=(k,v)∨p∈H:=by
 induction H with
 |nil=>simpa [BD.put]using h
 |cons x H ih=>
  obtain⟨a,b⟩:=x;dsimp only[BD.put]at h
  split at h
  ·rename_i e;clear ih;subst e
   rcases dm.mp h with q|q
   ·exact .inl q
   ·exact .inr (cj _ q)
  ·rcases dm.mp h with q|q
   ·exact .inr (q▸cV)
   ·exact(ih q).imp id (cj _)
theorem HOk.put{H:BD}{k v:By}(h:HOk H)(hk:k.length=2)(hv:v≠[]/\v.length<=16):HOk (H.put k v):=by
 refine⟨?_,λp hp=>?_,λp hp=>?_⟩
 ·refine aaE BS ?_
  split
  ·exact h.nd
  ·rename_i q
   exact aaE (propext AW)<|⟨h.nd,by simp,λa ha b hb e=>q (by simp at hb;(refine aaE (aq hb)<|aaE (aq e) ?_);exact ha)⟩
 ·rcases Hv hp with rfl|q
  ·exact hk
  ·exact h.k2 p q
 ·rcases Hv hp with rfl|q
  ·exact hv
  ·exact h.val p q
theorem HOk.del(h:HOk H):HOk (H.del k):=by
 have hs:∀p∈H.del k,p∈H:=λp hp=>(xC.mp hp).1;exact⟨(List.filter_sublist.map _).nodup h.nd,λp hp=>h.k2 p (hs p hp),λp hp=>h.val p (hs p hp)⟩
theorem HT.put(h:HT H t)(hk:k.length=2)(hv:v≠[])(hl:v.length<=16):∃t',upd t (bu k) v=some t'/\HT (H.put k v) t':=by
 have law:=l5 h.wf (p:=bu k) (by(exact aaE (kT ..)<|aaE hk rfl)) (kS k) (v:=v)
 cases hu:upd t (bu k) v with
 |none=>rw[hu]at law;exact absurd law.1 hv
 |some t'=>
  rw[hu]at law;refine(aE t' rfl ⟨law.1,sI h.short hl hu,λx hx=>?_⟩);refine aaE (law.2 _ (by rw[kT,hx]) (kS x)) ?_
  by_cases e:x=k
  ·clear hk law hu;subst e;(exact aaE (aA rfl)<|aaE (ar hv)<|aaE BD.put_get rfl)
  ·(refine aaE (ar λq=>e (vw hx hk q))<|aaE (BD.put_other e) ?_);exact h.look x hx
theorem HT.del{H:BD}{t t':T}{k:By}(h:HT H t)(hk:k.length=2)(hu:upd t (bu k) []=some t'):HT (H.del k) t':=by
 have law:=l5 h.wf (p:=bu k) (by(exact aaE (kT ..)<|aaE hk rfl)) (kS k) (v:=[]);rw[hu]at law;refine⟨law.1,sI h.short (by simp) hu,λx hx=>?_⟩
 (refine aaE (law.2 _ (by rw[kT,hx]) (kS x))<|aaE Gh ?_)
 by_cases e:x=k
 ·clear hk hu law;subst e;(exact aaE (aA rfl)<|aaE (aA rfl)<|aaE (aA rfl) rfl)
 ·(refine aaE (ar λq=>e (vw hx hk q))<|aaE (ar e) ?_);exact h.look x hx
theorem Vu:∀n:Nat,n<256->∀q:Nat,q<8->((n:Int).fdiv (2 ^ (7 - q))).fmod 2=(((e8 (UInt8.ofNat n)).getD q 0).toNat:Int):=by decide+kernel
theorem Gi{X:Cx}{A:Around}{σ:St}{P:Pv}{env:Env}{Dep:St->St->Prop}{K:Mp->St->List AV->Prop}{J:nD}{target:Expr}(I:Mp->Prop)(f:AV->List AV)(hD:Dep σ σ):∀(L:List AV) (m:Mp) (out:List AV),
  (∀V∈L,∀m out (K':Mp->St->List AV->Prop),I m->(∀m',I m'->K' m' σ (out++f V))->out.length<=4096->As X A aC P env m target V σ λm₁ ay=>ay=σ/\J m₁ σ out K')->(∀V∈L,(f V).length<=8)->out.length+8*L.length<=4096->
  I m->(∀m',I m'->K m' σ (out++L.flatMap f))->la X A Dep P env target [] J K L m σ out
 |[],m,out,_,_,_,hI,hK=>by show K m σ out;have:=hK m hI;simpa using this
 |V::L,m,out,h,hf,hz,hI,hK=>by
  rw[cW]at hz;have ZX:=hf V cV;refine As.mono (h V cV m out (λm₂ dZ Cp=>Dep σ dZ/\la X A Dep P env target [] J K L m₂ dZ Cp) hI (λm' wQ=>⟨hD,?_⟩) (ae (bB _ _) hz)) λm₁ ay aR=>bY aR λe hj=>?_
  ·refine Gi I f hD L m' _ (λV hV=>h V (cj _ hV)) (λV hV=>hf V (cj _ hV)) (by exact aaE cw<|(ae (aK (fq _ _ _)) (ae (cK ZX _) hz))) wQ λm2 ZY=>?_
   have:=hK m2 ZY;rw[nQ,←qw]at this;exact this
  ·have e:=e.symm;clear aR;exact aaE (aq e)<|hj
theorem Vt:
  compTurn (.ListComp elt [⟨target,iter,[],0⟩,⟨i9,fj,[],0⟩] scope pos) 0 it (.ref D) env=pA (.ListComp elt [⟨target,iter,[],0⟩,⟨i9,fj,[],0⟩] scope pos) 0 target iter [] it (.ref D) env (T2 (.ListComp elt [⟨target,iter,[],0⟩,⟨i9,fj,[],0⟩] scope pos) D env fj):=by
 have e:compTurn (.ListComp elt [⟨target,iter,[],0⟩,⟨i9,fj,[],0⟩] scope pos) 0 it (.ref D) env=(do
  standAt iter.pos
  match ←pyNext it with
  |none=>pure (.done .next)
  |some v=>
   letOwnedTupleGo target it v
   assign target env v
   let x ←eval fj env
   standAt fj.pos
   let x ←foldedSetIterable fj env x;let a ←holding [x] (pyIter x);let _ ←runOwn (.compStart (.ListComp elt [⟨target,iter,[],0⟩,⟨i9,fj,[],0⟩] scope pos) 1 a (.ref D) env) env
   again (.compLoop (.ListComp elt [⟨target,iter,[],0⟩,⟨i9,fj,[],0⟩] scope pos) 0 it (.ref D) env)):=by rfl
 refine aaE e ?_;unfold pA T2;simp only[List.forIn_nil,pure_bind,bind_assoc,if_true]
 try rfl
theorem NO(hA:Room A k)
  (hk:scope.kind=.function)(hf:k9 env scope.names=true)(hn:(scope.names.map (·.1)).Nodup)(qZ:∀x∈scope.names,x.2=.local->scope.names.lookup x.1=some .local)(dW:∀env x,foldedSetIterable fj env x=pure x)(hs:∀x,foldedSetIterable iter env x=pure x)
  (h:lz X A aC k env m (some target) iter σ λDep l aS=>∀C,la X A Dep (bg C (cq scope C env)) (cq scope C env) target [] (J2 X A k C (cq scope C env) elt i9 fj []) (λy ab out=>Q (.lst out) ab) l (oz scope m) aS []):
  Ev X A aC env m (.ListComp elt [⟨target,iter,[],0⟩,⟨i9,fj,[],0⟩] scope pos) σ Q:=
 mH (λD env=>T2 (.ListComp elt [⟨target,iter,[],0⟩,⟨i9,fj,[],0⟩] scope pos) D env fj) (λC env=>J2 X A k C env elt i9 fj []) hA (λC D it=>Vt) (λD C fY hD=>Vk hA hD fY (λit=>rfl) (λy=>rfl) (λy=>rfl) (λy=>rfl) (λy=>rfl) (λy=>rfl) rfl (dW _)) hk hf hn qZ h hs
noncomputable def y4:AV->List AV
 |.int c=>bl (e8 c.toNat.toUInt8)
 |_=>[]
theorem PT(k:By):(bl k).flatMap y4=bl (bu k):=by
 induction k with
 |nil=>rfl
 |cons c k ih=>
  (refine aaE (vl ..)<|aaE (sY ..)<|aaE (aq ih) ?_)
  show y4 (.int (c.toNat:Int))++_=_
  congr 1
  show bl (e8 ((c.toNat:Int).toNat.toUInt8))=_
  (exact aaE (kM ..)<|aaE (show c.toNat.toUInt8=c from xw) rfl)
noncomputable def HK(H:BD):AV->AV
 |.bytes k=>dH (bu k,(H.lookup k).getD [])
 |V=>V
theorem QA(H:BD)(L:List By):(L.map AV.bytes).map (HK H)=(kg H L).map dH:=by
 unfold kg;(refine aaE fS<|aaE fS ?_);rfl
section
variable {X:Cx} {f d:Addr} (hX:Base7 X)
include hX
theorem GF:cQ X σ (.ref 438):=by refine bk hX.f_tree λx x F'=>?_;exact F'.keep
theorem Hw(nmf:NmF σ f d N)(hW:NmW N)(bf:σ aH=some (.dict H))(ha:aH≠1)(hH:HOk H)(bR:H≠[])(hz:H.length<=8)(hn:N.length+(c+200)<=50000)(hd:aH≠d)
  (hQ:∀t h dT ab N' D',σ dT=none->dT≠1->HT H t->(∀b,σ b≠none->b≠d->ab b=σ b)->NmF ab f d N'->ab dT=some (.dict D')->SOk N' D'->BD.Sub N N'->N'.length+c<=50000->D'.length<=50000->(∃L,Full N' D' t h L)->Q (.tup [.bytes h,.ref dT]) ab):CallOk X 24 (.ref 438) [.ref aH,.ref f] σ Q:=by
 refine bk hX.f_tree λcode pm F=>?_;refine dQ (k:=23) F ["held","name_of"] (c7 ["held","name_of"] λvs hv=>?_) rfl λA L hA=>?_
 ·(apply gG hv;intro v1 v2;rfl)
 refine aw<|bE<|vq hX.toBase λdT uo qm=>aQ ?_;have neH:∀{b:Addr},σ b≠none->b≠dT:=λhb e=>hb (by exact aaE e<|uo);have s1:∀{b:Addr},σ b≠none->(σ.set dT (.dict [])) b=σ b:=λhb=>by unfold St.set;exact aaE (ar (neH hb)) rfl
 refine aw<|bp<|aT<|af (.ref aH)<|vq hX.toBase λb hb kD=>OU (l:=H) (l':=[]) ?_ (by unfold St.set;exact aaE (aA rfl) rfl) ha kD (by have:=hA.units;exact dw (bB _ _) this) ?_ (aE _ rfl ?_)
 ·have dK:aH≠b:=λe=>by
   rw[←e,s1 (by refine aaE bf ?_;simp),bf]at hb;exact bZ hb
  have:((σ.set dT (.dict [])).set b (.dict [])) aH=(σ.set dT (.dict [])) aH:=by unfold St.set;exact aaE (ar dK) rfl
  (refine aaE this<|aaE (s1 (by rw[bf];simp)) ?_;exact aaE bf rfl)
 ·intro e;exact bR (oJ.mp e)
 refine bQ rfl ?_;have Mv:b≠dT:=λe=>by rw[e]at hb;unfold St.set at hb;rw[aA rfl]at hb;exact bZ hb
 have X6:σ b=none:=by
  have:(σ.set dT (.dict [])) b=σ b:=by unfold St.set;exact aaE (ar Mv) rfl
  exact aaE (aq this)<|hb
 generalize LF:(σ.set dT (.dict [])).set b (.dict [])=eK
 have old:∀x,σ x≠none->eK x=σ x:=λx hx=>by
  have:x≠b:=λe=>hx (by exact aaE e<|X6);refine aaE (aq LF) ?_;show(if x=b then _ else (σ.set dT (.dict [])) x)=_
  (exact aaE (ar this)<|aaE (s1 hx) rfl)
 have ZZ:eK dT=some (.dict []):=by
  refine aaE (aq LF) ?_;show(if dT=b then _ else (σ.set dT (.dict [])) dT)=_;refine aaE (ar Mv.symm) ?_;unfold St.set;exact aaE (aA rfl) rfl
 have Mw:eK aH=some (.dict H):=by(refine aaE (old aH (by rw[bf];simp)) ?_;exact aaE bf rfl)
 have nm2:NmF eK f d N:=by
  obtain⟨⟨o,c,co,cc,oc,code,pm,ct,doc,vs,t,e1,e2,e3,e4,e5,e6,e7,e8⟩,hd,d1⟩:=nmf;have kp:∀{x:Addr} {tr:Trk},σ x=some tr->eK x=some tr:=λ{x tr} h=>by(refine aaE (old x (by rw[h];simp)) ?_;exact aaE h rfl)
  exact⟨⟨o,c,co,cc,oc,code,pm,ct,doc,vs,t,kp e1,e2,kp e3,e4,e5,kp e6,e7,e8⟩,kp hd,d1⟩
 have Mx:dT≠d:=λe=>by rw[e,nmf.dict]at uo;exact bZ uo
 refine bw<|aw<|Bb (hsw:=by rfl) (he:=by rfl) (hfa:=by rfl) (k:=3) (λD env=>T1 D env _) (λC env=>J1 X A env _) hA.mo (λC D it=>lg) (λD C fY hD=>kj hD) rfl rfl (by decide) (by decide)
  <|g7<|aV<|eg hX.g_sorted<|ak<|af (.ref aH)<|aD ⟨trivial,Fh Mw ha hA.handled (dw hz (lb rfl)) λLk tD=>?_⟩
 have hlen:Lk.length<=8:=by have:=tD.length_eq;rw[dF]at this;exact Ta hz this
 have hk:∀k∈Lk,∃v,H.lookup k=some v/\k.length=2:=λk qk=>by
  obtain⟨v,hv⟩:=oO (tD.mem_iff.mp qk);exact(aE v hv (hH.k2 _ (jD hv)))
 refine mN λC=>ja (λm2=>m2 "held"=some (.ref aH)) (λy=>true) (HK H) trivial _ _ [] (λV hV m2 eP=>?_) (by simp;exact ae hlen (lb rfl)) rfl λm2 y=>?_
 ·refine ax (cb.mp hV) λk qk ba=>?_;subst ba
  refine ax (hk k qk) λv hv kJ=>?_;refine aQ (l7 rfl rfl rfl eP (λy=>?_))
  refine lW<|ak<|NO (k:=3) hA.mo rfl rfl (by decide) (by decide) (λy y=>rfl) (λy=>rfl)
   <|g7<|af (.bytes k)<|Gq λC'=>Gi (λy=>True) y4 trivial _ _ [] (λV hV m3 out K' y jt nI=>?_) (λV hV=>?_) (by(refine aaE (kW ..)<|aaE kJ ?_);decide) trivial λm3 y=>?_
  ·refine ax (cb.mp hV) λo ho bh=>?_;subst bh
   refine aQ ⟨rfl,?_⟩;refine g7<|aV<|eg hX.g_range<|ak<|aY<|aD ⟨trivial,FR<|yb (n:=8) (by decide) (by decide)<|ja (λm=>m "octet"=some (.int (o.toNat:Int))) (λy=>true) (λV=>match V with|.int q=>.int (((e8 o).getD q.toNat 0).toNat:Int)|V=>V) trivial _ _ _ (λV hV m4 My=>?_) (by simp[fK];exact ae nI (lb rfl)) rfl λm' y=>?_⟩
   ·refine ax (cb.mp hV) λq hq bN=>?_;subst bN
    have fp:=xI.mp hq;refine aQ (l7 rfl rfl rfl My (λy=>?_));refine bK<|bK<|aP (V:=.int (o.toNat:Int)) My<|bK<|aY<|bK<|aY<|aP (V:=.int (0+(q:Int)*1)) rfl<|xY<|aaE (show((7:Int) - (0+(q:Int)*1))=((7 - q:Nat):Int)from by exact H6 fp) ?_
    have Mz:(2:Int) ^ (7 - q)≠0/\((2:Int) ^ (7 - q)).natAbs<1073741824:=by
     have:∀j<8,(2:Int) ^ j≠0/\((2:Int) ^ j).natAbs<1073741824:=by decide
     exact this _ (TF)
    refine B3 (S0)<|uU Mz.1 Mz.2<|aY<|jB (by decide) ⟨rfl,?_⟩;have:=Vu o.toNat (UInt8.toNat_lt o) q fp;rw[xw]at this;refine aaE this ?_;show AV.int _=AV.int (((e8 o).getD (0+(q:Int)*1).toNat 0).toNat:Int);exact aaE (show(0+(q:Int)*1).toNat=q from by exact Cr) rfl
   ·have e:((fK 0 1 8).filter λy=>true)=fK 0 1 8:=by simp
    refine aaE e ?_
    have e2:(fK 0 1 8).map (λV=>match V with|AV.int q=>AV.int (((e8 o).getD q.toNat 0).toNat:Int)|V=>V)=y4 (.int (o.toNat:Int)):=by
     show _=bl (e8 ((o.toNat:Int).toNat.toUInt8))
     (refine aaE (kM ..)<|aaE (show o.toNat.toUInt8=o from xw) ?_)
     rfl
    exact aaE e2<|jt _ trivial
  ·refine ax (cb.mp hV) λo ho cI=>?_;subst cI
   (refine aaE (kW ..)<|aaE (RY ..) ?_);exact bC _
  ·(refine aaE (gT ..)<|aaE (PT ..) ?_)
   refine ak<|bz<|aP (V:=.ref aH) eP<|af (.bytes k)<|fw Mw hv<|aD (cA (by exact aaE df<|fZ rfl) rfl ?_);show AV.tup [.lst (bl (bu k)),.bytes v]=AV.tup [.lst (bl (bu k)),.bytes ((H.lookup k).getD [])];refine aaE hv ?_;rfl
 (refine aaE (gT ..)<|aaE (show((Lk.map AV.bytes).filter λy=>true)=Lk.map AV.bytes from by simp) ?_;refine aaE (QA ..) ?_)
 refine aQ ?_;have rU:(kg H Lk).length=Lk.length:=by unfold kg;exact aaE (dF ..) rfl
 have hmul:(kg H Lk).length*(16+1)<=136:=by exact aaE rU<|AI 17 hlen
 have S2:Sn f d dT eK eK N [] (c+(kg H Lk).length*(16+1)):=⟨nm2,ZZ,qm,Mx,⟨hW,λy y q=>by exact be q⟩,.refl,by exact ae (cK (cK (ae hmul (lb rfl)) _) _) hn,by simp;exact ae (cK (ae (AI 17 (ae (aK rU) hlen)) (lb rfl:8*17<=200)) _) (ae (ib _ _) hn)⟩;refine aw<|cD<|lW<|ak<|aV<|eg hX.g_node<|ak<|aP (V:=.lst ((kg H Lk).map dH)) rfl<|ak<|af (.ref f)<|ak<|af (.ref dT)<|aD ⟨yi hX,bc (Rb hX 16 (by decide) (Rc hH tD bR) (ae (aK rU) (ae hlen (lb rfl))) S2 λt h qh N3 D3 hT hk S3 u1 u2 hF=>?_) hA.mo⟩;refine ak<|af (.ref dT)<|aD ⟨by exact aaE df<|fZ rfl,hQ t h dT qh N3 D3 uo qm (Vr hH tD hT) (λx hx Ej=>?_) S3.nm S3.td S3.ok u1 S3.n ?_ hF⟩
 ·(exact aaE (S3.only x (by simp[Ej,neH hx]))<|aaE (old x hx) rfl)
 ·have:=S3.m;exact ae (bB _ _) this
end
theorem He{h:Heap}{a:Addr}(x:h.objs.size<=a):h.get? a=none:=by
 cases e:h.get? a with
 |none=>rfl
 |some o=>exact absurd (cC e) (j0.mpr x)
theorem Go.extTrk(S:Sat X g σ s)(bf:σ a=some t)(k:∀b o,b≠a->s.heap.get? b=some o->s'.heap.get? b=some o)
  (h1:∀b,s.heap.get? b≠none->b≠a->ab b=σ b)(h2:∀b t,ab b=some t->(b=a∨s.heap.get? b=none)->TrkAt X.w g s'.heap b t)(h3:ab a≠none)(f9:s'.os=s.os:=by rfl)(hg:s'.gens=s.gens:=by rfl):Go X aL g σ s g ab s':=by
 have jS:=(S.trk a t bf).1;have ne:∀b o,g b=some o->b≠a:=λb o e q=>by rw[q,jS]at e;exact be e
 have np:∀p∈X.tabs,p.2≠a:=λp hp q=>by have:=(S.tab p hp).2.1;rw[q,bf]at this;exact bZ this
 have tk:∀{b t},TrkAt X.w g s.heap b t->b≠a->TrkAt X.w g s'.heap b t:=λ{b t} x dK=>by
  cases t with
  |dict l=>refine ax x λkvs d r=>?_;exact(aE kvs (d.at λo e=>k b o dK e) r)
  |ns l=>refine ax x λm d r=>?_;exact(aE m (d.at λo e=>k b o dK e) r)
  |obj o=>exact k b o dK x
 refine⟨⟨S.le,λb o e=>k b o (ne b o e) (S.in_ b o e),λb u e=>?_,λp hp=>?_⟩,.refl g,λy y y y=>rfl,λb o e y=>?_,f9,λb o e y=>?_,λb o e hb y y=>?_,λp hp o vs e cZ=>⟨#[],?_⟩,by rw[hg];exact bC _,λi x e y=>by rw[hg];exact e,λi x e=>by rw[hg]at e;exact .inl e⟩
 ·by_cases q:b=a
  ·clear bf k h1 h3 ne np tk;subst q;exact⟨jS,h2 _ _ e (.inl rfl)⟩
  ·cases q2:s.heap.get? b with
   |none=>exact⟨View.none_of S.in_ q2,h2 _ _ e (.inr q2)⟩
   |some o=>
    rw[h1 b (by rw[q2];simp) q]at e;exact⟨(S.trk b u e).1,tk (S.trk b u e).2 q⟩
 ·refine iE (S.tab p hp) λe1 e2 e3 ps e4=>?_
  have hP:s.heap.get? p.2≠none:=by refine ax (vf e4) λo e y=>?_;rw[e];simp
  refine(mT e1 (by rw[h1 _ hP (np p hp)];exact e2) e3 ps (qT e4 (λo=>k _ o ?_) (λo=>k _ o (np p hp))))
  cases q:g p.1 with
  |none=>exact absurd q e3
  |some o=>exact ne _ o q
 ·by_cases q:b=a
  ·clear k h1 h2 jS ne np tk;subst q;exact⟨λq=>absurd q h3,λq=>by rw[bf]at q;exact bZ q⟩
  ·rw[h1 b (by rw[e];simp) q]
 ·by_cases q:b=a
  ·clear bf k h1 jS ne np tk;subst q
   cases q:ab b with
   |none=>exact absurd q h3
   |some u=>exact(h2 b u q (.inl rfl)).at
  ·exact⟨o,k b o q e⟩
 ·have q:b≠a:=λq=>by rw[q,bf]at hb;exact bZ hb
  exact .inl (k b o q e)
 ·rw[k _ _ (np p hp) e];congr 1;obtain⟨c,d,dt,sl⟩:=o;clear e;refine aaE (aq cZ) ?_;simp
section
variable {X:Cx} {A:Around} {P:Pv} {env:Env} {m:Mp} {σ:St}
theorem Frm.trkCell(F:Frm X env (m.upd x V) g σ s)(hm:m x=none)(hk:env.kindOf x=some .cell)(hx:x="names")(hl:env.cells.lookup x=some c)(hc:c≠env.locals):Frm X env m g (σ.set c t) s:=by
 have fr:∀b,b≠c->(Free X g (σ.set c t) b↔Free X g σ b):=λb hb=>by unfold Free St.set;rw[ar hb]
 have nc:¬Free X g (σ.set c t) c:=λh=>by have:=h.2.1;unfold St.set at this;rw[aA rfl]at this;exact bZ this
 have mu:∀y V',m y=some V'->(m.upd x V) y=some V':=λy V' e=>by
  unfold Mp.upd;split
  ·rename_i q;rw[q,hm]at e;exact be e
  ·exact e
 have dc:∀y b,y≠x->env.cells.lookup y=some b->b≠c:=λy b hy hb e=>hy (name_of_addr F.inj (mem_of_lookup hb) (e▸mem_of_lookup hl));refine⟨F.kind,(fr _ (jf hc)).mpr F.free,?_,λy b hb hU hf=>?_,λy W hW=>?_,F.inj,F.csz,λy b hU hy hb=>?_⟩
 ·refine ax F.ns λmC hn h=>?_
  exact(aE mC hn (λy W hW hU=>h y W (mu y W hW) hU))
 ·refine az λkk=>?_
  have Z0:b≠c:=λe=>nc (e▸hf);refine fJ (F.cells y b hb hU ((fr b Z0).mp hf)) λh1 v h2 h3=>?_;exact kk<|(dP h1 v h2 (λW hW=>h3 W (mu y W hW)))
 ·refine az λkk=>?_
  clear hk hx hl;rcases F.var y W (mu y W hW)with h|⟨h,b,hb,hf⟩
  ·exact kk<|.inl h
  ·refine kk<|.inr (dP h b hb ((fr b (dc y b ?_ hb)).mpr hf))
   rintro rfl;rw[hm]at hW;exact be hW
 ·exact(fr b (dc y b (λe=>hy (e.trans hx)) hb)).mpr (F.own y b hU hy hb)
theorem Go.trkCell(S:Sat X g σ s)(hf:Free X g σ c)(ho:s.heap.get? c=some o)(hP:P.a c):Go X P g σ s g (σ.set c (.obj o)) s:=by
 have e0:∀b,b≠c->σ.set c (.obj o) b=σ b:=λb hb=>by unfold St.set;rw[ar hb]
 refine⟨⟨S.le,S.in_,λb u e=>?_,λp hp=>?_⟩,.refl g,λx x x x=>rfl,λb x x hb=>?_,.keeps (λx x e=>e) rfl rfl⟩
 ·by_cases q:b=c
  ·clear hP e0;subst q;unfold St.set at e;rw[aA rfl]at e;(refine aaE (aq (bq e)) ?_);exact⟨hf.1,ho⟩
  ·rw[e0 b q]at e;exact S.trk b u e
 ·refine s9 (S.tab p hp) λe1 e2 e3 e4=>?_
  exact(k7 e1 (by rw[e0 _ (hf.2.2 p hp)];exact e2) e3 e4)
 ·rw[e0 b λq=>hb (q▸hP)]
theorem QB(hX:Base X)(hm:m "names"=none)(hk:env.kindOf "names"=some .cell)(hl:env.cells.lookup ("names":Str)=some c)(hP:P.a c)
  (h:∀d co,σ d=none->d≠1->c≠d->co.data=.cell (some (.ref d))->Q .next m ((σ.set d (.dict [])).set c (.obj co)))
  (hs:swapsWithSole [(Expr.Name "names" p1)] (.Dict [] [] p2) p3.line env=pure false:=by rfl):∀g s,Sat X g σ s->Frm X env m g σ s->Free X g σ c->wpAny (model P0 X.w) A (exec (.Assign [.Name "names" p1] (.Dict [] [] p2) p3) env) (PostX X P env g σ s Q) aC s:=λg s S F hf=>by
 obtain⟨oc,xd⟩:=F.csz _ c hl;have bR:=(F.cells _ c hl (.inl hk) hf).1;refine aaE (exec_Assign ..)<|ag (d7 ?_);refine aaE hs<|ag (aO ?_);refine aaE (ar (by decide))<|ag (aB (vq (Q:=λV ab=>∃d,V=.ref d/\σ d=none/\d≠1/\ab=σ.set d (.dict [])) hX (λd hd qm=>(jG d rfl hd qm rfl)) g s S F) (λv s₁ zz=>zz.rec λaJ V ay ai aX aF=>?_) i2);refine az λkk=>?_;refine kX aF λd aR hd qm ba=>?_;subst aR;clear aF;subst ba;refine kk<|ag (dn (a:=none) rfl ?_);show wpAny _ A (do assignAll v [assign (.Name "names" p1) env];pure Flow.next) _ aC s₁;refine ag ?_;show wpAny _ _ (do standAt p1;bindName env "names" v) _ _ _;have oj:=hf.go ai xd id;have hcd:c≠d:=λe=>by have:=oj.2.1;unfold St.set at this;rw[aA e]at this;exact bZ this
 refine ag (d7 (wpAny_bindName (BY ai.sat (F.go ai) aX hk hl oj hP λs' G F'=>aO ?_)));refine az λkk=>?_;refine fJ (F'.cells _ c hl (.inl hk) oj) λx v' hv MA=>?_;refine ax (MA (.ref d) (by unfold Mp.upd;exact aaE (aA rfl) rfl)) λu bh ru=>?_;subst bh;refine kk ?_;clear MA;obtain rfl:=ru;refine ax hv λco ho cZ=>?_;exact⟨aJ,.next,m,_,(ai.any.trans G).trans (Go.trkCell G.sat oj ho hP),Frm.trkCell F' hm hk rfl hl bR,rfl,h d co hd qm hcd cZ⟩
noncomputable def gH(ps:Array Value):Obj:={cls:=.none,data:=.fields ps}
theorem RZ{Q:AFl->Mp->St->Prop}{c d:Addr}{co:Obj}{N:BD}(hX:Base X)(hC:∀h:Heap,X.B.In h->CodeHd h 449 447)(ht:σ 447=some (.obj (gH #[])))(iW:closureFor (qW iP) env=pure [(("names":Str),c)])
  (vZ:env.code=.ref 449)(hg:env.globals=mainGlobals)(hq:qualnameIn env "name_of" "name_of"="law.<locals>.name_of")(bf:σ c=some (.obj co))(hco:co.data=.cell (some (.ref d)))(hd:σ d=some (.dict N))(qm:d≠1)
  (hk:env.kindOf "name_of"=some .local)(hP:P.a env.locals)
  (h:∀f ab,NmF ab f d N->(∀b,σ b≠none->b≠447->ab b=σ b)->(∃ps,ab 447=some (.obj (gH ps)))->Q .next (m.upd "name_of" (.ref f)) ab):Ex X A aC P env m iP σ Q:=λg s S F=>by
 refine az λkk=>?_;have zM:=(S.trk 447 _ ht).2;have hB:=S.in_.le S.le;obtain⟨mg,bm,ob,b1,b2,b3,b4,b5,b6,b7⟩:=hX.bi _ hB
 have m1:bm≠mainGlobals:=λe=>by
  refine az λkk=>?_;refine jc b1 λo _ _ h1 h2 _=>?_;refine kk ?_;rw[←e,b4]at h1;obtain rfl:=bq h1;rw[b7]at h2;cases h2
 have m2:bm≠447:=λe=>by rw[e,zM]at b4;(first|exact be b4|exact bZ b4|exact gy b4|exact gN b4|(clear b5 b6;obtain rfl:=bq b4)|subst b4|cases b4);cases b7
 have Z1:s.heap.BuiltinsAt mg 447:=⟨bm,ob,b2,b3,m1,m2,b4,b5,b6,b7⟩;obtain⟨pos,oy⟩:∃pos,iP=.FunctionDef "name_of" (vB iP) (fz iP) [] none [] (qW iP) none "name_of" pos:=⟨_,rfl⟩;refine kk<|aaE oy<|nestDef_K rfl rfl rfl<|aaE hq<|makeFunction_K iW hg b1 vZ (hC _ hB) zM (by trivial) rfl (by decide) Z1 λc' ctv doc h' tk hx MB cG X7 Z2=>?_;refine az λkk=>?_;refine lT X7 λcc oc vs t jU xd oB Z3=>?_
 first|exact be jU|exact bZ jU|exact gy jU|exact gN jU|(clear iW;refine aaE (aq (bq jU)) ?_)|clear iW;subst jU|clear iW;cases jU
 refine kk ?_;generalize xe:fnMade "name_of" "law.<locals>.name_of" (vB iP) (fz iP) (qW iP) [(("names":Str),c)] doc ((mg "__name__").getD .none) c' ctv=fo;have Z4:fo.isFreed=false:=by refine aaE (aq xe) ?_;rfl
 have Z5:fo.data=.func (zv c (.ref c') ((mg "__name__").getD .none) ctv doc):=by refine aaE (aq xe) ?_;rfl
 have Al:s.heap.objs.size<=h'.objs.size:=dS (dw MB cG);have n1:=He MB;have n2:s.heap.get? h'.objs.size=none:=He Al;have c4:c'≠447:=λe=>by rw[e,zM]at n1;exact bZ n1
 have f4:h'.objs.size≠447:=λe=>by rw[e,zM]at n2;exact bZ n2
 have cf:=kP cG;let ab:St:=((σ.set 447 (.obj (gH (#[]++#[rawInt pos.line,rawInt pos.col,.ref c'])))).set c' (.obj oc)).set h'.objs.size (.obj fo)
 have a1:∀b,s.heap.get? b≠none->b≠447->ab b=σ b:=λb hb xi=>by
  have q1:b≠c':=λe=>hb (e▸n1);have q2:b≠h'.objs.size:=λe=>hb (e▸n2);show(if b=h'.objs.size then _ else if b=c' then _ else if b=447 then _ else _)=_
  (exact aaE (ar q2)<|aaE (ar q1)<|aaE (ar xi) rfl)
 have a2:∀b,σ b≠none->b≠447->ab b=σ b:=λb hb xi=>a1 b (λe=>by
  cases q:σ b with
  |none=>exact hb q
  |some t=>obtain⟨o,ho⟩:=(S.trk b t q).2.at;rw[e]at ho;exact be ho) xi
 have a3:ab 447=some (.obj (gH (#[]++#[rawInt pos.line,rawInt pos.col,.ref c']))):=by
  show(if 447=h'.objs.size then _ else if 447=c' then _ else if 447=447 then _ else _)=_
  (exact aaE (ar (jf f4))<|aaE (ar (jf c4))<|aaE (aA rfl) rfl)
 have G:Go X aL g σ s g ab {s with heap:=h'.push fo,toks:=tk}:=by
  refine Go.extTrk S ht (λb o hb e=>bJ _ (hx b o hb e)) a1 (λb u e hb=>?_) ?_
  ·have e:(if b=h'.objs.size then some (Trk.obj fo)else if b=c' then some (.obj oc)else if b=447 then some (.obj (gH (#[]++#[rawInt pos.line,rawInt pos.col,.ref c'])))else σ b)=some u:=e
   split at e
   ·rename_i q;(refine aaE (aq (bq e)) ?_);exact aaE q<|cB _ Z4
   ·split at e
    ·rename_i q;obtain rfl:=bq e;exact aaE q<|bJ _ xd
    ·split at e
     ·rename_i q;(refine aaE (aq (bq e)) ?_);exact aaE q<|bJ _ Z2
     ·refine az λkk=>?_
      rename_i q;rcases hb with q'|q'
      ·exact kk<|absurd q' q
      ·obtain⟨o,ho⟩:=(S.trk b u e).2.at;rw[q']at ho;exact be ho
  ·show(if 447=h'.objs.size then _ else if 447=c' then _ else if 447=447 then _ else _)≠none
   (refine aaE (ar (jf f4))<|aaE (ar (jf c4))<|aaE (aA rfl) ?_);simp
 have K:NmF ab h'.objs.size d N:=by
  refine⟨⟨fo,c,co,c',oc,_,_,_,_,vs,t,?_,Z5,(a2 c (by refine aaE bf ?_;simp) ?_).trans bf,hco,rfl,?_,oB,Z3⟩,(a2 d (by refine aaE hd ?_;simp) ?_).trans hd,qm⟩
  ·show(if h'.objs.size=h'.objs.size then _ else _)=_
   exact aaE (aA rfl) rfl
  ·rintro rfl;rw[bf]at ht;(first|exact be ht|exact bZ ht|exact gy ht|exact gN ht|(clear bf;obtain rfl:=bq ht)|clear bf;subst ht|clear bf;cases ht);cases hco
  ·show(if c'=h'.objs.size then _ else if c'=c' then _ else _)=_
   (exact aaE (ar cf)<|aaE (aA rfl) rfl)
  ·rintro rfl;rw[hd]at ht;cases ht
 refine GL (V:=.ref h'.objs.size) G.sat (F.go G) (by exact rfl) hk hP λs' G' F'=>?_;exact⟨g,.next,_,ab,G.any.trans G',F',rfl,h _ _ K a2 ⟨_,a3⟩⟩
end
set_option backward.match.sparseCases true
noncomputable abbrev gJ(pm:Value):FuncData:=ip (bD 55) "law" (.ref 449) pm .none
noncomputable def vO:List Stmt:=(fz (bD 55)).drop 2
structure Base8(X:Cx):Prop extends Base7 X where
 f_law:∃pm,FnAt X 450 (gJ pm) (fz (bD 55))
 cd:∀h:Heap,X.B.In h->CodeHd h 449 447
 t447:∀p∈X.tabs,p.2≠447
theorem QC(hX:Base8 X)(S:Sat X g σ s)(rv:Rep g V v)(ht:σ 447=some (.obj (gH #[])))
  (h:∀pm A L f d ab,Room A 240->A.frames=some [callEnvC (gJ pm) L 450]->NmF ab f d []->(∀b,σ b≠none->b≠447->ab b=σ b)->(∃ps,ab 447=some (.obj (gH ps)))->
   wq X A (bg L (callEnvC (gJ pm) L 450)) (callEnvC (gJ pm) L 450) ((Mp.nil.upd "script" V).upd "name_of" (.ref f)) vO ab (jR Q)):
  gu (model P0 X.w) callerA (.call (.ref 450) ⟨[v],[]⟩) (λr s'=>∃v,r=.ok (.ret v)/\Post X aL g σ s Q v s') s:=by
 refine az λkk=>?_;obtain⟨pm,F⟩:=hX.f_law;refine ax (F.obj S) λo ho hd=>?_;refine kk ?_;have hk:(gJ pm).scope.kind=.function:=by rfl
 refine Fc (by decide) ho hd rfl rfl F.body (F.cdRec S) (dn (a:=[(("script":Str),v)]) rfl ?_);refine aaE (show(gJ pm).closure=[]from rfl)<|r5 hk (λy hy=>?_) λenv he s' x=>?_
 ·simp only[lM]at hy;exact aaE hy<|.inl (by rfl)
 ·have fX:env=callEnvC (gJ pm) s.heap.objs.size 450:=he
  subst fX;have Fr:=qD (a:=450) (xs:=["script"]) (l:=[V]) (vs:=[v]) S (.cons rv .nil) hk rfl x;have G:=qM S x (P:=aL);generalize hL:s.heap.objs.size=L at *;have hR:Room (callerA.deeper (callEnvC (gJ pm) L 450)) 240:=Room.deeper (k:=240) ⟨rfl,by decide,by decide⟩;refine⟨(F.noLimit S).keeps x.toInCall.keep,oU ?_⟩;show bS _ (callerA.deeper _) (do point;match ←(execs (fz (bD 55)) (callEnvC (gJ pm) L 450)).onRaise (leaving (callEnvC (gJ pm) L 450))with|.ret v=>ret v|_=>ret .none) _ _ _;have bH:(callerA.deeper (callEnvC (gJ pm) L 450)).frames=some [callEnvC (gJ pm) L 450]:=Fb rfl;have hl:(callEnvC (gJ pm) L 450).cells.lookup ("names":Str)=some (L+5):=by rfl
  have hf:Free X g σ (L+5):=dG S (ae (aK hL) (bB _ _));refine dy (xW (ie (FP (jb (Q:=PostX X (bg L (callEnvC (gJ pm) L 450)) (callEnvC (gJ pm) L 450) g σ s' (jR Q)) ?_ (λf aU zz=>zz.rec λg' Fl m' ab G' _ rf q=>?_) i2))))
  ·refine az λkk=>?_
   obtain⟨p1,p2,p3,hb⟩:∃p1 p2 p3,fz (bD 55)=.Assign [.Name "names" p1] (.Dict [] [] p2) p3::iP::vO:=(Io _ _ _ rfl);refine kk ?_
   (refine aaE hb<|aaE (execs_cons ..) ?_)
   refine dy (aB (QB (P:=bg L (callEnvC (gJ pm) L 450)) (Q:=λF m₁ ay=>F=.next/\m₁=Mp.nil.upd "script" V/\∃d co,σ d=none/\d≠1/\L+5≠d/\co.data=.cell (some (.ref d))/\ay=(σ.set d (.dict [])).set (L+5) (.obj co)) hX.toBase rfl rfl hl ⟨bB L 5,.inr ⟨_,hl⟩⟩
    (λd co h1 h2 h3 h4=>⟨rfl,rfl,d,co,h1,h2,h3,h4,rfl⟩) rfl g s' G.sat Fr hf) (λf s₁ zz=>zz.rec λaJ Fl m₁ ay ai fh aX aR=>Oh aR λe1 e2 d co h1 h2 h3 h4 e3=>?_) i2)
   subst e1 e2 e3;subst aX
   have n1:∀b,σ b≠none->((σ.set d (.dict [])).set (L+5) (.obj co)) b=σ b:=λb hb=>by
    have q1:b≠L+5:=λe=>hb (by exact aaE e<|hf.2.1);have q2:b≠d:=λe=>hb (by exact aaE e<|h1);unfold St.set
    (exact aaE (ar q1)<|aaE (ar q2) rfl)
   have K:Ex X (callerA.deeper (callEnvC (gJ pm) L 450)) aC (bg L (callEnvC (gJ pm) L 450)) (callEnvC (gJ pm) L 450) (Mp.nil.upd "script" V) iP ((σ.set d (.dict [])).set (L+5) (.obj co)) λF m₁ ay=>F=.next/\∃f,m₁=(Mp.nil.upd "script" V).upd "name_of" (.ref f)/\NmF ay f d []/\(∀b,σ b≠none->b≠447->ay b=σ b)/\(∃ps,ay 447=some (.obj (gH ps))):=by
    refine RZ (c:=L+5) (d:=d) (co:=co) (N:=[]) hX.toBase hX.cd ?_ ?_ rfl rfl ?_ ?_ h4 ?_ h2 rfl ?_ ?_
    ·refine aaE (n1 _ (by rw[ht];simp)) ?_;exact ht
    ·kernel_rfl
    ·kernel_rfl
    ·unfold St.set;exact aaE (aA rfl) rfl
    ·unfold St.set;(exact aaE (ar (jf h3))<|aaE (aA rfl) rfl)
    ·exact⟨bC _,.inl rfl⟩
    ·exact λf ab K e e3=>(vy rfl f rfl K (λb hb xi=>(e b (by exact aaE (n1 b hb)<|hb) xi).trans (n1 b hb)) e3)
   refine jb (iC (rest:=vO) (ExJ.of (K.mono λF m₁ ay ba=>sV ba λe f em k1 k2 k3=>?_)) aJ s₁ ai.sat fh) (λf s₂ bA=>bA.after ai) i2;clear ba;subst e em;exact h pm _ L f d ay hR bH k1 k2 k3
  ·have dX:Go X aL g σ s g' ab aU:=Go.weaken (Go.trans (G.any) G') (pj (aK hL))
   cases Fl with
   |next=>subst rf;exact fH (aE _ rfl ⟨g',.none,ab,dX,by exact rfl,q⟩)
   |ret V=>refine ax rf λv bh rv=>?_;clear zz rf;subst bh;exact fH (aE v rfl ⟨g',V,ab,dX,rv,q⟩)
   |brk=>exact q.elim
   |cont=>exact q.elim
set_option backward.match.sparseCases false
theorem BV{α:Type}[BEq α][LawfulBEq α]:∀{l l':List α},l.Nodup->(∀x∈l,x∈l')->l.length<=l'.length
 |[],_,_,_=>mI _
 |a::l,l',hn,h=>by
  have hn:=sf.mp hn;have ha:=h a cV;have:=BV (l:=l) (l':=l'.erase a) hn.2 λx hx=>(List.mem_erase_of_ne λe=>hn.1 (by exact aaE (aq e)<|hx)).mpr (h x (cj _ hx));rw[List.length_erase_of_mem ha]at this;exact ae (fF this) (aK (Nat.sub_add_cancel (List.length_pos_of_mem ha)))
theorem yj:∀{t:T} {n:Nat} {p:By} {o:Option By},WF n t->p.length=n->dq N D t p=some o->o=look t p
 |.leaf v,n,p,o,hw,hp,h=>by
  dsimp only[WF]at hw;dsimp only[dq]at h;have:=oJ.mp (hp.trans hw.1);clear hp;subst this
  split at h
  ·obtain rfl:=bq h;rfl
  ·cases h
 |.kv b t,n,p,o,hw,hp,h=>by
  dsimp only[WF]at hw;refine eE hw λhb _ _ k hk hw=>?_;have dk:=xq.mpr hb;have ud:p≠[]:=λe=>by rw[e]at hp;simp at hp;exact Cs hp hk dk
  dsimp only[dq]at h
  split at h
  ·try rw[ar ud]at h
   refine aaE (ij ..) ?_
   split at h
   ·rename_i q;exact aaE (aA q)<|yj hw (by exact aaE dE<|Dh hp hk) h
   ·rename_i q;refine aaE (ar q) ?_;obtain rfl:=bq h;rfl
  ·cases h
 |.br l r,n,p,o,hw,hp,h=>by
  dsimp only[WF]at hw;refine dp hw λk hk hl hr=>?_
  match p,hp with
  |[],hp=>simp at hp;exact z1 hp hk
  |c::p,hp=>
  rw[cW]at hp;dsimp only[dq]at h
  split at h
  ·try rw[ar (by simp)]at h
   refine aaE (g6 ..) ?_;simp only[nN,List.take_zero,nT,and_true,List.drop_succ_cons,List.drop_zero]at h
   split at h
   ·rename_i q;exact aaE (aA q)<|yj hl (nB hk hp) h
   ·rename_i q;exact aaE (ar q)<|yj hr (nB hk hp) h
  ·exact be h
theorem yS:∀{t:T} {n:Nat} {h p:By},WF n t->p.length=n->K N D t h p->dq N D t p=some (look t p)
 |.leaf v,n,h,p,hw,hp,k=>by
  dsimp only[WF]at hw;have:=oJ.mp (hp.trans hw.1);subst this;have hn:=K.named k |>.nm;dsimp only[K]at k;dsimp only[dq];(refine aaE hn<|aaE k.2 ?_);rfl
 |.kv b t,n,h,p,hw,hp,k=>by
  have hn:=K.named k |>.nm;dsimp only[WF]at hw;obtain⟨hb,_,_,k',hk,hw⟩:=hw;dsimp only[K]at k;obtain⟨h',_,_,hd,hr⟩:=k;have dk:=xq.mpr hb;have ud:p≠[]:=λe=>by rw[e]at hp;simp at hp;exact Cs hp hk dk
  dsimp only[dq];(refine aaE hn<|aaE hd ?_);simp only[AN,if_true,ar ud];refine aaE (ij ..) ?_
  split
  ·rename_i q;exact yS hw (by exact aaE dE<|Dh hp hk) (hr q)
  ·rfl
 |.br l r,n,h,p,hw,hp,k=>by
  have hn:=K.named k |>.nm;dsimp only[WF]at hw;obtain⟨k',hk,hl,hr⟩:=hw;dsimp only[K]at k;obtain⟨h1,h2,_,_,_,hd,hc⟩:=k
  match p,hp with
  |[],hp=>simp at hp;exact z1 hp hk
  |c::p,hp=>
  rw[cW]at hp;dsimp only[dq];(refine aaE hn<|aaE hd ?_);simp only[AN,if_true,reduceCtorEq,j7];refine aaE (g6 ..) ?_;simp only[nN,List.take_zero,nT,and_true,List.drop_succ_cons,List.drop_zero]at hc ⊢
  split
  ·rename_i q;rw[aA q]at hc;exact yS hl (nB hk hp) hc
  ·rename_i q;rw[ar q]at hc;exact yS hr (nB hk hp) hc
theorem yl:∀{t:T} {h p:By} {v:By},Named N t h->dq N D t p=some (some v)->∃hl,N.lookup (fi v)=some hl/\(D.lookup hl).isSome=true
 |.leaf v,h,p,w,hn,hg=>by
  have hh:=hn.nm;dsimp only[dq]at hg
  split at hg
  ·rename_i q
   split at hg
   ·cases hg;exact⟨h,hn,by rw[←hh];exact q⟩
   ·cases hg
  ·cases hg
 |.kv b t,h,p,w,hn,hg=>by
  refine ax hn λh' hn _=>?_;dsimp only[dq]at hg
  split at hg
  ·split at hg
   ·cases hg
   ·split at hg
    ·exact yl hn hg
    ·cases hg
  ·cases hg
 |.br l r,h,p,w,hn,hg=>by
  refine cP hn λh1 h2 n1 n2 _=>?_;dsimp only[dq]at hg
  split at hg
  ·split at hg
   ·cases hg
   ·split at hg
    ·exact yl n1 hg
    ·exact yl n2 hg
  ·exact be hg
theorem o7:tx N t∈nodes N t:=by cases t<;>exact cV
theorem yk:∀{t:T} {h p:By},Named N t h->dq N D t p=none->∃x hx,x∈nodes N t/\N.lookup x=some hx/\D.lookup hx=none
 |t,h,p,hn,hg=>by
  have fin:¬(D.lookup (nm N t)).isSome=true->∃x hx,x∈nodes N t/\N.lookup x=some hx/\D.lookup hx=none:=λq=>
   (cy (tx N t) h o7 hn.ltx (by rw[hn.nm]at q;exact Option.not_isSome_iff_eq_none.mp q))
  cases t with
  |leaf v=>
   dsimp only[dq]at hg
   split at hg
   ·exact bZ hg
   ·rename_i q;exact fin q
  |kv b t=>
   dsimp only[dq]at hg
   split at hg
   ·split at hg
    ·exact bZ hg
    ·split at hg
     ·refine ax hn λh' hn _=>?_
      refine iF (yk hn hg) λx hx h1 h2=>?_;exact(ey x hx (cj _ h1) h2)
     ·exact bZ hg
   ·rename_i q;exact fin q
  |br l r=>
   dsimp only[dq]at hg
   split at hg
   ·refine cP hn λh1 h2 n1 n2 _=>?_
    split at hg
    ·exact bZ hg
    ·split at hg
     ·refine iF (yk n1 hg) λx hx h1 h2=>?_
      exact(ey x hx (cj _ (r7 _ h1)) h2)
     ·refine iF (yk n2 hg) λx hx h1 h2=>?_
      exact(ey x hx (cj _ (oK _ h1)) h2)
   ·rename_i q;exact fin q
def DW(N W:BD)(xs:List By):Prop:=∀x∈xs,∀h,N.lookup x=some h->W.lookup h=some x
theorem vH:∀{t:T} {h:By} {L:List By},Full N D t h L->∀x∈nodes N t,∃h,N.lookup x=some h/\D.lookup h=some x
 |.leaf v,h,L,f,x,hx=>by
  have:x=fi v:=by simpa [nodes,tx]using hx
  clear hx;exact aaE this<|(aE h f.1 f.2.1)
 |.kv b t,h,L,f,x,hx=>by
  have hn:=f.named;have ht:=hn.ltx;refine j8 f λh' L' f e1 e2 y=>?_;rcases dm.mp hx with e|hx
  ·first|(refine aaE e ?_;done)|(refine aq (e)▸?_)|rw[e]
   have:tx N (.kv b t)=bX b h':=by show bX b (nm N t)=_;exact aaE f.named.nm rfl
   exact aaE this<|(aE h e1 e2)
  ·exact vH f x hx
 |.br l r,h,L,f,x,hx=>by
  refine sr f λh1 h2 y y f1 f2 e1 e2 y=>?_;rcases dm.mp hx with e|hx
  ·first|(refine aaE e ?_;done)|(refine aq (e)▸?_)|rw[e]
   have:tx N (.br l r)=b9 h1 h2:=by show b9 (nm N l) (nm N r)=_;(exact aaE f1.named.nm<|aaE f2.named.nm rfl)
   exact aaE this<|(aE h e1 e2)
  ·rcases jw.mp hx with hx|hx
   ·exact vH f1 x hx
   ·exact vH f2 x hx
theorem te:∀{t:T} {h p:By},Named N t h->DW N W (nodes N t)->K N W t h p
 |.leaf v,h,p,hn,hw=>by
  have:=hw _ o7 h hn.ltx;exact⟨hn,this⟩
 |.kv b t,h,p,hn,hw=>by
  have:=hw _ o7 h hn.ltx;refine ax hn λh' n1 e=>?_;refine(jG h' n1 e ?_ (λy=>te n1 λx hx=>hw x (cj _ hx)));refine aaE this ?_;show some (bX b (nm N t))=_;exact aaE n1.nm rfl
 |.br l r,h,p,hn,hw=>by
  have:=hw _ o7 h hn.ltx;refine cP hn λh1 h2 n1 n2 e=>?_;refine(qP h1 h2 n1 n2 e ?_ ?_)
  ·refine aaE this ?_;show some (b9 (nm N l) (nm N r))=_;(exact aaE n1.nm<|aaE n2.nm rfl)
  ·split
   ·exact te n1 λx hx=>hw x (cj _ (r7 _ hx))
   ·exact te n2 λx hx=>hw x (cj _ (oK _ hx))
theorem y5:∀{t:T} {n:Nat} {h p q:By},WF n t->Named N t h->p.length=n->q.length<=n->p.take q.length=q->DW N W (wit N t q)->K N W t h p
 |.leaf v,n,h,p,q,hw,hn,hp,hq,nM,hi=>by
  dsimp only[WF]at hw;have:=oJ.mp (Nat.le_zero.mp (ae hq (aK hw.1)));clear hq nM;subst this;exact te hn hi
 |.kv b t,n,h,p,q,hw,hn,hp,hq,nM,hi=>by
  have hl:=hn.ltx;have eO:=hn;dsimp only[WF]at hw;obtain⟨hb,_,_,k,hk,hw⟩:=hw;dsimp only[Named]at hn;obtain⟨h',n1,e⟩:=hn;have uq:tx N (.kv b t)=bX b h':=by show bX b (nm N t)=_;exact aaE n1.nm rfl
  dsimp only[wit]at hi;have jq:=λx hx=>hi x (oK _ hx);dsimp only[K]
  split at jq
  ·rename_i c
   exact(jG h' n1 e (by have:=jq _ cV h hl;rw[uq]at this;exact this) (λ_=>te n1 λx hx=>jq x (cj _ hx)))
  ·rename_i c1
   split at jq
   ·rename_i c
    refine(jG h' n1 e (by have:=jq _ cV h hl;rw[uq]at this;exact this) (λdC=>y5 hw n1 (q:=q.drop b.length) (by exact aaE dE<|Dh hp hk) (by exact aaE dE<|C5 hq hk) (mP _ nM) λx hx=>jq x (cj _ hx)))
   ·rename_i c2
    refine(jG h' n1 e (by have:=jq _ cV h hl;rw[uq]at this;exact this) (λdC=>?_));exfalso
    by_cases cG:q.length<b.length
    ·refine c1 ⟨cG,?_⟩
     (refine aaE (aq dC)<|aaE oR<|aaE (gS (dS cG)) ?_);exact nM
    ·refine c2 ?_
     (refine aaE (aq nM)<|aaE oR<|aaE (gS (JJ cG)) ?_);exact dC
 |.br l r,n,h,p,q,hw,hn,hp,hq,nM,hi=>by
  have hl:=hn.ltx;have qf:=hn;dsimp only[WF]at hw;obtain⟨k,hk,iI,lE⟩:=hw;dsimp only[Named]at hn;obtain⟨h1,h2,n1,n2,e⟩:=hn
  by_cases MC:q=[]
  ·clear hq nM;subst MC
   refine te qf λx hx=>hi x ?_;dsimp only[wit];exact aaE (aA rfl)<|r7 _ hx
  have uq:tx N (.br l r)=b9 h1 h2:=by show b9 (nm N l) (nm N r)=_;(exact aaE n1.nm<|aaE n2.nm rfl)
  dsimp only[wit]at hi;have jq:=λx hx=>hi x (oK _ hx)
  have Mq:p.take 1=q.take 1:=by
   have Ab:=xq.mpr MC
   (exact aaE (aq nM)<|aaE oR<|aaE (gS Ab) rfl)
  dsimp only[K];refine aaE Mq ?_
  split at jq
  ·rename_i c
   refine(lX h1 h2 n1 n2 e ?_);exact aaE (aA c)<|⟨by have:=jq _ cV h hl;rw[uq]at this;exact this,y5 iI n1 (q:=q.drop 1) (by exact aaE dE<|H5 hp hk) (by exact aaE dE<|tF hq hk) (mP _ nM) λx hx=>jq x (cj _ hx)⟩
  ·rename_i c
   refine(lX h1 h2 n1 n2 e ?_);exact aaE (ar c)<|⟨by have:=jq _ cV h hl;rw[uq]at this;exact this,y5 lE n2 (q:=q.drop 1) (by exact aaE dE<|H5 hp hk) (by exact aaE dE<|tF hq hk) (mP _ nM) λx hx=>jq x (cj _ hx)⟩
theorem ym:∀{t:T} {q:By},∀x∈wit N t q,x∈nodes N t
 |.leaf v,q,x,hx=>by dsimp only[wit]at hx;split at hx;exact hx;cases hx
 |.kv b t,q,x,hx=>by
  rcases jw.mp hx with hx|hx
  ·split at hx
   ·exact hx
   ·cases hx
  ·split at hx
   ·exact hx
   ·split at hx
    ·rcases dm.mp hx with e|hx
     ·exact aaE e<|o7
     ·exact cj _ (ym x hx)
    ·exact aaE (lM.mp hx)<|o7
 |.br l r,q,x,hx=>by
  rcases jw.mp hx with hx|hx
  ·split at hx
   ·exact hx
   ·cases hx
  ·split at hx
   ·rcases dm.mp hx with e|hx
    ·exact aaE e<|o7
    ·exact cj _ (r7 _ (ym x hx))
   ·rcases dm.mp hx with e|hx
    ·exact aaE e<|o7
    ·exact cj _ (oK _ (ym x hx))
noncomputable def eF:T->List By
 |.leaf _=>[[]]
 |.kv b t=>(eF t).map (b++·)
 |.br l r=>(eF l).map (0::·)++(eF r).map (1::·)
theorem yn:∀{t:T},1<=(eF t).length
 |.leaf _=>bC _
 |.kv b t=>by dsimp only[eF];exact aaE (dF ..)<|yn
 |.br l r=>by dsimp only[eF];(refine aaE cw<|aaE (dF ..) ?_);have:=yn (t:=l);lia -abstractProof
theorem yo{α β:Type}{f:α->β}(hf:∀x y,f x=f y->x=y):∀{l:List α},l.Nodup->(l.map f).Nodup
 |[],_=>List.nodup_nil
 |a::l,h=>by
  have h:=sf.mp h
  (refine aaE eB<|aaE (propext sf) ?_)
  refine⟨λq=>?_,yo hf h.2⟩;refine ax (cb.mp q) λb hb e=>?_;exact h.1 (hf _ _ e▸hb)
theorem yz:∀{t:T} {n:Nat},WF n t->(eF t).Nodup/\∀p∈eF t,p.length=n/\ck p/\look t p≠none
 |.leaf v,n,h=>by
  refine⟨by simp[eF],λp hp=>?_⟩;have:p=[]:=by simpa [eF]using hp
  clear hp;subst this;exact(cA h.1.symm (λc hc=>(by cases hc)) (by simp[look]))
 |.kv b t,n,h=>by
  refine eE h λhb mA z k hk hw=>?_;obtain⟨h1,h2⟩:=yz hw;refine⟨yo (λx y e=>List.append_cancel_left e) h1,λp hp=>?_⟩;refine az λkk=>?_;refine ax (cb.mp hp) λq hq aR=>?_;clear hp;subst aR;refine ei (h2 q hq) λa1 a2 a3=>?_;exact kk<|(cA (by exact aaE cw<|Jq hk a1) (mO mA a2) (by exact aaE uW<|a3))
 |.br l r,n,h=>by
  refine dp h λk hk hl hr=>?_;obtain⟨h1,h2⟩:=yz hl;obtain⟨g1,g2⟩:=yz hr;refine⟨?_,λp hp=>?_⟩
  ·dsimp only[eF]
   refine aaE (propext AW)<|(cA (yo (λx y e=>(iB e).2) h1) (yo (λx y e=>(iB e).2) g1) (λa ha b hb e=>?_));refine az λkk=>?_;refine ax (cb.mp ha) λq z ba=>?_;clear ha;subst ba;refine ax (cb.mp hb) λq' z bh=>?_;clear hb;subst bh;have:=(iB e).1;exact kk<|absurd this (by decide)
  ·refine az λkk=>?_
   rcases jw.mp hp with hp|hp
   ·refine ax (cb.mp hp) λq hq bN=>?_;clear hp;clear hp;subst bN
    refine ei (h2 q hq) λa1 a2 a3=>?_;exact kk<|(cA (by exact aaE cW<|pU hk a1) (pa (.inl rfl) a2) (by(refine aaE (g6 ..)<|aaE (aA rfl) ?_);exact a3))
   ·refine ax (cb.mp hp) λq hq cI=>?_;clear hp;clear hp;subst cI
    refine ei (g2 q hq) λa1 a2 a3=>?_;exact kk<|(cA (by exact aaE cW<|pU hk a1) (pa (.inr rfl) a2) (by(refine aaE (g6 ..)<|aaE (ar (by decide)) ?_);exact a3))
theorem yy:∀{t:T} {n:Nat},WF n t->(nodes N t).length<=(n+1)*(eF t).length
 |.leaf v,n,h=>by exact ae (fF (mI _)) (aK (Nat.mul_one _).symm)
 |.kv b t,n,h=>by
  refine eE h λhb x x k hk hw=>?_;have a:=yy (N:=N) hw;have hr:=yn (t:=t);have dk:=xq.mpr hb;have e:(eF (.kv b t)).length=(eF t).length:=by exact aaE (dF ..) rfl
  (refine aaE e<|aaE hk ?_)
  have:(k+1)*(eF t).length+(eF t).length<=(b.length+k+1)*(eF t).length:=by
   exact aaE (aq (xO ..))<|AI _ (fF (ae (aK (eD k 1)) (dD dk k)))
  exact ae (gC a hr) this
 |.br l r,n,h=>by
  refine dp h λk hk hl hr=>?_;have a:=yy (N:=N) hl;have b:=yy (N:=N) hr;have p:=yn (t:=l);show(nodes N l++nodes N r).length+1<=(n+1)*(eF (.br l r)).length;have e:(eF (.br l r)).length=(eF l).length+(eF r).length:=by show((eF l).map _++(eF r).map _).length=_;(exact aaE cw<|aaE (dF ..)<|aaE (dF ..) rfl)
  (refine aaE e<|aaE hk<|aaE cw ?_)
  have:(k+1+1)*((eF l).length+(eF r).length)=(k+1)*(eF l).length+(k+1)*(eF r).length+((eF l).length+(eF r).length):=by
   (exact aaE (xO ..)<|aaE (Nat.mul_add ..) rfl)
  exact ae (gC (gC a b) (ae p (bB _ _))) (aK this.symm)
theorem yT:∀{t:T} {n:Nat} {q:By},WF n t->(wit N t q).length<=(n+1)*(nodes N t).length
 |.leaf v,n,q,h=>by dsimp only[wit];split;exact ae (aK rfl) (EV _ (uQ n));exact mI _
 |.kv b t,n,q,h=>by
  refine eE h λhb z z k hk hw=>?_;have ih:=yT (N:=N) (q:=q.drop b.length) hw;have dk:=xq.mpr hb;have hM:(nodes N (.kv b t)).length=(nodes N t).length+1:=rfl
  have h2:(k+1)*(nodes N t).length+(nodes N t).length<=(n+1)*(nodes N t).length:=by
   exact aaE (aq (xO ..))<|AI _ (fF (ae (ae (aK (eD k 1)) (dD dk k)) (aK hk.symm)))
  have h3:(n+1)*(nodes N (.kv b t)).length=(n+1)*(nodes N t).length+(n+1):=by(exact aaE hM<|aaE (Nat.mul_succ ..) rfl)
  have h4:(nodes N t).length<=(k+1)*(nodes N t).length:=EV _ (uQ k);dsimp only[wit];refine aaE cw ?_;have h1:(if q=[]then nodes N (.kv b t)else []).length<=(nodes N t).length+1:=by split;exact aK hM;exact mI _
  have:∀l:List By,l.length<=(k+1)*(nodes N t).length+1->(if q=[]then nodes N (.kv b t)else []).length+l.length<=(n+1)*(nodes N (.kv b t)).length:=λl hl=>by exact TB hk dk h2 h3 h1 hl
  refine this _ ?_
  split
  ·exact aaE cW<|C3 h4
  ·split
   ·exact aaE cW<|C3 ih
   ·(refine aaE cW<|aaE oP ?_);exact Ur
 |.br l r,n,q,h=>by
  refine dp h λk hk hl hr=>?_;have a:=yT (N:=N) (q:=q.drop 1) hl;have b:=yT (N:=N) (q:=q.drop 1) hr;have hM:(nodes N (.br l r)).length=(nodes N l).length+(nodes N r).length+1:=by show(nodes N l++nodes N r).length+1=_;exact aaE cw rfl
  generalize hml:(nodes N l).length=x at *;generalize hmr:(nodes N r).length=y at *
  have h3:(n+1)*(x+y+1)=(k+1)*x+(k+1)*y+(x+y)+(k+2):=by
   (exact aaE hk<|aaE (Nat.mul_succ ..)<|aaE (xO ..)<|aaE (Nat.mul_add ..) rfl)
  have h1:(if q=[]then nodes N (.br l r)else []).length<=x+y+1:=by split;exact aK hM;exact mI _
  dsimp only[wit];generalize (if q=[]then nodes N (.br l r)else [])=L0 at h1 ⊢
  (refine aaE cw<|aaE hM<|aaE h3 ?_)
  split
  ·exact aaE cW<|TV a h1
  ·exact aaE cW<|U0 b h1
theorem Rf(h:HT H t):(eF t).length<=H.length:=by
 obtain⟨h1,h2⟩:=yz h.wf
 have:=BV (l':=(H.map (·.1)).map bu) h1 λp hp=>by
  refine ei (h2 p hp) λa1 a2 a3=>?_;refine ax (Hd a1 a2) λk hk c5=>?_;clear hp a1 a2;subst c5;refine cb.mpr (aE k ?_ rfl);rw[h.look k hk]at a3
  cases q:H.lookup k with
  |none=>exact absurd q a3
  |some v=>exact cb.mpr (aE (k,v) (jD q) rfl)
 rw[dF,dF]at this;exact this
theorem Fs(h:HT H t):(nodes N t).length<=17*H.length:=ae (yy h.wf) (ia _ (Rf h))
theorem FT(h:HT H t):(wit N t q).length<=289*H.length:=by
 have:=ae (yT (N:=N) (q:=q) h.wf) (ia (16+1) (Fs (N:=N) h));exact ae this (aK (Nat.mul_assoc 17 17 _).symm)
structure WInv(N D:BD)(done:List By)(W:BD):Prop where
 nd:(W.map (·.1)).Nodup
 ok:nE N W
 sub:BD.Sub W D
 all:DW N W done
 sz:W.length<=done.length
theorem WInv.nil:WInv N D [] []:=⟨List.nodup_nil,λh x e=>(by exact be e),λk v e=>(by exact be e),λx hx=>(by cases hx),bC _⟩
theorem WInv.step(I:WInv N D done W)(hN:NmOk N)(hx:N.lookup x=some h)(hd:D.lookup h=some x):WInv N D (done++[x]) (W.put h x):=by
 have pl:∀k,(W.put h x).lookup k=if k=h then some x else W.lookup k:=λk=>by
  split
  ·rename_i e;exact aaE e<|BD.put_get
  ·rename_i e;exact BD.put_other e
 refine⟨?_,λk y e=>?_,λk y e=>?_,λy hy k hk=>?_,?_⟩
 ·refine aaE BS ?_;split
  ·exact I.nd
  ·rename_i q
   exact aaE (propext AW)<|⟨I.nd,by simp,λa ha b hb e=>by rw[lM.mp hb]at e;exact q (e▸ha)⟩
 ·rw[pl]at e;split at e
  ·rename_i q;obtain rfl:=bq e;exact aaE q<|hx
  ·exact I.ok k y e
 ·rw[pl]at e;split at e
  ·rename_i q;obtain rfl:=bq e;exact aaE q<|hd
  ·exact I.sub k y e
 ·refine aaE (pl ..) ?_
  rcases jw.mp hy with hy|hy
  ·split
   ·rename_i q;rw[q]at hk;exact bF some (hN.inj _ _ _ hx hk)
   ·exact I.all y hy k hk
  ·rw[lM.mp hy]at hk ⊢
   rw[hx]at hk;obtain rfl:=bq hk;exact aaE (aA rfl) rfl
 ·have q1:=sA (x:=h) (v:=x) W
  (refine aaE cw<|aaE E6 ?_)
  exact ae q1 (fF I.sz)
theorem R2(hn:(W.map (·.1)).Nodup)(s:BD.Sub W D)(h1:W.lookup k=none)(h2:D.lookup k≠none):W.length<D.length:=by
 have:=BV (l:=k::W.map (·.1)) (l':=D.map (·.1)) (sf.mpr ⟨uz h1,hn⟩) λx hx=>by
  rcases dm.mp hx with e|hx
  ·refine aaE e ?_
   cases q:D.lookup k with
   |none=>exact absurd q h2
   |some v=>exact cb.mpr (aE (k,v) (jD q) rfl)
  ·obtain⟨v,hv⟩:=oO hx
   exact cb.mpr (aE (x,v) (jD (s _ _ hv)) rfl)
 rw[cW,dF,dF]at this;exact this
noncomputable abbrev LE(pm:Value)(L:Addr):Env:=callEnvC (gJ pm) L 450
noncomputable def eA(i:Nat):Stmt:=(vO[i]?).getD (.Pass default)
section
variable {X:Cx} {A:Around} {P:Pv} {env:Env} {Dep:St->St->Prop} {tgt:Expr} {body:List Stmt} {Q:AFl->Mp->St->Prop}
theorem vI(n:Nat)(I:List AV->Mp->St->Prop):∀(l done:List AV) (m:Mp) (σ:St),I done m σ->done.length+l.length<=n->
  (∀V∈l,∀done m σ,done.length<n->I done m σ->As X A aC P env m tgt V σ λm₁ ay=>Exs X A aC P env m₁ body ay λF m₂ aS=>F=.next/\Dep σ aS/\I (done++[V]) m₂ aS)->(∀m σ,I (done++l) m σ->Q .next m σ)->
  pH X A Dep P env tgt body Q l m σ
 |[],done,m,σ,hI,_,_,hQ=>by exact hQ m σ (by exact aaE (jX ..)<|hI)
 |V::l,done,m,σ,hI,hn,h,hQ=>by
  rw[cW]at hn;refine As.mono (h V cV done m σ (bT (Nat.lt_succ_of_le (bB _ _)) hn) hI) λm₁ ay aF=>Exs.mono aF λF m₂ aS aR=>ei aR λe hd bA=>?_;clear aR;refine aaE e ?_;exact⟨hd,vI n I l (done++[V]) m₂ aS bA (by(refine aaE cw<|aaE E6 ?_);exact ae (aK (fq _ 1 _)) hn) (λV hV=>h V (cj _ hV)) λm σ hI=>hQ m σ (by rw[qw]at hI;exact hI)⟩
end
noncomputable def Vv:List Int:=[1,10,22,15,0,1,10]
section
variable {X:Cx} {A:Around} {pm:Value} {L:Addr} {m:Mp} {σ:St} (hX:Base8 X)
include hX
theorem R7:Ex X A aC (bg L (LE pm L)) (LE pm L) m (eA 0) σ λF m' ab=>F=.next/\ab=σ/\m'=m.upd "rest" (.lst (Vv.map .int)):=
 bE (mS<|ak<|aY<|ak<|aY<|ak<|aY<|ak<|aY<|ak<|aY<|ak<|aY<|ak<|aY<|aD ⟨by exact aaE df<|fZ rfl,aQ ⟨rfl,rfl,rfl⟩⟩)
theorem R5{sc:List Int}(h1:m "script"=some (.lst (sc.map .int)))(h2:m "rest"=some (.lst (Vv.map .int)))(hz:sc.length<=63):
  Ex X A aC (bg L (LE pm L)) (LE pm L) m (eA 1) σ λF m' ab=>F=.next/\ab=σ/\∃cs:List Int,cs.length=7/\m'=m.upd "cells" (.lst (cs.map .int)):=by
 have hc:∀{α:Type} (l:List α),eM none (some (7:Int)) l=l.take 7:=λl=>mJ 7
 refine bE (bK<|bz<|aP h1<|ee<|aY (ki (o3 (by exact aaE (dF ..)<|HU hz)<|bz<|aP h2<|ee<|aV<|eg hX.g_len<|
  ak<|bz<|aP h1<|ee<|aY (ki (o3 (by exact aaE (dF ..)<|HU hz)<|aD ⟨trivial,?_⟩)))))
 refine aaE (hc ..)<|oV (by(refine aaE jW<|aaE (dF ..) ?_);exact ae (xD _ _) (lb rfl)) (iH (o3 (by decide)<|sq ?_<|aQ ⟨rfl,rfl,sc.take 7++Vv.drop (sc.take 7).length,?_,?_⟩))
 ·refine aaE (iK ..) ?_;simp[Vv];exact ae (aK (AK (xD 7 _))) (lb rfl)
 ·have:Vv.length=7:=rfl
  (refine aaE cw<|aaE dE<|aaE jW<|aaE this ?_);exact AK (xD 7 _)
 ·(exact aaE (iK ..)<|aaE qC<|aaE Bl<|aaE List.map_drop<|aaE jW<|aaE jW<|aaE (dF ..) rfl)
theorem R6:Ex X A aC (bg L (LE pm L)) (LE pm L) m (eA 2) σ λF m' ab=>F=.next/\∃aH,σ aH=none/\aH≠1/\ab=σ.set aH (.dict [])/\m'=m.upd "held" (.ref aH):=
 bE (vq hX.toBase λa h1 h2=>lZ rfl (aI rfl) (c:=L+1) rfl ⟨bB _ _,.inr ⟨"held",by rfl⟩⟩ (vy rfl a h1 h2 rfl rfl))
end
theorem sZ{σ:St}{a:Addr}{t t':Trk}:(σ.set a t).set a t'=σ.set a t':=by
 funext b;unfold St.set;split<;>rfl
theorem mQ{σ:St}{a:Addr}{t:Trk}:σ.set a t a=some t:=by unfold St.set;exact aaE (aA rfl) rfl
theorem kZ{σ:St}{a b:Addr}{t:Trk}(h:b≠a):σ.set a t b=σ b:=by unfold St.set;exact aaE (ar h) rfl
theorem fa{m:Mp}{x y:Str}{V:AV}(h:y≠x):m.upd x V y=m y:=by unfold Mp.upd;exact aaE (ar h) rfl
theorem yA(c:Int){n:Nat}(hn:0<n):∃i<n,c.fmod (n:Int)=(i:Int):=by
 have h1:=Int.fmod_nonneg_of_pos c (b:=(n:Int)) (lR.mpr hn);have h2:=Int.fmod_lt_of_pos c (b:=(n:Int)) (lR.mpr hn);exact⟨(c.fmod n).toNat,(Int.toNat_lt h1).mpr h2,(Int.toNat_of_nonneg h1).symm⟩
theorem Rg(h:i<8):∃k:By,(WG.map AV.bytes)[i]?=some (.bytes k)/\k.length=2:=by
 have:∀j<8,∃k:By,WG[j]?=some k/\k.length=2:=by decide
 refine ax (this i h) λk h1 h2=>?_;exact(aE k (by(refine aaE (kL) ?_;refine aaE h1 ?_);rfl) h2)
section
variable {X:Cx} {A:Around} {pm:Value} {L:Addr} {m:Mp} {σ:St} (hX:Base8 X)
include hX
theorem HL{x:Expr}{b n:Nat}{p1 p2 p3 p4 p5 p6 p7:Pos}{c:Int}{Q:AP}(hh:A.handled=none)(hb:b+n<=256)(hn:0<n)(hn2:n<1073741824)
  (h:Ev X A aC (LE pm L) m x σ λV ab=>V=.int c/\∀v:By,v≠[]->v.length<=16->Q (.bytes v) ab):
  Ev X A aC (LE pm L) m (.Call (.Name "bytes" p1) [.List [.BinOp (.Constant (.int (b:Int)) 0 p2) .Add (.BinOp x .Mod (.Constant (.int (n:Int)) 0 p3) p4) p5] p6] [] p7) σ Q:=by
 refine aV (eg hX.g_bytes<|ak<|mS<|ak<|bK<|aY<|bK<|h.mono λV ab aR=>bY aR λe hq=>?_);clear aR;refine aaE e ?_;refine aY<|jB (TZ hn)<|mK<|aD ⟨by exact aaE df<|fZ rfl,aD ⟨trivial,?_⟩⟩;refine ax (yA c hn) λi hi e=>?_;exact aaE e<|xy (ns:=[(b:Int)+(i:Int)]) hh (λk hk=>by exact aaE (lM.mp hk)<|(⟨qv (_+_),lR.mpr (bT (Nat.add_lt_add_left hi _) hb)⟩)) (by simp) (hq _ (by simp) (by simp))
theorem R8{cs:List Int}{aH:Addr}(hh:A.handled=none)(hA:Room A 1)(hc:m "cells"=some (.lst (cs.map .int)))(h7:cs.length=7)(hm:m "held"=some (.ref aH))(bf:σ aH=some (.dict [])):
  Ex X A aC (bg L (LE pm L)) (LE pm L) m (eA 3) σ λF m' ab=>F=.next/\(∀x:Str,x≠"cell"->m' x=m x)/\∃H,ab=σ.set aH (.dict H)/\HOk H/\H≠[]/\H.length<=4:=by
 refine yL (k:=1) hA<|g7<|bz<|aP hc<|ee<|aY (ki (o3 (by exact aaE (dF ..)<|Dd h7)<|mN ?_))
 first|refine q2 (by rw[show eM none (some (4:Int)) (cs.map AV.int)=(cs.take 4).map .int from by rw[Bl];exact mJ 4]) ?_|rw[show eM none (some (4:Int)) (cs.map AV.int)=(cs.take 4).map .int from by rw[Bl];exact mJ 4]
 refine vI 4 (λdone m' ab=>(∀x:Str,x≠"cell"->m' x=m x)/\∃H,ab=σ.set aH (.dict H)/\HOk H/\H.length<=done.length/\(done≠[]->H≠[])) _ [] m σ (vy (λ_ _=>rfl) ([]) ?_ .nil (bC _) (λh=>absurd rfl h)) (by simp;exact xD _ _) (λV hV done m1 eX cG ba=>sV ba λi1 H i2 i3 i4 i5=>?_) λm1 eX bh=>sV bh λi1 H i2 i3 i4 i5=>(BK rfl i1 H i2 i3 (i5 ?_) ?_)
 ·funext b;unfold St.set;split
  ·rename_i e;rw[e];exact bf
  ·rfl
 ·refine ax (cb.mp hV) λc _ bN=>?_;subst bN
  subst i2;have u1:(m1.upd "cell" (.int c)) "held"=some (.ref aH):=(fa (aI rfl)).trans ((i1 _ (aI rfl)).trans hm);refine ax (yA c (n:=8) (aI rfl)) λi hi e=>?_;refine ax (Rg hi) λk hk kJ=>?_;refine aQ<|aw<|bE<|HL hX (b:=65) (n:=26) hh (aI rfl) (aI rfl) (aI rfl)<|bK<|af (.int c)<|aY<|uU (aI rfl) (aI rfl) ⟨rfl,λv hv rX=>?_⟩;refine sx (a:=aH) (k:=k)<|aP u1 ⟨rfl,bz<|eg hX.g_keys<|bK<|af (.int c)<|aY<|jB (aI rfl) ?_⟩
  first|refine q2 (by exact aaE (show c.fmod 8=(i:Int)from e) rfl) ?_|rw[show c.fmod 8=(i:Int)from e]
  refine jx (aI rfl) hk (vL rfl H mQ ?_ (bw ⟨rfl,trivial,λx hx=>(fa hx).trans (i1 x hx),BD.put H k v,sZ,i3.put kJ ⟨hv,rX⟩,?_,λ_=>?_⟩))
  ·exact ae i4 (ae (dS cG) (lb rfl))
  ·have:=sA (x:=k) (v:=v) H
   (refine aaE cw<|aaE E6 ?_);exact ae this (fF i4)
  ·clear i3 i4 i5 ba;cases H with
   |nil=>simp[BD.put]
   |cons p H=>dsimp only[BD.put];split<;>simp
 ·rw[gT];intro e
  have:=bF List.length e;rw[dF,jW,h7]at this;cases this
 ·rw[gT,dF,jW]at i4;exact ae i4 (xD _ _)
end
theorem NmF.old(F:NmF σ f d N)(h:∀b,σ b≠none->ab b=σ b):NmF ab f d N:=by
 refine az λkk=>?_;obtain⟨⟨o,c,co,cc,oc,code,pm,ct,doc,vs,t,e1,e2,e3,e4,e5,e6,e7,e8⟩,hd,d1⟩:=F;have kp:∀{x:Addr} {tr:Trk},σ x=some tr->ab x=some tr:=λ{x tr} q=>by(refine aaE (h x (by rw[q];simp)) ?_;exact aaE q rfl)
 exact kk<|⟨⟨o,c,co,cc,oc,code,pm,ct,doc,vs,t,kp e1,e2,kp e3,e4,e5,kp e6,e7,e8⟩,kp hd,d1⟩
theorem Rh(h:i<4):∃o:UInt8,(aaj.map AV.bytes)[i]?=some (.bytes [o]):=by
 obtain rfl|rfl|rfl|rfl:i=0∨i=1∨i=2∨i=3:=HX h
 all_goals exact⟨_,rfl⟩
theorem Rj(h:i<4):∃o:UInt8,(WE.map AV.bytes)[i]?=some (.bytes [o]):=by
 obtain rfl|rfl|rfl|rfl:i=0∨i=1∨i=2∨i=3:=HX h
 all_goals exact⟨_,rfl⟩
theorem Ri{cs:List Int}{i:Nat}(h:i<cs.length):∃c:Int,(cs.map AV.int)[i]?=some (.int c):=
 ⟨cs[i],by(refine aaE (kL) ?_;refine aaE (hZ h) ?_);rfl⟩
section
variable {X:Cx} {A:Around} {pm:Value} {L:Addr} {m:Mp} {σ:St} (hX:Base8 X)
include hX
theorem Oc:cQ X σ (.ref 416):=by refine bk hX.f_octets λx x F'=>?_;exact F'.keep
theorem yp:cQ X σ (.ref 423):=by refine bk hX.f_ends λx x F'=>?_;exact F'.keep
theorem Sa(hA:Room A 24)(h1:m "held"=some (.ref aH))(h2:m "name_of"=some (.ref f))(nmf:NmF σ f d [])(bf:σ aH=some (.dict H))(ha:aH≠1)(hd:aH≠d)(hH:HOk H)(bR:H≠[])(hz:H.length<=4):
  Ex X A aC (bg L (LE pm L)) (LE pm L) m (eA 4) σ λF m' ab=>F=.next/\∃t h dT N D,m'=(m.upd "root" (.bytes h)).upd "told" (.ref dT)/\σ dT=none/\dT≠1/\HT H t/\(∀b,σ b≠none->b≠d->ab b=σ b)/\NmF ab f d N/\ab dT=some (.dict D)/\SOk N D/\N.length<=200/\D.length<=50000/\∃L,Full N D t h L:=by
 refine bE<|aV<|eg hX.g_tree<|ak<|aP h1<|ak<|aP h2<|aD ⟨GF hX.toBase7,bc (Hw hX.toBase7 nmf .nil bf ha hH bR (ae hz (lb rfl)) (c:=49800) (by decide) hd λt h dT ab N D e1 e2 e3 e4 e5 e6 e7 e8 e9 e10 e11=>?_) hA⟩;refine eR hA.handled rfl rfl<|bG<|aQ<|bG<|aQ<|eS ⟨rfl,t,h,dT,N,D,rfl,e1,e2,e3,e4,e5,e6,e7,by exact SX e9,e10,e11⟩
theorem Sb{cs:List Int}(hA:Room A 1)(hc:m "cells"=some (.lst (cs.map .int)))(h7:cs.length=7):
  Ex X A aC (bg L (LE pm L)) (LE pm L) m (eA 5) σ λF m' ab=>F=.next/\ab=σ/\∃o:UInt8,m'=m.upd "octet" (.bytes [o]):=by
 refine az λkk=>?_;obtain⟨c,Z6⟩:=Ri (cs:=cs) (i:=4) (ae (lb rfl:5<=7) (aK h7.symm));refine ax (yA c (n:=4) (aI rfl)) λi hi e=>?_;obtain⟨o,ho⟩:=Rh hi;refine kk<|bE<|bz<|aV<|eg hX.g_octets<|aD ⟨Oc hX,bc (PM hX.toBase7<|bK<|bz<|aP hc<|aY<|jx (i:=4) (by exact aaE (dF ..)<|Dd h7) Z6<|aY<|jB (aI rfl) ?_) hA⟩
 first|refine q2 (by exact aaE (show c.fmod 4=(i:Int)from e) rfl) ?_|rw[show c.fmod 4=(i:Int)from e]
 exact jx (aI rfl) ho<|lZ rfl (aI rfl) (c:=L+2) rfl ⟨bB _ _,.inr ⟨"octet",by rfl⟩⟩ ⟨rfl,rfl,o,rfl⟩
theorem R9:Ex X A aC (bg L (LE pm L)) (LE pm L) m (eA 6) σ λF m' ab=>F=.next/\∃aW,σ aW=none/\aW≠1/\ab=σ.set aW (.dict [])/\m'=m.upd "witness" (.ref aW):=
 bE (vq hX.toBase λa h1 h2=>aQ (vy rfl a h1 h2 rfl rfl))
end
theorem FD(hX:Base7 X)(F:NmF σ f d N)(hN:N.length<60000)(hl:N.lookup x=some b)(h:Q (.bytes b) σ):CallOk X 3 (.ref f) [.bytes x] σ Q:=
 Fq hX F hN hl λab o g=>by
  have:ab=σ:=by
   funext y
   by_cases q:y=d
   ·(exact aaE q<|aaE g.dict<|aaE F.dict rfl)
   ·exact o y (by simpa using q)
  exact aaE this<|h
theorem NmF.one(F:NmF σ f d N)(ha:σ a=some (.dict W))(hd:a≠d):NmF (σ.set a (.dict W')) f d N:=
 F.upd (db:=a) ha (λb hb=>kZ λe=>hb (by refine aaE e ?_;simp)) (by exact aaE (kZ (jf hd))<|F.dict)
section
variable {X:Cx} {A:Around} {pm:Value} {L:Addr} {m:Mp} {σ:St} (hX:Base8 X)
include hX
theorem Sd(hA:Room A 207)(h1:m "told"=some (.ref dT))(h2:m "root"=some (.bytes h))(h3:m "octet"=some (.bytes [o]))(h4:m "name_of"=some (.ref f))(h5:m "witness"=some (.ref aW))
  (nmf:NmF σ f d N)(hT:σ dT=some (.dict D))(xj:dT≠1)(hW:σ aW=some (.dict []))(xk:aW≠1)(hd:aW≠d)(uo:aW≠dT)(S:SOk N D)(ht:HT H t)(hz:H.length<=4)(Z7:N.length<60000)(hf:Full N D t h Ls):
  ExJ X A (bg L (LE pm L)) (LE pm L) m (eA 7) σ λF m' ab=>F=.next/\(∀x:Str,x≠"node"->m' x=m x)/\∃W,ab=σ.set aW (.dict W)/\WInv N D (wit N t (bu [o])) W:=by
 have hL:=hf.nodes;have n1:=Fs (N:=N) ht;have n2:=FT (N:=N) (q:=bu [o]) ht;refine QY (k:=207) (N:=L) hA (Qg (hst:=by rfl) (eg hX.g_gwp<|ak<|aP h1<|ak<|aP h2<|ak<|aP h3<|aD ⟨Qi hX.toBase2,Qf (RO hX.toBase2 (n:=16) hT xj S.W.ok ht.wf (by decide) ht.short hf (by exact aaE hL<|(ae n1 (ae (ia _ hz) (lb rfl)))) (by simp) (ae n2 (ae (ia _ hz) (lb rfl))) ?_) hA⟩));refine BZ<|vI (wit N t (bu [o])).length (λdone m' ab=>(∀x:Str,x≠"node"->m' x=m x)/\∃ds W,done=ds.map .bytes/\ab=σ.set aW (.dict W)/\WInv N D ds W) _ [] m σ ⟨λ_ _=>rfl,[],[],rfl,?_,.nil⟩ (by simp) (λV hV done m1 eX cG aR=>Hi aR λi1 ds W i2 i3 i4=>?_) λm1 eX ba=>Hi ba λi1 ds W i2 i3 i4=>(pn rfl i1 W i3 ?_)
 ·funext b;unfold St.set;split
  ·rename_i e;exact aaE e<|hW
  ·rfl
 ·refine ax (cb.mp hV) λx hx bh=>?_;refine aaE (aq bh) ?_
  clear aR;subst i2 i3;refine ax (vH hf x (ym x hx)) λk qg kJ=>?_;have F1:=nmf.one (W':=W) hW hd;have u:∀y:Str,y≠"node"->(m1.upd "node" (.bytes x)) y=m y:=λy hy=>(fa hy).trans (i1 y hy);have nmc:∀{Q:AP},Q (.bytes k) (σ.set aW (.dict W))->fy X A aC (.ref f) [.bytes x] (σ.set aW (.dict W)) Q:=λhq=>bc (FD hX.toBase7 F1 Z7 qg hq) hA.mo;have gR:(σ.set aW (.dict W)) dT=some (.dict D):=by exact aaE (kZ (jf uo))<|hT
  refine aQ<|aw<|bp<|aT<|fT (aP ((u "told" (by decide)).trans h1)<|Bf gR xj<|ak<|aV<|aP ((u "name_of" (by decide)).trans h4)<|ak<|af (.bytes x)<|aD ⟨F1.keep,nmc<|ak<|jd<|aD ⟨trivial,Bc gR xj ?_⟩⟩) (by rfl);refine aaE kJ<|af (.bytes x)<|oZ (iH (?_));refine bQ (c:=(x !=x)) (by simp)<|bw<|aw<|bE<|af (.bytes x)<|sx (a:=aW) (k:=k)<|aP ((u "witness" (by decide)).trans h5) ⟨rfl,aV<|aP ((u "name_of" (by decide)).trans h4)<|ak<|af (.bytes x)<|aD ⟨F1.keep,nmc (vL rfl W mQ ?_ (bw ⟨rfl,trivial,λy hy=>u y hy,ds++[x],BD.put W k x,?_,sZ,i4.step S.W.ok qg kJ⟩))⟩⟩
  ·have:=i4.sz
   rw[dF]at cG;lia -abstractProof
  ·refine aaE qC ?_;rfl
 ·have:ds=wit N t (bu [o]):=by
   rw[gT]at i2;exact(List.map_inj_right (λa b e=>by cases e;rfl)).mp i2.symm
  exact aaE (aq this)<|i4
end
end
section
open PySem.W.X PySem.SeqAt
theorem NP(h:Q (.bool false) σ):cU X A E (compareOp .Eq) (.bytes b) (.str x) σ Q:=λg s v u S r r'=>by
 obtain⟨t,rfl⟩:=r;obtain⟨t',rfl⟩:=r'
 exact rc_eq_decline_or (k:=false) (jy s _ t) (ve s x t') (aI rfl) PySem.F.sub_str_bytes PySem.W.FB.slot_bytes_eq PySem.F.slot_str_eq_refl
  (λy hq=>call_gives PySem.W.FB.slot_bytes_eq (jy s _ t) PySem.W.FB.entry_bytes_eq (PySem.W.FB.args_bytes_eq_2 _ _) (PE x t' _ t) hq)
  (λy hq=>call_gives PySem.F.slot_str_eq_refl (ve s x t') PySem.F.entry_str_eq (PySem.F.args_str_eq_2 _ _) (PG x t' _ t) hq)
  (λy hq=>dn (rfl:isSame (.bytes b.toArray t) (.str x t')=pure false) hq) (.inl rfl) (Post.here S .bool h)
structure Lw(z:Nat)(σ:St)(a dx f d aW aH:Addr)(r:By)(N W H:BD)(t:T)(q:By):Prop where
 tri:Tri z σ a dx f d aW r N W
 held:σ aH=some (.dict H)
 h1:aH≠1
 hd:aH≠d
 hW:aH≠aW
 ok:SOk N W
 hok:HOk H
 ne:H≠[]
 ht:HT H t
 ka:KA 16 N W t r q
 nm:Named N t r
 tb:∃ps,σ 447=some (.obj (gH ps))
structure Lm(m:Mp)(f aH a:Addr)(cs:List Int)(o:UInt8):Prop where
 f:m "name_of"=some (.ref f)
 h:m "held"=some (.ref aH)
 c:m "cells"=some (.lst (cs.map .int))
 o:m "octet"=some (.bytes [o])
 s:m "small"=some (.ref a)
noncomputable def Se:Option (Option By)->AV
 |some o=>fW o
 |none=>.str "lacks"
section
variable {X:Cx} {A:Around} {pm:Value} {L:Addr} {m:Mp} {σ:St} (hX:Base8 X)
include hX
theorem QD(I:Lw z σ a dx f d aW aH r N W H t q)(hx:x.length=2)(hq:Q (Se (dq N W t (bu x))) σ):vW X 38 (.ref 445) [.ref a,.bytes x] σ Q:=by
 cases hg:dq N W t (bu x)with
 |none=>rw[hg]at hq;exact OO hX.toBase6 I.tri I.ok.W.ok I.ok.d (n:=16) I.ht.wf (aI rfl) I.ht.short (Ib hx) I.nm hg hq
 |some o=>rw[hg]at hq;exact(B9 hX.toBase6 I.tri I.ok.W.ok I.ok.d (n:=16) I.ht.wf (aI rfl) I.ht.short (Ib hx) I.nm hg hq).f
theorem Sf(hA:Room A 3)(h2:m "root"=some (.bytes h))(h4:m "name_of"=some (.ref f))(h5:m "witness"=some (.ref aW))
  (nmf:NmF σ f d N)(hW:σ aW=some (.dict W))(xk:aW≠1)(hd:aW≠d):
  Ex X A aC (bg L (LE pm L)) (LE pm L) m (eA 8) σ λF m' ab=>F=.next/\∃a dx,m'=m.upd "small" (.ref a)/\σ a=none/\σ dx=none/\(∀b,b≠a->b≠dx->ab b=σ b)/\Tri 3 ab a dx f d aW h N W:=
 bE<|aV<|eg hX.g_BT<|ak<|aP h5<|ak<|aP h4<|ak<|aP h2<|aD ⟨Q4 hX.toBase5,Q3 hX.toBase5 hA nmf hW xk hd λa dx ab e1 e2 e3 e4=>
  lZ rfl (by decide) (c:=L+3) rfl ⟨bB _ _,.inr ⟨"small",by rfl⟩⟩ ⟨rfl,a,dx,rfl,e1,e2,e3,e4⟩⟩
end
end
section
open PySem.W.X
section
variable {X:Cx} {A:Around} {pm:Value} {L:Addr} {m:Mp} {σ:St} (hX:Base8 X)
include hX
theorem Sg(hA:Room A 40)(bH:A.frames=some [LE pm L])(I:Lw z σ a dx f d aW aH r N W H t q)(M:Lm m f aH a cs o)(h1:m "witness"=some (.ref aW))(h2:m "told"=some (.ref dT))
  (hz:H.length<=4)(hT:σ dT=some (.dict D))(xj:dT≠1)(xk:aW≠1)(hN:N.length<60000)(Z8:D.length<=65536)(wi:WInv N D ys W)(Ap:W.length<=65536)(hf:Full N D t r Ls):
  Ex X A aC (bg L (LE pm L)) (LE pm L) m (eA 9) σ λF m' ab=>F=.next/\ab=σ/\(∀x:Str,x≠"key"->x≠"seen"->m' x=m x):=by
 have hu:A.units<cLine:=by have:=hA.units;exact Ig this
 refine yL (k:=40) hA<|g7<|aV<|eg hX.g_sorted<|ak<|aP M.h<|aD ⟨trivial,Fh I.held I.h1 hA.handled (dw hz (lb rfl)) λLk tD=>mN ?_⟩;refine vI Lk.length (λy m' ab=>ab=σ/\(∀x:Str,x≠"key"->x≠"seen"->m' x=m x)) _ [] m σ ⟨rfl,λy y y=>rfl⟩ (by simp) (λV hV done m1 eX y aR=>bY aR λi1 i2=>?_) λm1 eX ba=>bY ba λi1 i2=>⟨rfl,i1,i2⟩;refine ax (cb.mp hV) λk hk bh=>?_;subst bh;clear aR;subst i1;obtain⟨v,hv⟩:=oO (tD.mem_iff.mp hk);have kJ:=I.hok.k2 _ (jD hv);have rX:=I.hok.val _ (jD hv);have u:∀x:Str,x≠"key"->x≠"seen"->(m1.upd "key" (.bytes k)) x=m x:=λx a b=>(fa a).trans (i2 x a b);refine lZ rfl (aI rfl) (c:=L+4) rfl ⟨bB _ _,.inr ⟨"key",by rfl⟩⟩<|aw<|bp<|aT<|vu (hd:=by rfl) (hc:=by rfl) (p:=k) rfl (Ic kJ)<|aP ((u "octet" (aI rfl) (aI rfl)).trans M.o)<|oZ (kt (?_));refine wG (λy=>?_) λy=>?_
 ·refine aw<|bE<|Qp (hst:=by rfl) rfl<|eg hX.g_told<|ak<|aP ((u "small" (aI rfl) (aI rfl)).trans M.s)<|ak<|af (.bytes k)<|aD ⟨BI hX.toBase6,PD ((QD hX I kJ ?_)) hA.mo bH⟩
  have hl:I.ht.look k kJ=I.ht.look k kJ:=rfl
  cases hg:dq N W t (bu k)with
  |none=>
   refine cP (yk I.nm hg) λx hx n1 n2 n3=>?_;refine ax (vH hf x n1) λh' e1 e2=>?_;rw[n2]at e1;obtain rfl:=bq e1;have cG:=R2 wi.nd wi.sub n3 (by refine aaE e2 ?_;simp);refine aQ<|aw<|bp<|kU<|aT<|af (.str "lacks")<|s6<|PF (kt (?_));refine bQ (c:=(!(("lacks":Str)=="lacks"))) (aI rfl)<|bQ rfl<|bw<|aw<|bp<|kU<|aT<|af (.str "lacks")<|s6<|PL (kt (?_));refine dR (c:=(("lacks":Str)=="lacks")) (aI rfl)<|kU<|aT<|aV<|eg hX.g_len<|ak<|aP (V:=.ref aW) ?_<|aD ⟨trivial,Bq I.tri.dbt xk Ap<|aV<|eg hX.g_len<|ak<|aP (V:=.ref dT) ?_<|aD ⟨trivial,Bq hT xj Z8<|cu (kt (?_))⟩⟩
   ·exact(fa (aI rfl)).trans ((u _ (aI rfl) (aI rfl)).trans h1)
   ·exact(fa (aI rfl)).trans ((u _ (aI rfl) (aI rfl)).trans h2)
   ·refine bQ (c:=(((W.length:Int))==(D.length:Int))) (by exact aaE (propext cR)<|(λq=>kP cG (Bj.mp q))) ?_
    exact bQ rfl<|bw<|bw<|bw ⟨rfl,trivial,rfl,λx a b=>(fa b).trans (u x a b)⟩
  |some oo=>
   have e:oo=some v:=by(exact aaE (yj I.ht.wf (by rw[kT,kJ]) hg)<|aaE (I.ht.look k kJ)<|aaE hv rfl)
   subst e;refine ax (yl I.nm hg) λhl e1 e2=>?_;refine aQ<|aw<|bp<|kU<|aT<|af (.bytes v)<|s6<|NM (kt (?_));refine dR rfl<|kU<|gE<|aT<|af (.bytes v)<|bz<|aP (V:=.ref aH) ?_<|af (.bytes k)<|fw I.held hv<|oZ (kt (?_))
   ·exact(fa (aI rfl)).trans ((u _ (aI rfl) (aI rfl)).trans M.h)
   refine bQ (c:=(v !=v)) (by simp)<|gE<|aT<|aV<|aP (V:=.ref f) ?_<|ak<|bK<|ig<|af (.bytes v)<|f5 (by simp;exact ae (cK rX.2 1) (lb rfl))<|aD ⟨I.tri.nm.keep,bc (FD hX.toBase7 I.tri.nm hN (b:=hl) e1<|aP (V:=.ref aW) ?_<|Fm I.tri.dbt xk (kt (?_))) hA.mo⟩
   ·exact(fa (aI rfl)).trans ((u _ (aI rfl) (aI rfl)).trans M.f)
   ·exact(fa (aI rfl)).trans ((u _ (aI rfl) (aI rfl)).trans h1)
   refine aaE e2<|bQ (c:=(!true)) (rfl)<|o4<|bQ rfl<|bQ rfl<|bw<|aw<|bp<|kU<|aT<|af (.bytes v)<|s6<|NP (kt (?_));exact bQ rfl<|bQ rfl<|bw<|bw<|bw ⟨rfl,trivial,rfl,λx a b=>(fa b).trans (u x a b)⟩
 ·exact bw<|bw ⟨rfl,trivial,rfl,λx a b=>u x a b⟩
end
noncomputable def Hx(t:Expr):Scope:=if h:t.ctorIdx=8 then Expr.ListComp.elim (motive_1:=λx=>Scope) t h λx x s x=>s else default
noncomputable def Vw(t:Expr):Expr×Expr:=if h:t.ctorIdx=15 then Expr.Compare.elim (motive_1:=λx=>Expr×Expr) t h λl x r x=>(l,r.headD l)else (t,t)
noncomputable def Sh(t:Stmt):Expr:=if h:t.ctorIdx=12 then Stmt.If.elim (motive_2:=λx=>Expr) t h λc x x x=>c else .Name "" default
noncomputable def ID(t:Stmt):Expr×Expr:=Vw (Sh t)
noncomputable def Yx:Scope:=Hx (ID (eA 10)).1
noncomputable def zW:Scope:=Hx (ID (eA 10)).2
theorem Hh(a b:By):bu (a++b)=bu a++bu b:=by
 induction a with
 |nil=>rfl
 |cons c a ih=>(exact aaE A4<|aaE (vl ..)<|aaE (vl ..)<|aaE ih<|aaE (qw ..) rfl)
theorem BJ(ht:HT H t)(ka:KA 16 N W t r (bu [o]))(he:e.length=1):dq N W t (bu ([o]++e))=some (H.lookup ([o]++e)):=by
 have hl:([o]++e).length=2:=by(refine aaE cw<|aaE he ?_);rfl
 have rY:(bu ([o]++e)).length=16:=by(exact aaE (kT ..)<|aaE hl rfl)
 (exact aaE (yS ht.wf rY (ka _ rY (kS _) (by rw[Hh,lP])))<|aaE (ht.look _ hl) rfl)
noncomputable def DB(H:BD)(o:UInt8):List (Option By):=WE.map λe=>H.lookup ([o]++e)
noncomputable def DA(H:BD)(o:UInt8):AV->AV
 |.bytes e=>fW (H.lookup ([o]++e))
 |V=>V
theorem Hg(H:BD)(o:UInt8):((WE.map AV.bytes).filter λx=>true).map (DA H o)=(DB H o).map fW:=by rfl
theorem Hf:∀e∈WE,e.length=1:=by decide
section
variable {X:Cx} {A:Around} {pm:Value} {L:Addr} {m:Mp} {σ:St} (hX:Base8 X)
include hX
theorem GG(hA:Room A 40)(I:Lw z σ a dx f d aW aH r N W H t (bu [o]))(M:Lm m f aH a cs o)(hq:Q (.lst ((DB H o).map fW)) σ):
  Ev X A aC (LE pm L) m (.ListComp (.Call (.Name "_law_told" p1) [.Name "small" p2,.BinOp (.Name "octet" p3) .Add (.Name "end" p4) p5] [] p6) [⟨.Name "end" p7,.Call (.Name "_law_ends" p8) [] [] p9,[],0⟩] Yx p10) σ Q:=by
 refine mH (k:=3) (λD env=>T1 D env _) (λC env=>J1 X A env _) hA.mo (λC D it=>lg) (λD C fY hD=>kj hD) rfl rfl (by decide) (by decide)
  <|g7<|aV<|eg hX.g_ends<|aD ⟨yp hX,bc (yH hX.toBase7<|mN λC=>ja (λm2=>m2 "small"=some (.ref a)/\m2 "octet"=some (.bytes [o])) (λx=>true) (DA H o) trivial _ _ [] (λV hV m2 aR=>bY aR λg1 g2=>?_) (by decide) ⟨M.s,M.o⟩ λm2 x=>?_) hA.mo⟩
 ·refine ax (cb.mp hV) λe he bh=>?_;clear hV;subst bh
  have hl:=Hf e he
  exact aQ (l7 rfl rfl rfl ⟨g1,g2⟩ (λx=>aV<|eg hX.g_told<|ak<|aP (V:=.ref a) g1<|ak<|bK<|aP (V:=.bytes [o]) g2<|af (.bytes e)<|f5 (by refine aaE hl ?_;simp)<|aD ⟨BI hX.toBase6,
   bc (B9 hX.toBase6 I.tri I.ok.W.ok I.ok.d (n:=16) I.ht.wf (by decide) I.ht.short (by(refine aaE cw<|aaE hl ?_);simp) I.nm (BJ I.ht I.ka hl) ⟨rfl,rfl⟩) hA.mo⟩))
 ·(refine aaE (gT ..)<|aaE (Hg ..) ?_);exact hq
theorem GH(hA:Room A 40)(I:Lw z σ a dx f d aW aH r N W H t (bu [o]))(M:Lm m f aH a cs o)(hq:Q (.lst ((DB H o).map fW)) σ)
  (he:∀C,∃pl:Sem Bool,eval (.Call (.Attribute (.Name "held" p1) "get" p2) [.BinOp (.Name "octet" p3) .Add (.Name "end" p4) p5,.Constant .none 0 p6] [] p7) (cq zW C (LE pm L))=(do let ov ←eval (.Name "held" p1) (cq zW C (LE pm L));standAt p2.atName;let (f,first) ←holding [ov] (getMethod ov "get" pl);callWith p7 f first (backTo p7 (starEach [.BinOp (.Name "octet" p3) .Add (.Name "end" p4) p5,.Constant .none 0 p6] (cq zW C (LE pm L)))) [])):
  Ev X A aC (LE pm L) m (.ListComp (.Call (.Attribute (.Name "held" p1) "get" p2) [.BinOp (.Name "octet" p3) .Add (.Name "end" p4) p5,.Constant .none 0 p6] [] p7) [⟨.Name "end" p8,.Call (.Name "_law_ends" p9) [] [] p10,[],0⟩] zW p11) σ Q:=by
 refine mH (k:=3) (λD env=>T1 D env _) (λC env=>J1 X A env _) hA.mo (λC D it=>lg) (λD C fY hD=>kj hD) rfl rfl (by decide) (by decide)
  <|g7<|aV<|eg hX.g_ends<|aD ⟨yp hX,bc (yH hX.toBase7<|mN λC=>ja (λm2=>m2 "held"=some (.ref aH)/\m2 "octet"=some (.bytes [o])) (λx=>true) (DA H o) trivial _ _ [] (λV hV m2 ba=>bY ba λg1 g2=>?_) (by decide) ⟨M.h,M.o⟩ λm2 x=>?_) hA.mo⟩
 ·refine az λkk=>?_
  refine ax (cb.mp hV) λe Z9 bN=>?_;subst bN;have hl:=Hf e Z9;obtain⟨pl,bP⟩:=he C;refine kk<|aQ (l7 rfl rfl rfl ⟨g1,g2⟩ (λx=>fT (aP (V:=.ref aH) g1<|Bf I.held I.h1<|ak<|bK<|aP (V:=.bytes [o]) g2<|af (.bytes e)<|f5 (by refine aaE hl ?_;simp)<|ak<|jd<|aD ⟨trivial,Bc I.held I.h1 ⟨rfl,?_⟩⟩) bP));show _=fW (H.lookup ([o]++e));cases H.lookup ([o]++e)<;>rfl
 ·(refine aaE (gT ..)<|aaE (Hg ..) ?_);exact hq
theorem Rk(hA:Room A 40)(I:Lw z σ a dx f d aW aH r N W H t (bu [o]))(M:Lm m f aH a cs o):
  Ex X A aC (bg L (LE pm L)) (LE pm L) m (eA 10) σ λF m' ab=>F=.next/\ab=σ/\m'=m:=
 bp<|aT<|GG hX hA I M<|GH hX hA I M (Qs (by have:=hA.units;exact Ig this) (kt (bw ⟨rfl,rfl,rfl⟩))) λC=>⟨_,by rfl⟩
end
theorem Tri.re(T:Tri z σ a dx f d db r N D)(nm:NmF ab f d N')(h:∀b,σ b≠none->b≠x->ab b=σ b)(hx:σ x=some (.dict l))(hxb:x≠db):Tri z ab a dx f d db r N' D:=by
 refine az λkk=>?_;obtain⟨⟨li,I,r1⟩,_,hd,h1,ne⟩:=T
 have kp:∀{b:Addr} {t:Trk},σ b=some t->(∀l,t≠.dict l)->ab b=some t:=λ{b t} e ht=>by
  refine aaE (h b (by rw[e];simp) λq=>by rw[q,hx]at e;obtain rfl:=bq e;exact ht _ rfl) ?_;exact aaE e rfl
 exact kk<|⟨(aE li ⟨kp I.obj (λy=>nofun),kp I.ns (λy=>nofun)⟩ r1),nm,by refine aaE (h db (by rw[hd];simp) (jf hxb)) ?_;exact hd,h1,ne⟩
theorem Lw.key(I:Lw z σ a dx f d aW aH r N W H t q):aH≠dx:=λe=>by
 obtain⟨⟨li,II,_⟩,_⟩:=I.tri;have:=II.ns;rw[←e,I.held]at this;cases this
theorem KA.named(k:KA n N D t h q)(hp:p.length=n)(hb:ck p)(hq:p.take q.length=q):Named N t h:=(k p hp hb hq).named
theorem Lw.deed(I:Lw z σ a dx f d aW aH r N W H t q)(hp:p.length=16)(hb:ck p)(hq:p.take q.length=q)(hH:HOk H1)(bR:H1≠[])(ht:HT H1 t')
  (De:Deed z a dx f d aW 16 N W q t' c (σ.set aH (.dict H1)) ab r' N' W'):Lw (z+1) ab a dx f d aW aH r' N' W' H1 t' q:=
 ⟨De.tri,by refine aaE (De.only aH (by simp only[dm,mG,mR,not_or];exact⟨I.hd,I.hW,I.key⟩)) ?_;exact mQ,I.h1,I.hd,I.hW,De.ok,hH,bR,ht,De.ka,De.ka.named hp hb hq,by
  obtain⟨ps,e⟩:=I.tb;obtain⟨⟨li,II,_⟩,nm,db,_⟩:=I.tri;refine⟨ps,?_⟩;rw[De.only 447 ?_,kZ λq=>by rw[q,I.held]at e;cases e];exact e;simp only[dm,mG,mR,not_or]
  exact⟨λq=>(by rw[q,nm.dict]at e;cases e),λq=>(by rw[q,db]at e;cases e),λq=>(by rw[q,II.ns]at e;cases e)⟩⟩
theorem Lw.tri1(I:Lw z σ a dx f d aW aH r N W H t q):Tri z (σ.set aH (.dict H1)) a dx f d aW r N W:=
 I.tri.re (I.tri.nm.one I.held I.hd) (λb x hb=>kZ hb) I.held I.hW
theorem Lw.put(I:Lw z σ a dx f d aW aH r N W H t q):σ.set aH (.dict H)=σ:=by
 funext b;unfold St.set;split
 ·rename_i e;exact aaE e<|I.held.symm
 ·rfl
noncomputable def Ro(t:Stmt):List Stmt:=if h:t.ctorIdx=9 then Stmt.For.elim (motive_2:=λx=>List Stmt) t h λx x b x x=>b else []
noncomputable def pX(i:Nat):Stmt:=((Ro (eA 11))[i]?).getD (.Pass default)
theorem vJ(o e:UInt8):(bu [o,e]).take (bu [o]).length=bu [o]:=by
 (exact aaE (show([o,e]:By)=[o]++[e]from rfl)<|aaE (Hh ..)<|aaE lP rfl)
theorem QE(h:H.lookup k=none):BD.del H k=H:=by
 refine List.filter_eq_self.mpr λp hp=>?_;refine aaE oN ?_;intro e;exact uz h (by exact aaE (aq e)<|cb.mpr (aE p hp rfl))
theorem Rm:(BD.del H k).length<=H.length:=List.length_filter_le _ _
noncomputable def zw(o e:UInt8):AV->Bool
 |.bytes k=>(k.take 1==[o])&&(k !=[o,e])
 |_=>false
structure Nx(B k:Nat)(N W H:BD):Prop where
 n:N.length<=B
 w:W.length<=B
 h:H.length<=k
section
variable {X:Cx} {A:Around} {pm:Value} {L:Addr} {m:Mp} {σ:St} (hX:Base8 X)
include hX
theorem Si(hA:Room A 1)(M:Lm m f aH a cs o)(hc:m "cell"=some (.int c)):
  Ex X A aC (bg L (LE pm L)) (LE pm L) m (pX 0) σ λF m' ab=>F=.next/\ab=σ/\∃e:UInt8,m'=m.upd "key" (.bytes [o,e]):=by
 refine az λkk=>?_;refine ax (yA c (n:=4) (aI rfl)) λi hi e=>?_;obtain⟨y,ho⟩:=Rj hi;refine kk<|bE<|bK<|aP M.o<|bz<|aV<|eg hX.g_ends<|aD ⟨yp hX,bc (yH hX.toBase7<|bK<|aP hc<|aY<|jB (aI rfl) ?_) hA⟩
 first|refine q2 (by exact aaE (show c.fmod 4=(i:Int)from e) rfl) ?_|rw[show c.fmod 4=(i:Int)from e]
 exact jx (aI rfl) ho<|f5 (by simp)<|lZ rfl (aI rfl) (c:=L+4) rfl ⟨bB _ _,.inr ⟨"key",by rfl⟩⟩ ⟨rfl,rfl,y,rfl⟩
theorem Sj(hA:Room A 60)(I:Lw z σ a dx f d aW aH r N W H t (bu [o]))(M:Lm m f aH a cs o)(hc:m "cell"=some (.int c))(hk:m "key"=some (.bytes [o,e]))(b:Nx B n N W H)(hB:B<=50000)(hn:n<=60)(hz:z<=40):
  Ex X A aC (bg L (LE pm L)) (LE pm L) m (pX 1) σ λF m' ab=>F=.next/\m'=m/\∃z' N' W' H' t' r',z'<=z+1/\Lw z' ab a dx f d aW aH r' N' W' H' t' (bu [o])/\Nx (B+102) (n+1) N' W' H':=by
 have rY:(bu [o,e]).length=16:=by refine aaE (kT ..) ?_;rfl
 have hu:A.units<cLine:=by have:=hA.units;exact H9 this
 have b1:=b.n;have b2:=b.w;have b3:=b.h;refine bp<|aT<|bK<|bK<|aP hc<|aY<|uU (by decide) (by decide)<|aY<|jB (by decide)<|aY<|BA (kt (?_));refine wG (λu=>?_) λu=>?_
 ·refine aw<|bE<|HL hX (b:=97) (n:=26) hA.handled (by decide) (by decide) (by decide)<|bK<|aP hc<|aY<|uU (by decide) (by decide) ⟨rfl,λv hv rX=>?_⟩
  refine sx (a:=aH) (k:=[o,e])<|aP M.h ⟨rfl,aP hk (vL rfl H I.held (Ii hn b3) ?_)⟩;obtain⟨t',Aq,Ar⟩:=I.ht.put (k:=[o,e]) rfl hv rX
  refine aw<|gD<|fT (aP M.s<|f6 hX.toBase5 I.tri1 (by simp[eY])<|ak<|aP hk<|ak<|bz<|aP M.h<|aP hk<|fw mQ BD.put_get<|aD ⟨hX.m_set.keep,bc (RT hX.toBase5 (n:=16) (c:=60000 - 102 - B) (q:=bu [o]) (by simp) ⟨I.ht.wf,by decide,I.ht.short,rY,kS _,rX,I.ka,vJ o e,λh=>absurd h hv⟩
   ⟨I.tri1,I.ok,.refl,by exact zj hB b1,by exact zj hB b2⟩ hz Aq λab N' W' r' De=>?_) hA.mo⟩) (by rfl)
  have d1:=De.n;have d2:=De.m;refine bw ⟨rfl,rfl,z+1,N',W',H.put [o,e] v,t',r',bC _,I.deed rY (kS _) (vJ o e) (I.hok.put rfl ⟨hv,rX⟩) ?_ Ar De,⟨by exact zg d1,by exact zg d2,ae (sA H) (C3 b3)⟩⟩
  clear I b b3 Ar De;cases H with
  |nil=>simp[BD.put]
  |cons p H=>dsimp only[BD.put];split<;>simp
 ·refine aw<|bp<|aT<|Q9 (a:=aH) (l:=H)<|mH (k:=3) (λD env=>T1 D env _) (λC env=>J1 X A env _) hA.mo (λC D it=>lg) (λD C fY hD=>kj hD) rfl rfl (by decide) (by decide)
   <|g7<|aP M.h<|Qu I.held I.h1 λoo rH=>λC=>ja (Dep:=λσ ab:St=>ab aH=σ aH) (λm2=>m2 "octet"=some (.bytes [o])/\m2 "key"=some (.bytes [o,e])) (zw o e) id rfl _ _ [] (λV hV m2 aR=>bY aR λg1 g2=>?_) ?_ ⟨M.o,hk⟩ λm2 u=>?_
  ·refine az λkk=>?_
   obtain⟨k1,qg,rfl⟩:=cb.mp hV;obtain⟨v1,gh⟩:=oO qg;have hl2:=I.hok.k2 _ (jD gh);refine kk<|aQ ⟨rfl,?_⟩;refine kU<|aT<|vu (hd:=by rfl) (hc:=by rfl) (p:=k1) rfl (Ic hl2)<|aP (V:=.bytes [o]) g1<|dU (kt (?_));refine az λkk=>?_
   by_cases q:(k1.take 1==[o])=true
   ·refine kk<|dR q<|kU<|aT<|af (.bytes k1)<|aP (V:=.bytes [o,e]) g2<|oZ (kt (?_))
    refine az λkk=>?_;have e1:zw o e (.bytes k1)=(k1 !=[o,e]):=by show(_&&_)=_;(exact aaE q<|aaE (Bool.true_and ..) rfl)
    by_cases q2:(k1 !=[o,e])=true
    ·exact kk<|dR q2<|Bo (k7 rfl (by(exact aaE e1<|aaE q2 rfl)) ⟨g1,g2⟩ (λu=>af (.bytes k1) ⟨rfl,rfl⟩))
    ·exact kk<|bQ (AX.mpr q2)<|(k7 rfl (by(exact aaE e1<|aaE (AX.mpr q2) rfl)) ⟨g1,g2⟩ (λu=>af (.bytes k1) ⟨rfl,rfl⟩))
   ·exact kk<|bQ (AX.mpr q)<|(k7 rfl (by show false=(_&&_);(exact aaE (AX.mpr q)<|aaE (Bool.false_and ..) rfl)) ⟨g1,g2⟩ (λu=>af (.bytes k1) ⟨rfl,rfl⟩))
  ·(refine aaE (dF ..)<|aaE (dF ..) ?_);exact ae (aK (Nat.zero_add _)) (ae b3 (ae hn (lb rfl)))
  refine⟨(aE oo mQ rH),?_⟩
  (refine aaE sZ<|aaE I.put<|aaE (gT ..)<|aaE (List.map_id ..) ?_)
  refine mS<|aD ⟨by exact aaE df<|fZ rfl,OS hu (kt (?_))⟩;refine wG (λbR=>?_) λbR=>?_
  ·refine az λkk=>?_
   obtain⟨one,h1,EG,MD⟩:∃one,one∈H.map (·.1)/\one.take 1=[o]/\one≠[o,e]:=by
    cases hf:((H.map (·.1)).map AV.bytes).filter (zw o e)with
    |nil=>rw[hf]at bR;cases bR
    |cons V l=>
     have hV:V∈((H.map (·.1)).map AV.bytes).filter (zw o e):=by exact aaE hf<|cV
     obtain⟨h1,h2⟩:=xC.mp hV;obtain⟨k1,h3,rfl⟩:=cb.mp h1;have h2:((k1.take 1==[o])&&(k1 !=[o,e]))=true:=h2;rw[mF,cM,qK]at h2;exact(dh k1 h3 h2.1 h2.2)
   obtain⟨v1,gh⟩:=oO h1;have rT:=I.hok.k2 _ (jD gh)
   have Wo:(bu one).take (bu [o]).length=bu [o]:=by
    match one,rT,EG with
    |[x,y],_,EG=>refine aaE (show x=o from by simpa using EG) ?_;exact vJ o y
   have ua:SPre 16 N W t r (bu [o,e]) [] (bu [o]):=⟨I.ht.wf,by decide,I.ht.short,rY,kS _,by decide,I.ka,vJ o e,λu=>.inr (vx (bu one) (by(exact aaE (kT ..)<|aaE rT rfl)) (kS _) (λq=>MD (vw rT rfl q)) Wo (by(refine aaE (I.ht.look _ rT)<|aaE gh ?_);simp))⟩;have hup:=ua.some_ (by intro q;have:=bF List.length q;rw[kT]at this;cases this);obtain⟨t',Aq⟩:=Option.ne_none_iff_exists'.mp hup;have Ar:=I.ht.del (k:=[o,e]) rfl Aq
   have DD:BD.del H [o,e]≠[]:=λq=>by
    have:=Gh (H:=H) (k:=[o,e]) (x:=one);rw[ar MD,gh,q]at this;exact be this
   have pop:∀{Q:AP},(∀V,Q V (σ.set aH (.dict (BD.del H [o,e]))))->fy X A aC (.blt "dict.pop") [.ref aH,.bytes [o,e],.none] σ Q:=λ{Q} hQ=>Ng I.held I.h1 (Ii hn b3) (by
    cases hl:H.lookup [o,e]with
    |some b=>exact hQ _
    |none=>have:=hQ .none;rw[QE hl,I.put]at this;exact this)
   refine kk<|aw<|gD<|fT (aP M.h<|Nn I.held I.h1<|ak<|aP hk<|ak<|jd<|aD ⟨trivial,pop λu=>?_⟩) (by rfl)
   refine aw<|gD<|fT (aP M.s<|f6 hX.toBase5 I.tri1 (by simp[eY])<|ak<|aP hk<|aD ⟨hX.m_delete.keep,bc (Pu hX.toBase5 (n:=16) (c:=60000 - 102 - B) (q:=bu [o]) (by simp) ua
    ⟨I.tri1,I.ok,.refl,by exact zj hB b1,by exact zj hB b2⟩ hz Aq λab N' W' r' De=>?_) hA.mo⟩) (by rfl)
   have d1:=De.n;have d2:=De.m;exact bw<|bw ⟨rfl,rfl,z+1,N',W',BD.del H [o,e],t',r',bC _,I.deed rY (kS _) (vJ o e) I.hok.del DD Ar De,⟨by exact zg d1,by exact zg d2,ae Rm (HV b3)⟩⟩
  ·exact bw<|bw ⟨rfl,rfl,z,N,W,H,t,r,gV _,I,⟨by exact Ij b1,by exact Ij b2,by exact HV b3⟩⟩
end
theorem Rp(hV:V=fW o)(h:Q (.bool false) σ):cU X A aC (compareOp .NotEq) (fW o) V σ Q:=by
 subst hV
 cases o with
 |none=>exact OR h
 |some b=>exact oZ (by refine aaE (show(b !=b)=false from by simp) ?_;exact h)
theorem Ru:(match o with|some b=>AV.bytes b|none=>.none)=fW o:=by cases o<;>rfl
theorem Lm.same{m m':Mp}{f aH a:Addr}{cs:List Int}{o:UInt8}(M:Lm m f aH a cs o)(h:∀x:Str,x≠"cell"->x≠"key"->m' x=m x):Lm m' f aH a cs o:=
 ⟨(h _ (aI rfl) (aI rfl)).trans M.f,(h _ (aI rfl) (aI rfl)).trans M.h,(h _ (aI rfl) (aI rfl)).trans M.c,(h _ (aI rfl) (aI rfl)).trans M.o,(h _ (aI rfl) (aI rfl)).trans M.s⟩
section
variable {X:Cx} {A:Around} {pm:Value} {L:Addr} {m:Mp} {σ:St} (hX:Base8 X)
include hX
theorem Sl(hA:Room A 60)(I:Lw z σ a dx f d aW aH r N W H t q)(M:Lm m f aH a cs o)(b:Nx B n N W H)(hB:B<=40000)(hn:n<=8):
  Ex X A aC (bg L (LE pm L)) (LE pm L) m (pX 2) σ λF m' ab=>F=.next/\m'=m/\∃N',Lw z ab a dx f d aW aH r N' W H t q/\N'.length<=B+200:=by
 refine az λkk=>?_;have b1:=b.n;have b3:=b.h;refine sO I.tri.i λli II i1 i2 i3 i4 i5=>?_
 refine kk<|bp<|aT<|yF (hd:=by rfl) (hc:=by rfl) (xv:="small") hX.toBase4 II M.s (by simp[atts]) i4 (λy y r=>Gg r)<|bz<|aV<|eg hX.g_tree<|ak<|aP M.h<|ak<|aP M.f<|aD ⟨GF hX.toBase7,
  bc (Hw hX.toBase7 I.tri.nm I.ok.W I.held I.h1 I.hok I.ne (ae b3 hn) (c:=50000 - 200 - B) (cx (c:=50000 - 200) (d:=200) (ae hB (lb rfl)) b1) I.hd λt2 h2 dT ab N' D' e1 e2 e3 e4 e5 e6 e7 e8 e9 e10 aR=>du aR λLf e11=>aY<|Bs (i:=0) (by simp) rfl<|oZ (kt (?_))) hA.mo⟩
 have et:=e3.unique I.ht;subst et;have eh:=(I.nm.mono e8).fn e11.named;clear aR e11;subst eh
 exact bQ (c:=(r !=r)) (by simp)<|bw (pn rfl rfl N' ⟨I.tri.re e5 e4 I.tri.nm.dict (jf I.tri.ne),by refine aaE (e4 aH (by rw[I.held];simp) I.hd) ?_;exact I.held,I.h1,I.hd,I.hW,⟨e7.W,λh x e=>e8 _ _ (I.ok.d h x e)⟩,I.hok,I.ne,I.ht,I.ka.mono e8 (BD.Sub.refl W),I.nm.mono e8,by
  obtain⟨ps,e⟩:=I.tb
  exact⟨ps,by refine aaE (e4 447 (by rw[e];simp) λq=>by rw[q,I.tri.nm.dict]at e;cases e) ?_;exact e⟩⟩ (LI (c:=50000 - 200) e9))
theorem Sk(hA:Room A 60)(I:Lw z σ a dx f d aW aH r N W H t (bu [o]))(M:Lm m f aH a cs o)(hk:m "key"=some (.bytes [o,e])):
  Ex X A aC (bg L (LE pm L)) (LE pm L) m (pX 3) σ λF m' ab=>F=.next/\m'=m/\ab=σ:=by
 refine bp<|aT<|aV<|eg hX.g_told<|ak<|aP M.s<|ak<|aP hk<|aD ⟨BI hX.toBase6,bc (B9 hX.toBase6 I.tri I.ok.W.ok I.ok.d (n:=16) I.ht.wf (by decide) I.ht.short (by simp) I.nm (BJ I.ht I.ka (e:=[e]) rfl)
  <|fT (aP M.h<|Bf I.held I.h1<|ak<|aP hk<|ak<|jd<|aD ⟨trivial,Bc I.held I.h1<|Rp Ru (kt (bw ⟨rfl,rfl,rfl⟩))⟩) rfl) hA.mo⟩
theorem Rr(hA:Room A 60)(I:Lw 3 σ a dx f d aW aH r N W H t (bu [o]))(M:Lm m f aH a cs o)(h7:cs.length=7)(b:Nx 2000 4 N W H):
  Ex X A aC (bg L (LE pm L)) (LE pm L) m (eA 11) σ λF m' ab=>F=.next/\Lm m' f aH a cs o/\∃z N W H t r,Lw z ab a dx f d aW aH r N W H t (bu [o]):=by
 have hc:∀{α:Type} (l:List α),eM (some (5:Int)) none l=l.drop 5:=λl=>iK 5;refine yL (k:=60) hA<|g7<|bz<|aP M.c<|ee<|aY (ki (o3 (by exact aaE (dF ..)<|Dd h7)<|mN ?_))
 (refine aaE (hc ..)<|aaE (aq List.map_drop) ?_)
 refine vI 2 (λdone m' ab=>(∀x:Str,x≠"cell"->x≠"key"->m' x=m x)/\∃z N W H t r,z<=3+done.length/\Lw z ab a dx f d aW aH r N W H t (bu [o])/\Nx (2000+400*done.length) (4+done.length) N W H) _ [] m σ ⟨λy y y=>rfl,3,N,W,H,t,r,bC _,I,b⟩ (by simp;exact ae (aK h7) (lb rfl)) (λV hV done m1 eX cG ba=>FG ba λi1 z1 N1 W1 H1 t1 r1 i2 I1 b1=>?_)
  λm1 eX bh=>FG bh λi1 z1 N1 W1 H1 t1 r1 i2 I1 b1=>⟨rfl,M.same i1,z1,N1,W1,H1,t1,r1,I1⟩
 refine ax (cb.mp hV) λc y iV=>?_;subst iV;have M1:Lm (m1.upd "cell" (.int c)) f aH a cs o:=M.same λx h1 h2=>(fa h1).trans (i1 x h1 h2);refine aQ<|aw (st:=pX 0)<|(Si hX hA.mo M1 rfl).mono λF m2 eK bN=>Ik bN λe1 e2 e e3=>?_;clear ba bN;subst e1 e2 e3;have u:∀x:Str,x≠"cell"->x≠"key"->((m1.upd "cell" (.int c)).upd "key" (.bytes [o,e])) x=m x:=λx h1 h2=>(fa h2).trans ((fa h1).trans (i1 x h1 h2));have M2:=M.same u;have c1:((m1.upd "cell" (.int c)).upd "key" (.bytes [o,e])) "cell"=some (.int c):=(fa (by decide)).trans (by rfl);refine aw (st:=pX 1)<|(Sj hX hA I1 M2 c1 rfl b1 (ae (cK (ia 400 (dS cG)) 2000) (lb rfl)) (ae (cK (dS cG) 4) (lb rfl)) (ae i2 (ae (cK (dS cG) 3) (lb rfl)))).mono λF m3 qh cI=>NB cI λe1 e2 z2 N2 W2 H2 t2 r2 Eo I2 b2=>?_;clear cI;subst e1 e2;refine aw (st:=pX 2)<|(Sl hX hA I2 M2 b2 (ae (dD (cK (ia 400 (dS cG)) 2000) 102) (lb rfl)) (ae (fF (cK (dS cG) 4)) (lb rfl))).mono λF m4 um c5=>jF c5 λe1 e2 N3 I3 b3=>?_;subst e1 e2;refine aw (st:=pX 3)<|(Sk hX hA I3 M2 rfl).mono λF m5 rZ dY=>ei dY λe1 e2 e3=>?_;clear c5 dY;subst e1 e2 e3;have:=b2.h;have hl:(done++[AV.int c]).length=done.length+1:=by refine aaE cw ?_;rfl
 exact bw ⟨rfl,trivial,u,z2,N3,W2,H2,t2,r2,by exact aaE hl<|(ae Eo (fF i2)),I3,⟨by exact aaE hl<|(ae b3 (ae (aK (kO (2000+400*_) 102 200)) (ae (cK (lb rfl) _) (aK (kO 2000 (400*_) 400))))),by exact aaE hl<|ae b2.w (ae (aK (kO 2000 _ 102)) (cK (cK (lb rfl) _) _)),by exact aaE hl<|(this)⟩⟩
theorem Rt(hA:Room A 1)(M:Lm m f aH a cs o):
  Ex X A aC (bg L (LE pm L)) (LE pm L) m (eA 12) σ λF m' ab=>F=.next/\ab=σ/\m'=m.upd "last" (.bytes [o,255]):=
 bE<|bK<|aP M.o<|bz<|aV<|eg hX.g_ends<|aD ⟨yp hX,bc (yH hX.toBase7<|aY<|jx (i:=3) (by decide) rfl<|f5 (by simp)<|aQ ⟨rfl,rfl,rfl⟩) hA⟩
theorem Rq(hA:Room A 60)(I:Lw z σ a dx f d aW aH r N W H t (bu [o]))(M:Lm m f aH a cs o)(hl:m "last"=some (.bytes [o,255])):
  Ex X A aC (bg L (LE pm L)) (LE pm L) m (eA 13) σ λF m' ab=>F=.ret (.bool true)/\ab=σ:=by
 refine cD<|RA<|yK<|GG hX hA.mo I M<|GH hX hA.mo I M (Qr (by have:=hA.units;exact H9 this)<|sh ?_) λC=>⟨_,by rfl⟩
 refine dR rfl<|Ol<|yK<|fT (aP M.s<|f6 hX.toBase5 I.tri (by simp[eY])<|ak<|aP hl<|aD ⟨hX.m_exists.keep,bc (Pw hX.toBase5 I.tri I.ok.W.ok I.ok.d (n:=16) I.ht.wf (by decide) I.ht.short (by simp) I.nm (BJ I.ht I.ka (e:=[255]) rfl)
  <|yK<|aP hl<|aP M.h<|qJ I.held I.h1<|Oo ?_) hA.mo⟩) (by rfl)
 rw[show((H.lookup ([o]++[255])).isSome==(H.lookup [o,255]).isSome)=true from by rw[cM];rfl];exact⟨rfl,rfl⟩
end
theorem ExJ.mono{X:Cx}{A:Around}{P:Pv}{env:Env}{m:Mp}{σ:St}{st:Stmt}{Q Q':AFl->Mp->St->Prop}(h:ExJ X A P env m st σ Q)(k:∀F m ab,Q F m ab->Q' F m ab):ExJ X A P env m st σ Q':=λg s S F=>
 jb (h g s S F) (λx x zz=>zz.rec λg' Fl m' ab G F' r q=>⟨g',Fl,m',ab,G,F',r,k _ _ _ q⟩) i2
theorem QF{X:Cx}(hX:Base8 X){A:Around}{pm:Value}{L f d:Addr}{σ:St}{sc:List Int}(hz:sc.length<=63)(hA:Room A 240)(bH:A.frames=some [LE pm L])(nmf:NmF σ f d [])(tb:∃ps,σ 447=some (.obj (gH ps))):
  wq X A (bg L (LE pm L)) (LE pm L) ((Mp.nil.upd "script" (.lst (sc.map .int))).upd "name_of" (.ref f)) vO σ λFl y ab=>match Fl with|.ret V=>V=.bool true/\∃ps,ab 447=some (.obj (gH ps))|.next=>AV.none=.bool true/\∃ps,ab 447=some (.obj (gH ps))|_=>False:=by
 refine iC (st:=eA 0) (rest:=vO.drop 1)<|ExJ.of<|(R7 hX).mono λF m1 eX aR=>ei aR λe1 e2 e3=>?_;subst e1 e2 e3;refine iC (st:=eA 1) (rest:=vO.drop 2)<|ExJ.of<|(R5 hX (sc:=sc) rfl rfl hz).mono λF m1 eK ba=>jF ba λe1 e2 cs h7 e3=>?_;subst e1 e2;have mf:m1 "name_of"=some (.ref f):=by refine aaE e3 ?_;rfl
 have mc:m1 "cells"=some (.lst (cs.map .int)):=by refine aaE e3 ?_;rfl
 clear e3;refine iC (st:=eA 2) (rest:=vO.drop 3)<|ExJ.of<|(R6 hX).mono λF m2 eX bh=>sV bh λe1 aH aH0 aH1 e2 e3=>?_;subst e1 e2 e3;have EH:aH≠d:=λe=>by rw[e,nmf.dict]at aH0;exact bZ aH0
 refine iC (st:=eA 3) (rest:=vO.drop 4)<|ExJ.of<|(R8 hX (cs:=cs) (aH:=aH) hA.handled hA.mo ((fa (aI rfl)).trans mc) h7 rfl mQ).mono λF m3 eX bN=>PX bN λe1 i3 H e2 hH bR xl=>?_;subst e1 e2
 have n2:NmF ((eK.set aH (.dict [])).set aH (.dict H)) f d []:=nmf.old λb hb=>by
  have:b≠aH:=λe=>hb (by exact aaE e<|aH0)
  (exact aaE sZ<|aaE (kZ this) rfl)
 have u3:∀x:Str,x≠"cell"->x≠"held"->m3 x=m1 x:=λx h1 h2=>(i3 x h1).trans (fa h2);have mh:m3 "held"=some (.ref aH):=(i3 _ (aI rfl)).trans (by rfl);generalize Ag:(eK.set aH (.dict [])).set aH (.dict H)=qh at n2;have EI:qh aH=some (.dict H):=by exact aaE (aq Ag)<|mQ
 refine iC (st:=eA 4) (rest:=vO.drop 5)<|ExJ.of<|(Sa hX hA.mo mh ((u3 _ (aI rfl) (aI rfl)).trans mf) n2 EI aH1 EH hH bR xl).mono λF m4 um cI=>MY cI λe1 t h dT N D e2 dT0 dT1 ht k4 n4 zp=>pk zp λEJ S hN hD D9=>du D9 λLs hf=>?_;subst e1;have u4:∀x:Str,x≠"root"->x≠"told"->m4 x=m3 x:=λx h1 h2=>by exact aaE e2<|(fa h2).trans (fa h1)
 have mr:m4 "root"=some (.bytes h):=by refine aaE e2 ?_;rfl
 have mt:m4 "told"=some (.ref dT):=by refine aaE e2 ?_;rfl
 clear e2;have LG:um aH=some (.dict H):=by refine aaE (k4 aH (by rw[EI];simp) EH) ?_;exact EI
 have Mx:dT≠d:=λe=>by rw[e,n2.dict]at dT0;exact bZ dT0
 refine iC (st:=eA 5) (rest:=vO.drop 6)<|ExJ.of<|(Sb hX hA.mo ((u4 _ (aI rfl) (aI rfl)).trans ((u3 _ (aI rfl) (aI rfl)).trans mc)) h7).mono λF m5 rZ c5=>Ik c5 λe1 e2 o e3=>?_;subst e1 e2;have u5:∀x:Str,x≠"octet"->m5 x=m4 x:=λx h1=>by exact aaE e3<|fa h1
 have mo:m5 "octet"=some (.bytes [o]):=by refine aaE e3 ?_;rfl
 clear e3;refine iC (st:=eA 6) (rest:=vO.drop 7)<|ExJ.of<|(R9 hX).mono λF m6 σ6 dY=>sV dY λe1 aW aW0 aW1 e2 e3=>?_;subst e1 e2;have u6:∀x:Str,x≠"witness"->m6 x=m5 x:=λx h1=>by exact aaE e3<|fa h1
 have mw:m6 "witness"=some (.ref aW):=by refine aaE e3 ?_;rfl
 clear e3;have EK:aW≠d:=λe=>by rw[e,n4.dict]at aW0;exact bZ aW0
 have EL:aW≠dT:=λe=>by rw[e,EJ]at aW0;exact bZ aW0
 have ME:aW≠aH:=λe=>by rw[e,LG]at aW0;exact bZ aW0
 have n6:NmF (rZ.set aW (.dict [])) f d N:=n4.old λb hb=>kZ λe=>hb (by exact aaE e<|aW0);have w6:∀x:Str,x≠"witness"->x≠"octet"->m6 x=m4 x:=λx a b=>(u6 x a).trans (u5 x b);have w63:∀x:Str,x≠"witness"->x≠"octet"->x≠"root"->x≠"told"->m6 x=m3 x:=λx a b c d=>(w6 x a b).trans (u4 x c d);have mf6:=(w63 _ (aI rfl) (aI rfl) (aI rfl) (aI rfl)).trans ((u3 _ (aI rfl) (aI rfl)).trans mf);refine iC (st:=eA 7) (rest:=vO.drop 8)<|ExJ.mono (Sd hX hA.mo ((w6 _ (aI rfl) (aI rfl)).trans mt) ((w6 _ (aI rfl) (aI rfl)).trans mr) ((u6 _ (aI rfl)).trans mo) mf6 mw n6 (by exact aaE (kZ (jf EL))<|EJ) dT1 mQ aW1 EK EL S ht xl (Ih hN) hf) λF m7 σ7 iV=>jF iV λe1 u7 W e2 wi=>?_;subst e1 e2
 have Ap:W.length<=2000:=by
  have h1:=wi.sz;have h2:=FT (N:=N) (q:=bu [o]) ht;exact ae h1 (ae h2 (ae (ia 289 xl) (lb rfl)))
 have n7:NmF ((rZ.set aW (.dict [])).set aW (.dict W)) f d N:=n6.one mQ EK;rw[sZ]at n7 ⊢;have u76:=u7;refine iC (st:=eA 8) (rest:=vO.drop 9)<|ExJ.of<|(Sf hX hA.mo ((u7 _ (aI rfl)).trans ((w6 _ (aI rfl) (aI rfl)).trans mr)) ((u7 _ (aI rfl)).trans mf6) ((u7 _ (aI rfl)).trans mw) n7 mQ aW1 EK).mono λF m8 Au jl=>O1 jl λe1 a dx e2 a0 dx0 k8 T8=>?_;refine aaE e1 ?_;have u8:∀x:Str,x≠"small"->m8 x=m7 x:=λx h1=>by exact aaE e2<|fa h1
 have ms:m8 "small"=some (.ref a):=by refine aaE e2 ?_;rfl
 clear e2;have w8:∀x:Str,x≠"small"->x≠"node"->m8 x=m6 x:=λx a b=>(u8 x a).trans (u7 x b);have EM:(rZ.set aW (.dict W)) aH=some (.dict H):=by exact aaE (kZ (jf ME))<|LG
 have EN:(rZ.set aW (.dict W)) dT=some (.dict D):=by exact aaE (kZ (jf EL))<|EJ
 have h8:Au aH=some (.dict H):=by
  refine aaE (k8 aH (λe=>by rw[←e,EM]at a0;exact bZ a0) (λe=>by rw[←e,EM]at dx0;exact bZ dx0)) ?_;exact EM
 have t8:Au dT=some (.dict D):=by
  refine aaE (k8 dT (λe=>by rw[←e,EN]at a0;exact bZ a0) (λe=>by rw[←e,EN]at dx0;exact bZ dx0)) ?_;exact EN
 have tb8:∃ps,Au 447=some (.obj (gH ps)):=by
  obtain⟨ps,e0⟩:=tb
  have e3:qh 447=some (.obj (gH ps)):=by
   (refine aaE (aq Ag)<|aaE sZ<|aaE (kZ λq=>by rw[←q,e0]at aH0;cases aH0) ?_);exact e0
  have e4:rZ 447=some (.obj (gH ps)):=by
   refine aaE (k4 447 (by rw[e3];simp) λq=>by have:=n2.dict;rw[←q,e3]at this;cases this) ?_;exact e3
  have e7:(rZ.set aW (.dict W)) 447=some (.obj (gH ps)):=by
   refine aaE (kZ λq=>by rw[←q,e4]at aW0;cases aW0) ?_;exact e4
  exact⟨ps,by refine aaE (k8 447 (λq=>by rw[←q,e7]at a0;exact bZ a0) λq=>by rw[←q,e7]at dx0;cases dx0) ?_;exact e7⟩
 have I:Lw 3 Au a dx f d aW aH h N W H t (bu [o]):=⟨T8,h8,aH1,EH,jf ME,⟨S.W,wi.ok⟩,hH,bR,ht,λp' hp hb hq=>y5 ht.wf hf.named hp (by refine aaE (kT ..) ?_;simp) hq wi.all,hf.named,tb8⟩
 have M:Lm m8 f aH a cs o:=⟨(w8 _ (aI rfl) (aI rfl)).trans mf6,(w8 _ (aI rfl) (aI rfl)).trans ((w63 _ (aI rfl) (aI rfl) (aI rfl) (aI rfl)).trans mh),
  (w8 _ (aI rfl) (aI rfl)).trans ((w63 _ (aI rfl) (aI rfl) (aI rfl) (aI rfl)).trans ((u3 _ (aI rfl) (aI rfl)).trans mc)),(w8 _ (aI rfl) (aI rfl)).trans ((u6 _ (aI rfl)).trans mo),ms⟩
 refine iC (st:=eA 9) (rest:=vO.drop 10)<|ExJ.of<|(Sg hX hA.mo bH I M ((w8 _ (aI rfl) (aI rfl)).trans mw) ((w8 _ (aI rfl) (aI rfl)).trans ((w6 _ (aI rfl) (aI rfl)).trans mt)) xl t8 dT1 aW1 (Ih hN) (ae hD (lb rfl)) wi (ae Ap (lb rfl)) hf).mono λF m9 σ9 jL=>ei jL λe1 e2 u9=>?_;subst e1 e2;have M9:Lm m9 f aH a cs o:=⟨(u9 _ (aI rfl) (aI rfl)).trans M.f,(u9 _ (aI rfl) (aI rfl)).trans M.h,(u9 _ (aI rfl) (aI rfl)).trans M.c,(u9 _ (aI rfl) (aI rfl)).trans M.o,(u9 _ (aI rfl) (aI rfl)).trans M.s⟩;refine iC (st:=eA 10) (rest:=vO.drop 11)<|ExJ.of<|(Rk hX hA.mo I M9).mono λF m10 aar jM=>ei jM λe1 e2 e3=>?_;clear u9 k8 T8 jl h8 t8 tb8 jL jM;subst e1 e2 e3;refine iC (st:=eA 11) (rest:=vO.drop 12)<|ExJ.of<|(Rr hX hA.mo I M9 h7 ⟨by exact ae hN (lb rfl),by exact Ap,xl⟩).mono λF m11 aas jN=>Oi jN λe1 M11 z N1 W1 H1 t1 r1 I11=>?_;refine aaE e1<|iC (st:=eA 12) (rest:=vO.drop 13)<|ExJ.of<|(Rt hX hA.mo M11).mono λF m12 aat jj=>ei jj λe1 e2 e3=>?_;subst e1 e2;have M12:Lm m12 f aH a cs o:=by exact aaE e3<|⟨(fa (aI rfl)).trans M11.f,(fa (aI rfl)).trans M11.h,(fa (aI rfl)).trans M11.c,(fa (aI rfl)).trans M11.o,(fa (aI rfl)).trans M11.s⟩
 refine iC (st:=eA 13) (rest:=[])<|ExJ.of<|(Rq hX hA.mo I11 M12 (by refine aaE e3 ?_;rfl)).mono λF m13 aau zL=>bY zL λe1 e2=>?_;clear jN jj zL;subst e1 e2;exact⟨rfl,I11.tb⟩
noncomputable def en(P:Params)(x:Str)(t:Nat)(v:Value):DictEntry:=⟨PyData.keyHash P x,.str x t,v⟩
noncomputable def YA(st:Stmt)(q:Str):FuncData:={ip st q .none .none .none with globals:=0}
noncomputable abbrev Lf(o:Obj):BT:=.node o .nil .nil
noncomputable abbrev Nd:=BT.node
noncomputable def cO(n q:Str)(t:Nat)(l k fl:Int)(a:Nat)(b:Bool)(u:Nat)(w x y z:Value):Obj:=⟨.type "code",none,.fields #[.str n t,.str q (t+1),.str "/claim/cut.py" (t+2),.int l 0,.int k 0,.int 0 0,.int 0 0,.int fl 0,.ref a,.bool b,.int 181 0,.ref (a+1),w,x,y,z,.int u 0,.int l 0,.str "/claim/cut.py" (u+1)],#[]⟩
noncomputable def cN(n q:Str)(t:Nat)(l k fl:Int)(a:Nat)(b:Bool)(u:Nat):Obj:=cO n q t l k fl a b u .none .none .none .none
noncomputable def cT(n q:Str)(t:Nat)(l k fl:Int)(a:Nat)(b:Bool)(u:Nat):Obj:=cO n q t l k fl a b u .none .none .none (.ref (a+2))
noncomputable def cS(n q:Str)(t:Nat)(l k fl:Int)(a:Nat)(b:Bool)(u:Nat):Obj:=cO n q t l k fl a b u .none (.ref (a+2)) (.ref (a+3)) (.ref (a+4))
noncomputable def fO(st:Stmt)(q:Str)(c:Nat)(m d:Value):Obj:=⟨.type "function",none,.func (ip st q (.ref c) m d),#[]⟩
noncomputable def pO(st:Stmt)(q:Str):Obj:=⟨.none,none,.func (YA st q),#[]⟩
noncomputable def nS:Nat->List Str->List Value
 |_,[]=>[]
 |t,x::l=>.str x t::nS (t+1) l
noncomputable def tS(t:Nat)(l:List Str):Obj:=⟨.type "tuple",none,.seq (nS t l).toArray 0,#[]⟩
noncomputable def LY:List (Int×Int×Nat)->List Value
 |[]=>[]
 |(a,b,c)::l=>.int a 0::.int b 0::.ref c::LY l
noncomputable def tO(l:List (Int×Int×Nat)):Obj:=⟨.none,none,.fields (LY l).toArray,#[]⟩
noncomputable def gO(P:Params)(v:Value)(l:List DictEntry)(e:Nat):Obj:=⟨.type "dict",none,.dict (en P "__name__" 165 v::l).toArray e,#[]⟩
noncomputable def gL(P:Params):List DictEntry:=[en P "__doc__" 166 .none,en P "__package__" 167 .none,en P "__loader__" 168 (.builtin "__main__.__loader__#opaque"),en P "__spec__" 169 .none,en P "__annotations__" 170 (.ref 6),en P "__builtins__" 171 (.ref 4),en P "__file__" 173 (.str "/claim/cut.py" 172),en P "__cached__" 174 .none,en P "_wall" 193 (.ref 21),en P "BLANK_HASH" 197 (.bytes #[197,210,70,1,134,247,35,60,146,126,125,178,220,199,3,192,229,0,182,83,202,130,39,59,123,250,216,4,93,133,164,112] 196),en P "EXP" 254 (.ref 39),en P "TWO_BITS" 267 (.ref 60),en P "PREFIX_00" 271 (.bytes #[0,0] 270),en P "PREFIX_100000" 279 (.bytes #[1,0,0,0,0,0] 278),en P "KV_TYPE" 281 (.int 0 280),en P "BRANCH_TYPE" 283 (.int 1 282),en P "LEAF_TYPE" 285 (.int 2 284),en P "BINARY_TRIE_NODE_TYPES" 289 (.ref 71),en P "KV_TYPE_PREFIX" 292 (.bytes #[0] 291),en P "BRANCH_TYPE_PREFIX" 295 (.bytes #[1] 294),en P "LEAF_TYPE_PREFIX" 298 (.bytes #[2] 297),en P "BYTE_1" 301 (.bytes #[1] 300),en P "BYTE_0" 304 (.bytes #[0] 303),en P "InvalidNode" 326 (.ref 106),en P "ValidationError" 346 (.ref 119),en P "NodeOverrideError" 366 (.ref 132),en P "InvalidKeyError" 386 (.ref 145),en P "partition_all" 394 (.ref 153),en P "decode_from_bin" 403 (.ref 160),en P "_decode_from_bin" 411 (.ref 167),en P "encode_to_bin" 417 (.ref 172),en P "_encode_to_bin" 426 (.ref 179),en P "encode_from_bin_keypath" 435 (.ref 186),en P "decode_to_bin_keypath" 443 (.ref 193),en P "validate_is_bytes" 452 (.ref 200),en P "validate_length" 460 (.ref 207),en P "validate_is_bin_node" 467 (.ref 214),en P "get_common_prefix_length" 480 (.ref 221),en P "parse_node" 487 (.ref 228),en P "encode_kv_node" 495 (.ref 235),en P "encode_branch_node" 503 (.ref 242),en P "encode_leaf_node" 510 (.ref 249),en P "get_trie_nodes" 520 (.ref 256),en P "_get_trie_nodes" 532 (.ref 263),en P "get_witness_for_key_prefix" 541 (.ref 270),en P "_get_witness_for_key_prefix" 554 (.ref 277),en P "BinaryTrie" 748 (.ref 404),en P "_law_keys" 759 (.ref 409),en P "_law_octets" 765 (.ref 416),en P "_law_ends" 771 (.ref 423),en P "_law_path" 777 (.ref 428),en P "_law_node" 783 (.ref 433),en P "_law_tree" 789 (.ref 438),en P "_law_told" 797 (.ref 445),en P "law" 803 (.ref 450)]
noncomputable def tL:List (Int×Int×Nat):=[(1,0,20),(6,27,26),(20,0,102),(22,0,115),(24,0,128),(26,0,141),(29,0,152),(32,0,159),(34,0,166),(37,0,171),(39,0,178),(46,0,185),(53,0,192),(61,0,199),(64,0,206),(67,0,213),(73,0,220),(78,0,227),(95,0,234),(102,0,241),(108,0,248),(114,0,255),(116,0,262),(133,0,269),(136,0,276),(166,0,283),(325,0,415),(327,0,422),(329,0,427),(334,0,432),(348,0,437),(354,0,444),(359,0,449)]
noncomputable def Yz:Value:=.str "__main__" 164
noncomputable def YB:Value:=.str "trie.others" 387
noncomputable def t4:Value:=.str "trie.utils.binaries" 395
noncomputable def DY:Value:=.str "trie.validation" 444
noncomputable def wK:Value:=.str "trie.utils.nodes" 468
noncomputable def zX:Value:=.str "trie.branches" 511
noncomputable def iT:Value:=.str "trie.binary" 555
noncomputable def rz:Value:=.str "law_bc0033_01" 749
noncomputable def o2(P:Params):Obj:=⟨.none,none,.dict #[en P "type.__subclasses__.Exception.0" 323 (.int 106 0),en P "type.__subclasses__.Exception.n" 324 (.int 4 0),en P "type.__subclasses__.Exception.1" 343 (.int 119 0),en P "type.__subclasses__.Exception.2" 363 (.int 132 0),en P "type.__subclasses__.Exception.3" 383 (.int 145 0)] 5,#[]⟩
noncomputable def tM(P:Params):Obj:=gO P (.str "law_bc0033_01" 749) (gL P) 56
noncomputable def a9:Obj:=⟨.type "tuple",none,.seq #[] 0,#[]⟩
noncomputable def cF:Obj:=tO []
noncomputable def IE:Obj:=tO (tL.take 2)
noncomputable def LS:Obj:=⟨.type "tuple",none,.seq #[.int 128 240,.int 64 236,.int 32 232,.int 16 228,.int 8 224,.int 4 220,.int 2 216,.int 1 212] 0,#[]⟩
noncomputable def wM:Obj:=⟨.type "list_iterator",none,.fields #[.none,.int 2 0],#[]⟩
noncomputable def LW:Obj:=⟨.type "bytearray",none,.bytearray #[0,0] 0,#[]⟩
noncomputable def DX:Obj:=⟨.type "list",none,.seq #[.bytes #[0,0] 257,.bytes #[0,1] 260,.bytes #[1,0] 263,.bytes #[1,1] 266] 0,#[]⟩
noncomputable def LV:Obj:=⟨.type "tuple",none,.seq #[.int 0 286,.int 1 287,.int 2 288] 0,#[]⟩
noncomputable def wL:Obj:=⟨.type "list_iterator",none,.fields #[.none,.int 1 0],#[]⟩
noncomputable def LX:Obj:=⟨.type "bytearray",none,.bytearray #[0] 0,#[]⟩
noncomputable def LU:Obj:=⟨.type "bytearray",none,.bytearray #[1] 0,#[]⟩
noncomputable def zY:Obj:=⟨.type "tuple",none,.seq #[.type "Exception"] 0,#[]⟩
noncomputable def wN:Obj:=⟨.type "builtin_function_or_method",none,.fields #[.builtin "type.__prepare__",.type "type"],#[]⟩
noncomputable def Ky:Obj:=cT "partition_all" "partition_all" 389 29 2 3 149 true 392
noncomputable def Kx:Obj:=fO (bD 22) "partition_all" 152 YB .none
noncomputable def KJ:Obj:=cS "decode_from_bin" "decode_from_bin" 397 32 1 3 154 true 401
noncomputable def KX:Obj:=fO (bD 24) "decode_from_bin" 159 t4 .none
noncomputable def rj:Obj:=cS "_decode_from_bin" "_decode_from_bin" 404 34 1 35 161 true 409
noncomputable def Kw:Obj:=fO (bD 25) "_decode_from_bin" 166 t4 .none
noncomputable def La:Obj:=cT "encode_to_bin" "encode_to_bin" 412 37 1 3 168 true 415
noncomputable def Kt:Obj:=fO (bD 26) "encode_to_bin" 171 t4 .none
noncomputable def J0:Obj:=cS "_encode_to_bin" "_encode_to_bin" 418 39 1 35 173 true 424
noncomputable def Kq:Obj:=fO (bD 27) "_encode_to_bin" 178 t4 .none
noncomputable def KL:Obj:=cS "encode_from_bin_keypath" "encode_from_bin_keypath" 427 46 1 3 180 true 433
noncomputable def Kj:Obj:=fO (bD 28) "encode_from_bin_keypath" 185 t4 .none
noncomputable def Kk:Obj:=cS "decode_to_bin_keypath" "decode_to_bin_keypath" 436 53 1 3 187 true 441
noncomputable def Kb:Obj:=fO (bD 29) "decode_to_bin_keypath" 192 t4 .none
noncomputable def KH:Obj:=cS "validate_is_bytes" "validate_is_bytes" 446 61 1 3 194 true 450
noncomputable def Kv:Obj:=fO (bD 31) "validate_is_bytes" 199 DY .none
noncomputable def Lb:Obj:=cS "validate_length" "validate_length" 453 64 2 3 201 true 458
noncomputable def J8:Obj:=fO (bD 32) "validate_length" 206 DY .none
noncomputable def KI:Obj:=cS "validate_is_bin_node" "validate_is_bin_node" 461 67 1 3 208 true 465
noncomputable def K7:Obj:=fO (bD 33) "validate_is_bin_node" 213 DY .none
noncomputable def Kc:Obj:=cS "get_common_prefix_length" "get_common_prefix_length" 470 73 2 3 215 true 478
noncomputable def K3:Obj:=fO (bD 35) "get_common_prefix_length" 220 wK .none
noncomputable def KE:Obj:=cS "parse_node" "parse_node" 481 78 1 3 222 true 485
noncomputable def Kl:Obj:=fO (bD 36) "parse_node" 227 wK .none
noncomputable def J6:Obj:=cS "encode_kv_node" "encode_kv_node" 488 95 2 3 229 true 493
noncomputable def KV:Obj:=fO (bD 37) "encode_kv_node" 234 wK .none
noncomputable def Ko:Obj:=cS "encode_branch_node" "encode_branch_node" 496 102 2 3 236 true 501
noncomputable def Lh:Obj:=fO (bD 38) "encode_branch_node" 241 wK .none
noncomputable def K5:Obj:=cS "encode_leaf_node" "encode_leaf_node" 504 108 1 3 243 true 508
noncomputable def Ki:Obj:=fO (bD 39) "encode_leaf_node" 248 wK .none
noncomputable def KG:Obj:=cS "get_trie_nodes" "get_trie_nodes" 513 114 2 3 250 true 518
noncomputable def Lc:Obj:=fO (bD 41) "get_trie_nodes" 255 zX .none
noncomputable def Ku:Obj:=cS "_get_trie_nodes" "_get_trie_nodes" 521 116 2 35 257 true 530
noncomputable def KQ:Obj:=fO (bD 42) "_get_trie_nodes" 262 zX .none
noncomputable def KR:Obj:=cS "get_witness_for_key_prefix" "get_witness_for_key_prefix" 533 133 3 3 264 true 539
noncomputable def K0:Obj:=fO (bD 43) "get_witness_for_key_prefix" 269 zX .none
noncomputable def Kn:Obj:=cS "_get_witness_for_key_prefix" "_get_witness_for_key_prefix" 542 136 3 35 271 true 552
noncomputable def J9:Obj:=fO (bD 44) "_get_witness_for_key_prefix" 276 zX .none
noncomputable def K8:Obj:=⟨.type "tuple",none,.seq #[.bytes #[197,210,70,1,134,247,35,60,146,126,125,178,220,199,3,192,229,0,182,83,202,130,39,59,123,250,216,4,93,133,164,112] 196] 0,#[]⟩
noncomputable def Ka:Obj:=cS "__init__" "BinaryTrie.__init__" 569 168 4 3 286 true 576
noncomputable def Ke:Obj:=fO (cY 0) "BinaryTrie.__init__" 291 iT (.ref 285)
noncomputable def KW:Obj:=cS "get" "BinaryTrie.get" 579 174 2 3 293 true 584
noncomputable def JX:Obj:=fO (cY 1) "BinaryTrie.get" 298 iT .none
noncomputable def K4:Obj:=cS "_get" "BinaryTrie._get" 587 178 3 3 300 true 596
noncomputable def K2:Obj:=fO (cY 2) "BinaryTrie._get" 305 iT .none
noncomputable def JY:Obj:=cS "set" "BinaryTrie.set" 599 202 3 3 307 true 605
noncomputable def J7:Obj:=fO (cY 3) "BinaryTrie.set" 312 iT .none
noncomputable def tK:Obj:=⟨.type "tuple",none,.seq #[.bool false] 0,#[]⟩
noncomputable def Kz:Obj:=cS "_set" "BinaryTrie._set" 608 207 5 3 315 true 619
noncomputable def Ld:Obj:=fO (cY 4) "BinaryTrie._set" 320 iT (.ref 314)
noncomputable def Kd:Obj:=cS "_set_kv_node" "BinaryTrie._set_kv_node" 622 236 8 3 323 true 641
noncomputable def KN:Obj:=fO (cY 5) "BinaryTrie._set_kv_node" 328 iT (.ref 322)
noncomputable def KC:Obj:=cS "_set_branch_node" "BinaryTrie._set_branch_node" 644 272 7 3 331 true 660
noncomputable def JZ:Obj:=fO (cY 6) "BinaryTrie._set_branch_node" 336 iT (.ref 330)
noncomputable def J3:Obj:=cS "exists" "BinaryTrie.exists" 663 290 2 3 338 true 668
noncomputable def Ks:Obj:=fO (cY 7) "BinaryTrie.exists" 343 iT .none
noncomputable def KZ:Obj:=cS "delete" "BinaryTrie.delete" 671 294 2 3 345 true 676
noncomputable def J5:Obj:=fO (cY 8) "BinaryTrie.delete" 350 iT .none
noncomputable def KO:Obj:=cS "_hash_and_save" "BinaryTrie._hash_and_save" 695 305 2 3 367 true 702
noncomputable def KS:Obj:=fO (cY 11) "BinaryTrie._hash_and_save" 372 iT .none
noncomputable def JV:Obj:=⟨.type "list",none,.seq #[.bytes #[65,0] 751,.bytes #[65,1] 752,.bytes #[65,128] 753,.bytes #[65,255] 754,.bytes #[64,1] 755,.bytes #[97,1] 756,.bytes #[193,0] 757,.bytes #[193,1] 758] 0,#[]⟩
noncomputable def Kh:Obj:=cS "_law_octets" "_law_octets" 760 325 0 3 410 true 763
noncomputable def KD:Obj:=fO (bD 49) "_law_octets" 415 rz .none
noncomputable def Km:Obj:=cS "_law_ends" "_law_ends" 766 327 0 3 417 true 769
noncomputable def K9:Obj:=fO (bD 50) "_law_ends" 422 rz .none
noncomputable def JW:Obj:=cT "_law_path" "_law_path" 772 329 1 3 424 true 775
noncomputable def K6:Obj:=fO (bD 51) "_law_path" 427 rz .none
noncomputable def Kp:Obj:=cT "_law_node" "_law_node" 778 334 3 3 429 true 781
noncomputable def Lg:Obj:=fO (bD 52) "_law_node" 432 rz .none
noncomputable def KY:Obj:=cT "_law_tree" "_law_tree" 784 348 2 3 434 true 787
noncomputable def KP:Obj:=fO (bD 53) "_law_tree" 437 rz .none
noncomputable def Kg:Obj:=cS "_law_told" "_law_told" 790 354 2 3 439 true 795
noncomputable def Kr:Obj:=fO (bD 54) "_law_told" 444 rz .none
noncomputable def zx:Obj:=cT "law" "law" 798 359 1 3 446 true 801
noncomputable def J4:Obj:=fO (bD 55) "law" 449 rz .none
noncomputable def bt(l:List Obj)(d:List (Nat×Obj)):BT:=d.foldl (λt x=>t.ins x.1 x.2) (l.zipIdx.foldl (λt x=>t.ins x.2 x.1) .nil)
noncomputable def jJ(P:Params):Heap:=⟨#[(boot_o_0 P),(boot_o_1 P),(o2 P),(tM P),(boot_o_4 P),(boot_o_5 P),(boot_o_6 P),(boot_o_7 P),(boot_o_8 P),(boot_o_9 P),(boot_o_10 P),a9,(tO (tL.take 33)),(cN "<module>" "<module>" 182 1 0 0 11 false 185),⟨.type "frame",none,.plain,#[some (.ref 13),some (.ref 3),some (.ref 3),none,some (.str "__main__" 164),none,some (.ref 0)]⟩,a9,cF,(tS 190 ["k"]),a9,(pO (bD 0) "_wall"),(cS "_wall" "_wall" 187 1 1 3 15 true 191),(fO (bD 0) "_wall" 20 Yz .none),⟨.type "range",none,.fields #[.int 0 199,.int 8 198,.int 1 200],#[]⟩,⟨.type "range_iterator",none,.fields #[.int 8 0,.int 0 0,.int 1 0],#[]⟩,a9,cF,(cN "<genexpr>" "<genexpr>" 201 6 1 35 24 true 204),⟨.type "frame",none,.dict #[en P ".0" 206 (.ref 23),en P "i" 210 (.int 7 237)] 2,#[]⟩,⟨.type "generator",none,.fields #[.int 0 0,.str "<genexpr>" 207,.str "<genexpr>" 208],#[]⟩,⟨.type "list",none,.seq #[.int 1 212,.int 2 216,.int 4 220,.int 8 224,.int 16 228,.int 32 232,.int 64 236,.int 128 240] 10,#[]⟩,a9,⟨.type "StopIteration",none,.fields #[.ref 30,.none,.none,.none,.bool false,.none],#[]⟩,a9,⟨.type "StopIteration",none,.fields #[.ref 32,.none,.none,.none,.bool false,.none],#[]⟩,⟨.type "tuple",none,.seq #[.int 1 212,.int 2 216,.int 4 220,.int 8 224,.int 16 228,.int 32 232,.int 64 236,.int 128 240] 0,#[]⟩,⟨.type "reversed",none,.fields #[.none,.int (-1) 0],#[]⟩,⟨.type "list",none,.seq #[.int 128 240,.int 64 236,.int 32 232,.int 16 228,.int 8 224,.int 4 220,.int 2 216,.int 1 212] 10,#[]⟩,a9,⟨.type "StopIteration",none,.fields #[.ref 37,.none,.none,.none,.bool false,.none],#[]⟩,LS,⟨.type "list",none,.seq #[.int 0 255,.int 0 256] 0,#[]⟩,wM,LW,a9,⟨.type "StopIteration",none,.fields #[.ref 43,.none,.none,.none,.bool false,.none],#[]⟩,⟨.type "list",none,.seq #[.int 0 258,.int 1 259] 0,#[]⟩,wM,⟨.type "bytearray",none,.bytearray #[0,1] 0,#[]⟩,a9,⟨.type "StopIteration",none,.fields #[.ref 48,.none,.none,.none,.bool false,.none],#[]⟩,⟨.type "list",none,.seq #[.int 1 261,.int 0 262] 0,#[]⟩,wM,⟨.type "bytearray",none,.bytearray #[1,0] 0,#[]⟩,a9,⟨.type "StopIteration",none,.fields #[.ref 53,.none,.none,.none,.bool false,.none],#[]⟩,⟨.type "list",none,.seq #[.int 1 264,.int 1 265] 0,#[]⟩,wM,⟨.type "bytearray",none,.bytearray #[1,1] 0,#[]⟩,a9,⟨.type "StopIteration",none,.fields #[.ref 58,.none,.none,.none,.bool false,.none],#[]⟩,DX,⟨.type "list",none,.seq #[.int 0 268,.int 0 269] 0,#[]⟩,wM,LW,a9,⟨.type "StopIteration",none,.fields #[.ref 64,.none,.none,.none,.bool false,.none],#[]⟩,⟨.type "list",none,.seq #[.int 1 272,.int 0 273,.int 0 274,.int 0 275,.int 0 276,.int 0 277] 0,#[]⟩,⟨.type "list_iterator",none,.fields #[.none,.int 6 0],#[]⟩,⟨.type "bytearray",none,.bytearray #[1,0,0,0,0,0] 0,#[]⟩,a9,⟨.type "StopIteration",none,.fields #[.ref 69,.none,.none,.none,.bool false,.none],#[]⟩,LV,⟨.type "list",none,.seq #[.int 0 290] 0,#[]⟩,wL,LX,a9,⟨.type "StopIteration",none,.fields #[.ref 75,.none,.none,.none,.bool false,.none],#[]⟩,⟨.type "list",none,.seq #[.int 1 293] 0,#[]⟩,wL,LU,a9,⟨.type "StopIteration",none,.fields #[.ref 80,.none,.none,.none,.bool false,.none],#[]⟩,⟨.type "list",none,.seq #[.int 2 296] 0,#[]⟩,wL,⟨.type "bytearray",none,.bytearray #[2] 0,#[]⟩,a9,⟨.type "StopIteration",none,.fields #[.ref 85,.none,.none,.none,.bool false,.none],#[]⟩,⟨.type "list",none,.seq #[.int 1 299] 0,#[]⟩,wL,LU,a9,⟨.type "StopIteration",none,.fields #[.ref 90,.none,.none,.none,.bool false,.none],#[]⟩,⟨.type "list",none,.seq #[.int 0 302] 0,#[]⟩,wL,LX,a9,⟨.type "StopIteration",none,.fields #[.ref 95,.none,.none,.none,.bool false,.none],#[]⟩,zY,wN,⟨.type "dict",none,.dict #[en P "__module__" 314 (.str "trie.exceptions" 305),en P "__qualname__" 316 (.str "InvalidNode" 315),en P "__firstlineno__" 318 (.int 20 317),en P "__static_attributes__" 319 (.ref 104)] 4,#[]⟩,a9,cF,(cN "InvalidNode" "InvalidNode" 309 20 0 0 100 false 312),⟨.type "frame",none,.plain,#[some (.ref 102),some (.ref 3),some (.ref 99),none,some (.str "trie.exceptions" 305),none,some (.ref 0)]⟩,a9,⟨.type "dict",none,.dict #[en P "__module__" 314 (.str "trie.exceptions" 305),en P "__firstlineno__" 318 (.int 20 317),en P "__static_attributes__" 319 (.ref 104),en P "__weakref__" 321 (.ref 107),en P "__doc__" 322 .none] 3,#[]⟩,⟨.type "type",none,.cls ⟨"InvalidNode",[.type "Exception"],[.ref 106,.type "Exception",.type "BaseException",.type "object"],105,"InvalidNode",true,[],[],false,none,false⟩,#[some (.ref 97),none,some (.str "InvalidNode" 307),some (.str "InvalidNode" 315),some (.builtin "Exception.__new__"),some (.bool true)]⟩,⟨.type "getset_descriptor",none,.fields #[.str "__weakref__" 320,.ref 106,.builtin "ExceptionGroup.__weakref__",.none],#[]⟩,⟨.type "super",none,.fields #[.ref 106,.ref 106,.ref 106],#[]⟩,⟨.type "builtin_function_or_method",none,.fields #[.builtin "object.__init_subclass__",.ref 106],#[]⟩,zY,wN,⟨.type "dict",none,.dict #[en P "__module__" 334 (.str "trie.exceptions" 305),en P "__qualname__" 336 (.str "ValidationError" 335),en P "__firstlineno__" 338 (.int 22 337),en P "__static_attributes__" 339 (.ref 117)] 4,#[]⟩,a9,cF,(cN "ValidationError" "ValidationError" 329 22 0 0 113 false 332),⟨.type "frame",none,.plain,#[some (.ref 115),some (.ref 3),some (.ref 112),none,some (.str "trie.exceptions" 305),none,some (.ref 0)]⟩,a9,⟨.type "dict",none,.dict #[en P "__module__" 334 (.str "trie.exceptions" 305),en P "__firstlineno__" 338 (.int 22 337),en P "__static_attributes__" 339 (.ref 117),en P "__weakref__" 341 (.ref 120),en P "__doc__" 342 .none] 3,#[]⟩,⟨.type "type",none,.cls ⟨"ValidationError",[.type "Exception"],[.ref 119,.type "Exception",.type "BaseException",.type "object"],118,"ValidationError",true,[],[],false,none,false⟩,#[some (.ref 110),none,some (.str "ValidationError" 327),some (.str "ValidationError" 335),some (.builtin "Exception.__new__"),some (.bool true)]⟩,⟨.type "getset_descriptor",none,.fields #[.str "__weakref__" 340,.ref 119,.builtin "ExceptionGroup.__weakref__",.none],#[]⟩,⟨.type "super",none,.fields #[.ref 119,.ref 119,.ref 119],#[]⟩,⟨.type "builtin_function_or_method",none,.fields #[.builtin "object.__init_subclass__",.ref 119],#[]⟩,zY,wN,⟨.type "dict",none,.dict #[en P "__module__" 354 (.str "trie.exceptions" 305),en P "__qualname__" 356 (.str "NodeOverrideError" 355),en P "__firstlineno__" 358 (.int 24 357),en P "__static_attributes__" 359 (.ref 130)] 4,#[]⟩,a9,cF,(cN "NodeOverrideError" "NodeOverrideError" 349 24 0 0 126 false 352),⟨.type "frame",none,.plain,#[some (.ref 128),some (.ref 3),some (.ref 125),none,some (.str "trie.exceptions" 305),none,some (.ref 0)]⟩,a9,⟨.type "dict",none,.dict #[en P "__module__" 354 (.str "trie.exceptions" 305),en P "__firstlineno__" 358 (.int 24 357),en P "__static_attributes__" 359 (.ref 130),en P "__weakref__" 361 (.ref 133),en P "__doc__" 362 .none] 3,#[]⟩,⟨.type "type",none,.cls ⟨"NodeOverrideError",[.type "Exception"],[.ref 132,.type "Exception",.type "BaseException",.type "object"],131,"NodeOverrideError",true,[],[],false,none,false⟩,#[some (.ref 123),none,some (.str "NodeOverrideError" 347),some (.str "NodeOverrideError" 355),some (.builtin "Exception.__new__"),some (.bool true)]⟩,⟨.type "getset_descriptor",none,.fields #[.str "__weakref__" 360,.ref 132,.builtin "ExceptionGroup.__weakref__",.none],#[]⟩,⟨.type "super",none,.fields #[.ref 132,.ref 132,.ref 132],#[]⟩,⟨.type "builtin_function_or_method",none,.fields #[.builtin "object.__init_subclass__",.ref 132],#[]⟩,zY,wN,⟨.type "dict",none,.dict #[en P "__module__" 374 (.str "trie.exceptions" 305),en P "__qualname__" 376 (.str "InvalidKeyError" 375),en P "__firstlineno__" 378 (.int 26 377),en P "__static_attributes__" 379 (.ref 143)] 4,#[]⟩,a9,cF,(cN "InvalidKeyError" "InvalidKeyError" 369 26 0 0 139 false 372),⟨.type "frame",none,.plain,#[some (.ref 141),some (.ref 3),some (.ref 138),none,some (.str "trie.exceptions" 305),none,some (.ref 0)]⟩,a9,⟨.type "dict",none,.dict #[en P "__module__" 374 (.str "trie.exceptions" 305),en P "__firstlineno__" 378 (.int 26 377),en P "__static_attributes__" 379 (.ref 143),en P "__weakref__" 381 (.ref 146),en P "__doc__" 382 .none] 3,#[]⟩,⟨.type "type",none,.cls ⟨"InvalidKeyError",[.type "Exception"],[.ref 145,.type "Exception",.type "BaseException",.type "object"],144,"InvalidKeyError",true,[],[],false,none,false⟩,#[some (.ref 136),none,some (.str "InvalidKeyError" 367),some (.str "InvalidKeyError" 375),some (.builtin "Exception.__new__"),some (.bool true)]⟩,⟨.type "getset_descriptor",none,.fields #[.str "__weakref__" 380,.ref 145,.builtin "ExceptionGroup.__weakref__",.none],#[]⟩,⟨.type "super",none,.fields #[.ref 145,.ref 145,.ref 145],#[]⟩,⟨.type "builtin_function_or_method",none,.fields #[.builtin "object.__init_subclass__",.ref 145],#[]⟩,a9,cF,(pO (bD 22) "partition_all"),Ky,Kx,a9,cF,(tS 400 ["input_bin"]),a9,(pO (bD 24) "decode_from_bin"),KJ,KX,a9,cF,(tS 407 ["input_bin","chunk"]),a9,(pO (bD 25) "_decode_from_bin"),rj,Kw,a9,cF,(pO (bD 26) "encode_to_bin"),La,Kt,a9,cF,(tS 421 ["value","char","exp"]),a9,(pO (bD 27) "_encode_to_bin"),J0,Kq,a9,cF,(tS 430 ["input_bin","padded_bin","prefix"]),a9,(pO (bD 28) "encode_from_bin_keypath"),KL,Kj,a9,cF,(tS 439 ["path","padded_len"]),a9,(pO (bD 29) "decode_to_bin_keypath"),Kk,Kb,a9,cF,(tS 449 ["value"]),a9,(pO (bD 31) "validate_is_bytes"),KH,Kv,a9,cF,(tS 456 ["value","length"]),a9,(pO (bD 32) "validate_length"),Lb,J8,a9,cF,(tS 464 ["node"]),a9,(pO (bD 33) "validate_is_bin_node"),KI,K7,a9,cF,(tS 473 ["left_key","right_key","idx","left_nibble","right_nibble"]),a9,(pO (bD 35) "get_common_prefix_length"),Kc,K3,a9,cF,(tS 484 ["node"]),a9,(pO (bD 36) "parse_node"),KE,Kl,a9,cF,(tS 491 ["keypath","child_node_hash"]),a9,(pO (bD 37) "encode_kv_node"),J6,KV,a9,cF,(tS 499 ["left_child_node_hash","right_child_node_hash"]),a9,(pO (bD 38) "encode_branch_node"),Ko,Lh,a9,cF,(tS 507 ["value"]),a9,(pO (bD 39) "encode_leaf_node"),K5,Ki,a9,cF,(tS 516 ["db","node_hash"]),a9,(pO (bD 41) "get_trie_nodes"),KG,Lc,a9,cF,(tS 524 ["db","node_hash","node","nodetype","left_child","right_child"]),a9,(pO (bD 42) "_get_trie_nodes"),Ku,KQ,a9,cF,(tS 536 ["db","node_hash","key"]),a9,(pO (bD 43) "get_witness_for_key_prefix"),KR,K0,a9,cF,(tS 545 ["db","node_hash","keypath","node","nodetype","left_child","right_child"]),a9,(pO (bD 44) "_get_witness_for_key_prefix"),Kn,J9,a9,wN,⟨.type "dict",none,.dict #[en P "__module__" 564 (.str "trie.binary" 555),en P "__qualname__" 566 (.str "BinaryTrie" 565),en P "__firstlineno__" 568 (.int 166 567),en P "__init__" 578 (.ref 292),en P "get" 586 (.ref 299),en P "_get" 598 (.ref 306),en P "set" 607 (.ref 313),en P "_set" 621 (.ref 321),en P "_set_kv_node" 643 (.ref 329),en P "_set_branch_node" 662 (.ref 337),en P "exists" 670 (.ref 344),en P "delete" 678 (.ref 351),en P "delete_subtrie" 686 (.ref 358),en P "root_node" 694 (.ref 366),en P "_hash_and_save" 704 (.ref 373),en P "__getitem__" 712 (.ref 380),en P "__setitem__" 721 (.ref 387),en P "__delitem__" 729 (.ref 394),en P "__contains__" 737 (.ref 401),en P "__static_attributes__" 741 (.ref 402)] 20,#[]⟩,a9,(tO [(168,4,291),(174,4,298),(178,4,305),(202,4,312),(207,4,320),(236,4,328),(272,4,336),(290,4,343),(294,4,350),(298,4,357),(302,4,364),(305,4,372),(312,4,379),(315,4,386),(318,4,393),(321,4,400)]),(cN "BinaryTrie" "BinaryTrie" 559 166 0 0 281 false 562),⟨.type "frame",none,.plain,#[some (.ref 283),some (.ref 3),some (.ref 280),none,some (.str "trie.binary" 555),none,some (.ref 0)]⟩,K8,a9,cF,(tS 572 ["self","db","hash_of","root_hash"]),a9,(pO (cY 0) "BinaryTrie.__init__"),Ka,Ke,a9,cF,(tS 582 ["self","key"]),a9,(pO (cY 1) "BinaryTrie.get"),KW,JX,a9,cF,(tS 590 ["self","node_hash","keypath","nodetype","left_child","right_child"]),a9,(pO (cY 2) "BinaryTrie._get"),K4,K2,a9,cF,(tS 602 ["self","key","value"]),a9,(pO (cY 3) "BinaryTrie.set"),JY,J7,tK,a9,cF,(tS 611 ["self","node_hash","keypath","value","if_delete_subtrie","nodetype","left_child","right_child"]),a9,(pO (cY 4) "BinaryTrie._set"),Kz,Ld,tK,a9,cF,(tS 625 ["self","keypath","node_hash","node_type","left_child","right_child","value","if_delete_subtrie","subnode_hash","subnodetype","sub_left_child","sub_right_child","common_prefix_len","valnode","oldnode","newsub"]),a9,(pO (cY 5) "BinaryTrie._set_kv_node"),Kd,KN,tK,a9,cF,(tS 647 ["self","keypath","node_type","left_child","right_child","value","if_delete_subtrie","new_left_child","new_right_child","subnodetype","sub_left_child","sub_right_child","first_bit"]),a9,(pO (cY 6) "BinaryTrie._set_branch_node"),KC,JZ,a9,cF,(tS 666 ["self","key"]),a9,(pO (cY 7) "BinaryTrie.exists"),J3,Ks,a9,cF,(tS 674 ["self","key"]),a9,(pO (cY 8) "BinaryTrie.delete"),KZ,J5,a9,cF,(tS 682 ["self","key"]),a9,(pO (cY 9) "BinaryTrie.delete_subtrie"),(cS "delete_subtrie" "BinaryTrie.delete_subtrie" 679 298 2 3 352 true 684),(fO (cY 9) "BinaryTrie.delete_subtrie" 357 iT .none),a9,cF,(tS 690 ["self"]),a9,(pO (cY 10) "BinaryTrie.root_node"),(cS "root_node" "BinaryTrie.root_node" 687 301 1 3 359 true 691),(fO (cY 10) "BinaryTrie.root_node" 364 iT .none),⟨.type "property",none,.fields #[.ref 365,.none,.none,.none,.str "root_node" 694,.bool false],#[]⟩,a9,cF,(tS 698 ["self","node","keccak","node_hash"]),a9,(pO (cY 11) "BinaryTrie._hash_and_save"),KO,KS,a9,cF,(tS 708 ["self","key"]),a9,(pO (cY 12) "BinaryTrie.__getitem__"),(cS "__getitem__" "BinaryTrie.__getitem__" 705 312 2 3 374 true 710),(fO (cY 12) "BinaryTrie.__getitem__" 379 iT .none),a9,cF,(tS 716 ["self","key","value"]),a9,(pO (cY 13) "BinaryTrie.__setitem__"),(cS "__setitem__" "BinaryTrie.__setitem__" 713 315 3 3 381 true 719),(fO (cY 13) "BinaryTrie.__setitem__" 386 iT .none),a9,cF,(tS 725 ["self","key"]),a9,(pO (cY 14) "BinaryTrie.__delitem__"),(cS "__delitem__" "BinaryTrie.__delitem__" 722 318 2 3 388 true 727),(fO (cY 14) "BinaryTrie.__delitem__" 393 iT .none),a9,cF,(tS 733 ["self","key"]),a9,(pO (cY 15) "BinaryTrie.__contains__"),(cS "__contains__" "BinaryTrie.__contains__" 730 321 2 3 395 true 735),(fO (cY 15) "BinaryTrie.__contains__" 400 iT .none),(tS 738 ["db","hash_of","root_hash"]),⟨.type "dict",none,.dict #[en P "__module__" 564 (.str "trie.binary" 555),en P "__firstlineno__" 568 (.int 166 567),en P "__init__" 578 (.ref 292),en P "get" 586 (.ref 299),en P "_get" 598 (.ref 306),en P "set" 607 (.ref 313),en P "_set" 621 (.ref 321),en P "_set_kv_node" 643 (.ref 329),en P "_set_branch_node" 662 (.ref 337),en P "exists" 670 (.ref 344),en P "delete" 678 (.ref 351),en P "delete_subtrie" 686 (.ref 358),en P "root_node" 694 (.ref 366),en P "_hash_and_save" 704 (.ref 373),en P "__getitem__" 712 (.ref 380),en P "__setitem__" 721 (.ref 387),en P "__delitem__" 729 (.ref 394),en P "__contains__" 737 (.ref 401),en P "__static_attributes__" 741 (.ref 402),en P "__dict__" 743 (.ref 405),en P "__weakref__" 745 (.ref 406),en P "__doc__" 746 .none] 4,#[]⟩,⟨.type "type",none,.cls ⟨"BinaryTrie",[.type "object"],[.ref 404,.type "object"],403,"BinaryTrie",true,[],[],false,none,false⟩,#[none,none,some (.str "BinaryTrie" 557),some (.str "BinaryTrie" 565),some (.builtin "object.__new__"),some (.bool true)]⟩,⟨.type "getset_descriptor",none,.fields #[.str "__dict__" 742,.ref 404,.builtin "function.__dict__",.builtin "function.__dict__#set"],#[]⟩,⟨.type "getset_descriptor",none,.fields #[.str "__weakref__" 744,.ref 404,.builtin "ExceptionGroup.__weakref__",.none],#[]⟩,⟨.type "super",none,.fields #[.ref 404,.ref 404,.ref 404],#[]⟩,⟨.type "builtin_function_or_method",none,.fields #[.builtin "object.__init_subclass__",.ref 404],#[]⟩,JV,a9,cF,a9,a9,(pO (bD 49) "_law_octets"),Kh,KD,a9,cF,a9,a9,(pO (bD 50) "_law_ends"),Km,K9,a9,cF,(pO (bD 51) "_law_path"),JW,K6,a9,cF,(pO (bD 52) "_law_node"),Kp,Lg,a9,cF,(pO (bD 53) "_law_tree"),KY,KP,a9,cF,(tS 793 ["trie","key"]),a9,(pO (bD 54) "_law_told"),Kg,Kr,a9,cF,(pO (bD 55) "law"),zx,J4],{}⟩
noncomputable def tB(P:Params):BT:=bt ((jJ P).objs.toList.take 15) [(2,(boot_o_2 P)),(3,(boot_o_3 P)),(12,cF)]
noncomputable def t2(P:Params):BT:=bt ((jJ P).objs.toList.take 22) [(2,(boot_o_2 P)),(3,(gO P (.str "trie.constants" 194) ((gL P).take 10) 11)),(12,(tO (tL.take 1)))]
noncomputable def t3(P:Params):BT:=bt ((jJ P).objs.toList.take 40) [(2,(boot_o_2 P)),(3,(gO P (.str "trie.constants" 194) ((gL P).take 11) 12)),(12,IE)]
noncomputable def L3(P:Params):BT:=bt ((jJ P).objs.toList.take 97) [(2,(boot_o_2 P)),(3,(gO P (.str "trie.exceptions" 305) ((gL P).take 23) 24)),(12,IE)]
noncomputable def L2(P:Params):BT:=bt ((jJ P).objs.toList.take 149) [(3,(gO P (.str "trie.exceptions" 305) ((gL P).take 27) 28)),(12,(tO (tL.take 6)))]
noncomputable def L4(P:Params):BT:=bt ((jJ P).objs.toList.take 278) [(3,(gO P (.str "trie.binary" 555) ((gL P).take 46) 47)),(12,(tO (tL.take 25)))]
noncomputable def L1(P:Params):BT:=bt ((jJ P).objs.toList.take 409) [(3,(gO P (.str "trie.binary" 555) ((gL P).take 47) 48)),(12,(tO (tL.take 26)))]
noncomputable def LZ(P:Params):BT:=bt ((jJ P).objs.toList) []
noncomputable def hK(P:Params):Frag:=(jJ P).objs.toList.zipIdx.filterMap λx=>if x.2==162||x.2==447 then none else some (x.2,x.1)
noncomputable def yU:List Str:=(["_wall","BLANK_HASH","EXP","TWO_BITS","PREFIX_00","PREFIX_100000","KV_TYPE","BRANCH_TYPE","LEAF_TYPE","BINARY_TRIE_NODE_TYPES","KV_TYPE_PREFIX","BRANCH_TYPE_PREFIX","LEAF_TYPE_PREFIX","BYTE_1","BYTE_0","InvalidNode","ValidationError","NodeOverrideError","InvalidKeyError","partition_all","decode_from_bin","_decode_from_bin","encode_to_bin","_encode_to_bin","encode_from_bin_keypath","decode_to_bin_keypath","validate_is_bytes","validate_length","validate_is_bin_node","get_common_prefix_length","parse_node","encode_kv_node","encode_branch_node","encode_leaf_node","get_trie_nodes","_get_trie_nodes","get_witness_for_key_prefix","_get_witness_for_key_prefix","BinaryTrie","_law_keys","_law_octets","_law_ends","_law_path","_law_node","_law_tree","_law_told"]:List String).map Str.ofString
noncomputable def wu:Env:={scope:=P0.main.scope,locals:=mainNs,globals:=mainNs,cells:=[],code:=.ref 13,frame:=some 14}
noncomputable def iU(i j:Nat):List Stmt:=(P0.main.body.drop i).take (j - i)
noncomputable abbrev cE:Code:=.body (behindTheImports P0) wu
noncomputable abbrev sT(t:Params->BT)(n k:Nat)(g:Array GenState)(w:World)(os:OsState):SharedT:=⟨t w.params,n,{},g,{},k,os⟩
noncomputable def pL(w:World)(n i j:Nat)(p:Pos)(a:SharedT):Option (Flow×SharedT×Code×Pos):=
 segRunT treeTable P0 w 11 (some (.ref 6)) 1 n a (piecesOf (iU i j) wu cE p [topFrame ⟨0,0,0,0⟩])
noncomputable def pR(q:Pos)(b:SharedT):Option (Flow×SharedT×Code×Pos):=some (.next,b,cE,q)
noncomputable def pF(w:World)(n i j:Nat)(p:Pos)(a:SharedT):Option (Flow×SharedT×Code×Pos):=
 PySem.W.Fast.tw10110043849684766642 PySem.W.Fast.tw14364793385576792824 P0 w 11 (some (.ref 6)) 1 n a (piecesOf (iU i j) wu cE p [topFrame ⟨0,0,0,0⟩])
theorem ma:pL=pF:=by
 unfold pL pF
 (exact aaE PySem.W.Fast.te10110043849684766642<|aaE PySem.W.Fast.te14364793385576792824 rfl)
def YD(w:World):Prop:=∀os,pL w 50 0 3 ⟨0,0,0,0⟩ (sT tB 15 187 #[] w os)=pR ⟨5,0,5,10⟩ (sT t2 22 198 #[] w os)
theorem Sp(w:World):YD w:=by
 intro os;refine aaE ma ?_
 kernel_rfl
def rA(w:World):Prop:=∀os,pL w 900 3 4 ⟨5,0,5,10⟩ (sT t2 22 198 #[] w os)=pR ⟨6,0,6,3⟩ (sT t3 40 255 #[.finished] w os)
theorem Vz(w:World):rA ((w.withFollow "special-get-raises" false).withFollow "comprehension-iter-twice" false):=by
 intro os;refine aaE ma ?_
 kernel_rfl
theorem Vx(w:World):rA ((w.withFollow "special-get-raises" true).withFollow "comprehension-iter-twice" false):=by
 intro os;refine aaE ma ?_
 kernel_rfl
theorem VA(w:World):rA ((w.withFollow "special-get-raises" false).withFollow "comprehension-iter-twice" true):=by
 intro os;refine aaE ma ?_
 kernel_rfl
theorem Vy(w:World):rA ((w.withFollow "special-get-raises" true).withFollow "comprehension-iter-twice" true):=by
 intro os;refine aaE ma ?_
 kernel_rfl
theorem Sr:∀w,rA w:=byRow2 "comprehension-iter-twice" (byRow2 (P:=λw=>rA (w.withFollow "comprehension-iter-twice" false)) "special-get-raises" Vz Vx) (byRow2 (P:=λw=>rA (w.withFollow "comprehension-iter-twice" true)) "special-get-raises" VA Vy)
def DZ(w:World):Prop:=∀os,pL w 1200 4 17 ⟨6,0,6,3⟩ (sT t3 40 255 #[.finished] w os)=pR ⟨19,0,19,8⟩ (sT L3 97 307 #[.finished] w os)
theorem WI(w:World):DZ (w.withFollow "special-get-raises" false):=by
 intro os;refine aaE ma ?_
 kernel_rfl
theorem WH(w:World):DZ (w.withFollow "special-get-raises" true):=by
 intro os;refine aaE ma ?_
 kernel_rfl
theorem So:∀w,DZ w:=byRow2 "special-get-raises" WI WH
def YG(w:World):Prop:=∀os,pL w 900 17 21 ⟨19,0,19,8⟩ (sT L3 97 307 #[.finished] w os)=pR ⟨26,0,27,8⟩ (sT L2 149 387 #[.finished] w os)
theorem Sm(w:World):YG w:=by
 intro os;refine aaE ma ?_
 kernel_rfl
def YC(w:World):Prop:=∀os,pL w 700 21 46 ⟨26,0,27,8⟩ (sT L2 149 387 #[.finished] w os)=pR ⟨165,0,165,8⟩ (sT L4 278 557 #[.finished] w os)
theorem Sq(w:World):YC w:=by
 intro os;refine aaE ma ?_
 kernel_rfl
def YE(w:World):Prop:=∀os,pL w 900 46 47 ⟨165,0,165,8⟩ (sT L4 278 557 #[.finished] w os)=pR ⟨166,0,322,31⟩ (sT L1 409 749 #[.finished] w os)
theorem Su(w:World):YE w:=by
 intro os;refine aaE ma ?_
 kernel_rfl
def YF(w:World):Prop:=∀os,pL w 300 47 56 ⟨166,0,322,31⟩ (sT L1 409 749 #[.finished] w os)=pR ⟨359,0,401,162⟩ (sT LZ 451 804 #[.finished] w os)
theorem Ss(w:World):YF w:=by
 intro os;refine aaE ma ?_
 kernel_rfl
noncomputable abbrev q0:Pos:=⟨0,0,0,0⟩
noncomputable def sB(w:World)(os:OsState):Shared:=(sT tB 15 187 #[] w os).abs
noncomputable def YH(w:World)(os:OsState):Shared:=(sT LZ 451 804 #[.finished] w os).abs
noncomputable def sF(w:World)(os:OsState):Shared:=⟨jJ w.params,#[.finished],{},804,os⟩
noncomputable def WJ(w:World)(os:OsState):=topGo treeTable P0 w 11 (some (.ref 6)) 12 ⟨boot_heap w.params,Array.mk [],boot_drawn,boot_toks,os⟩ (topStub P0)
noncomputable def WN(w:World)(os:OsState):Option (Shared×Thread):=some (sB w os,⟨denote treeTable cE,cE,q0,[topFrame q0]⟩)
def WM:Prop:=∀w os,WJ w os=WN w os
theorem Rv:WM:=by
 intro w os
 kernel_rfl
noncomputable def WK(w:World)(os:OsState):=topRun treeTable P0 w 11 (some (.ref 6)) 2 (YH w os) ⟨doneF .next,cE,⟨359,0,401,162⟩,[topFrame q0]⟩
noncomputable def WO(w:World)(os:OsState):Option Shared:=some (sF w os)
def WL:Prop:=∀w os,WK w os=WO w os
theorem Rw:WL:=by
 intro w os
 kernel_rfl
theorem QG:behindTheImports P0=iU 0 3++(iU 3 4++(iU 4 17++(iU 17 21++(iU 21 46++(iU 46 47++(iU 47 56++[])))))):=by kernel_rfl
theorem VB(w:World)(os:OsState):topRun treeTable P0 w 11 (some (.ref 6)) (12+(1+(50+(900+(1200+(900+(700+(900+(300+2))))))))) ⟨boot_heap w.params,Array.mk [],boot_drawn,boot_toks,os⟩ (topStub P0)=some (sF w os):=by
 refine go_top (Rv w os) (piece_block (p':=q0) (s':=sB w os) rfl ?_);have e:restOf (behindTheImports P0) wu cE q0 [topFrame q0]=restOf (iU 0 3++(iU 3 4++(iU 4 17++(iU 17 21++(iU 21 46++(iU 46 47++(iU 47 56++[]))))))) wu cE q0 [topFrame q0]:=by exact aaE (aq QG) rfl
 exact aaE e<|sM (sN (Sp w os))<|sM (sN (Sr w os))<|sM (sN (So w os))<|sM (sN (Sm w os))<|sM (sN (Sq w os))<|sM (sN (Su w os))<|sM (sN (Ss w os))<|piece_nil (Rw w os)
noncomputable def qV:Program:={P0 with main:={P0.main with body:=[bD 55]}}
noncomputable def D5(s:Shared):Bool:=recOk [] s
noncomputable def L5:List Addr:=(List.range 451).filter λa=>a !=162&&a !=447
noncomputable def YJ(w:World)(os:OsState):Bool:=staticsOk (importedModules P0.main.body) (boot_heap w.params) (jJ w.params)&&namesBound P0 (jJ w.params)&&gensDone (sF w os)&&laidKept (boot_heap w.params) (jJ w.params)
def YI:Prop:=∀w os,YJ w os=true
theorem Sw:YI:=by
 intro w os
 kernel_rfl
noncomputable def YL(w:World)(os:OsState):=openSeen qV yU (importedModules P0.main.body) D5 false (sF w os)
noncomputable def WQ:=openGood qV yU
def YK:Prop:=∀w os,YL w os=WQ
theorem Sv:YK:=by
 intro w os
 kernel_rfl
theorem Sx:∀P,L5=(hK P).map (·.1):=λP=>by kernel_rfl
noncomputable abbrev aah:Hook:=kmHook hK L5 Sx [162,447]
theorem SD:∀w os,aah.obs (sF w os)=aah.val w:=by
 intro w os
 kernel_rfl
theorem Sz:∀w:World,((boot_heap w.params).isNs mainGlobals&&(Array.mk ([]:List GenState)).size==0,(boot_heap w.params).objs.size,(boot_heap w.params).nsMap mainGlobals "__annotations__")=(true,11,some (.ref 6)):=by
 intro w
 kernel_rfl
theorem SA:∀w:World,(fencedOpening treeTable P0 w 10000).map (λs=>(s.heap,s.gens,s.drawn,s.toks))=some (boot_heap w.params,Array.mk [],boot_drawn,boot_toks):=
 boot_open (by kernel_rfl) (by kernel_rfl) (λs=>by kernel_rfl)
theorem Sy:LeftO P0 qV yU D5 aah.obs aah.val 10000 false:=
 LeftO.of_pieces (H₀:=boot_heap) (H₁:=jJ) (gs₁:=#[.finished]) (d₁:={}) (k₁:=804) SA Sz (λw os=>VB w os) (by kernel_rfl) λw=>by
  funext os
  exact Prod.ext (Sw w os) (Prod.ext (Sv w os) (SD w os))
noncomputable def X0(w:World):Cx:={w:=w,B:=λa=>(hK w.params).lookup a,tabs:=[(166,162)]}
noncomputable def rB(o:Obj):Array DictEntry:=match o.data with|.dict es _=>es|_=>#[]
noncomputable def vP(o:Obj):Bool:=match o.data with|.dict es _=>es.all (λe=>match e.key with|.str _ _=>true|_=>false)|_=>false
theorem tj{h:Heap}{a:Addr}{o:Obj}(ho:h.get? a=some o)(hs:vP o=true):h.Ns a (nsFind (rB o)):=by
 unfold vP at hs
 cases hd:o.data with
 |dict es ep=>
  rw[hd]at hs;refine(gZ o es ep ho hd (λe he=>?_) (λname=>by unfold rB;exact aaE hd rfl));have hx:=Array.all_eq_true_iff_forall_mem.mp hs e he;cases hk:e.key<;>rw[hk]at hx<;>first|exact(cX _ _ rfl)|cases hx
 |_=>rw[hd]at hs;cases hs
theorem yV(w:World):(hK w.params).lookup mainGlobals=some (tM w.params):=by kernel_rfl
theorem IF(w:World):(hK w.params).lookup builtinsNs=some (boot_o_0 w.params):=by kernel_rfl
theorem Li(w:World):(hK w.params).lookup cStatics=some (o2 w.params):=by kernel_rfl
theorem Co(w:World):vP (tM w.params)=true:=by kernel_rfl
theorem IG(w:World):vP (boot_o_0 w.params)=true:=by kernel_rfl
theorem WR(w:World):vP (o2 w.params)=true:=by kernel_rfl
theorem dg{w:World}{x:Str}{V:AV}{v:Value}(r:Rep (X0 w).B V v)(e:nsFind (rB (tM w.params)) x=some v:=by kernel_rfl):bV (X0 w) x V:=
 (aE v (λh hB=>(cy _ _ (tj (hB _ _ (yV w)) (Co w)) (tj (hB _ _ (IF w)) (IG w)) (.inl e))) r)
theorem kh{w:World}{x:Str}{V:AV}{v:Value}(r:Rep (X0 w).B V v)(e1:nsFind (rB (tM w.params)) x=none)(e:nsFind (rB (boot_o_0 w.params)) x=some v):bV (X0 w) x V:=
 (aE v (λh hB=>(cy _ _ (tj (hB _ _ (yV w)) (Co w)) (tj (hB _ _ (IF w)) (IG w)) (.inr ⟨e1,e⟩))) r)
theorem HN{h:Heap}{w:World}(e:h.get? cStatics=some (o2 w.params)):h.NoLimit:=(aE _ (tj e (WR w)) (by kernel_rfl))
theorem dI{w:World}{a c:Addr}(o oc:Obj){st:Stmt}{q:Str}{pm d:Value}{vs:Array Value}{t:Tok}(h2:o.data=.func (ip st q (.ref c) pm d))(h4:oc.data=.fields vs)(h5:vs[1]?=some (.str q t))
  (h1:(hK w.params).lookup a=some o:=by kernel_rfl)(h3:(hK w.params).lookup c=some oc:=by kernel_rfl):FnAt (X0 w) a (ip st q (.ref c) pm d) (fz st):=
 ⟨(aE o h1 h2),(lU c oc vs t rfl h3 h4 h5),(aE _ (Li w) (λh e=>HN e)),rfl⟩
section
variable {g:View}
theorem fc:Rep g (.ref a) (.ref a):=by exact rfl
theorem n9:Rep g (.typ n) (.type n):=by exact rfl
theorem y6:Rep g (.blt n) (.builtin n):=by exact rfl
theorem jg:Rep g (.int i) (.int i t):=by exact⟨t,rfl⟩
theorem gK(h:a=b.toArray):Rep g (.bytes b) (.bytes a t):=by exact⟨t,by exact aaE h rfl⟩
theorem CC(h1:g a=some o)(h2:o.cls=.type "list")(h3:o.data=.seq vs.toArray n)(h:RepL g l vs):Rep g (.lst l) (.ref a):=by exact(cy a vs rfl (cy o n h1 h2 h3) h)
theorem IH(h1:g a=some o)(h2:o.cls=.type "tuple")(h3:o.data=.seq vs.toArray n)(h:RepL g l vs):Rep g (.tup l) (.ref a):=by exact(cy a vs rfl (cy o n h1 h2 h3) h)
end
theorem VC(w:World):Base (X0 w):={lim:=λh hB=>HN (hB _ _ (Li w)),bi:=λh hB=>⟨_,4,boot_o_4 w.params,tj (hB _ _ (yV w)) (Co w),by kernel_rfl,by decide,hB _ _ (by kernel_rfl),by kernel_rfl,by kernel_rfl,by kernel_rfl⟩,tbu:=λp hp q hq x=>by rw[lM.mp hp,lM.mp hq],g_isinstance:=kh (e1:=by kernel_rfl) (e:=by kernel_rfl) y6,g_len:=kh (e1:=by kernel_rfl) (e:=by kernel_rfl) y6,g_bytes:=kh (e1:=by kernel_rfl) (e:=by kernel_rfl) n9,g_list:=kh (e1:=by kernel_rfl) (e:=by kernel_rfl) n9,g_tuple:=kh (e1:=by kernel_rfl) (e:=by kernel_rfl) n9,g_int:=kh (e1:=by kernel_rfl) (e:=by kernel_rfl) n9,g_range:=kh (e1:=by kernel_rfl) (e:=by kernel_rfl) n9,g_sum:=kh (e1:=by kernel_rfl) (e:=by kernel_rfl) y6,g_enumerate:=kh (e1:=by kernel_rfl) (e:=by kernel_rfl) n9,g_reversed:=kh (e1:=by kernel_rfl) (e:=by kernel_rfl) n9,f_part:=(cX _ _ (dI Kx Ky rfl rfl rfl)),g_part:=dg fc,f_dfb:=(cX _ _ (dI KX KJ rfl rfl rfl)),g_dfb:=dg fc,f_dfb_:=⟨_,dI Kw rj rfl rfl rfl⟩,g_dfb_:=dg fc,t_dfb_:=lM.mpr rfl,g_TWO:=dg (v:=(.ref 60)) (CC (o:=DX) (vs:=[.bytes #[0,0] 257,.bytes #[0,1] 260,.bytes #[1,0] 263,.bytes #[1,1] 266]) (by kernel_rfl) rfl rfl (.cons (gK rfl) (.cons (gK rfl) (.cons (gK rfl) (.cons (gK rfl) .nil))))),g_TWOr:=dg fc,o_TWO:=⟨DX,257,260,263,266,by kernel_rfl,rfl,rfl,0,rfl⟩,g_P00:=dg (v:=(.bytes #[0,0] 270)) (gK (by decide)),g_P10:=dg (v:=(.bytes #[1,0,0,0,0,0] 278)) (gK (by decide)),f_efk:=(cX _ _ (dI Kj KL rfl rfl rfl)),g_efk:=dg fc,f_dtk:=(cX _ _ (dI Kb Kk rfl rfl rfl)),g_dtk:=dg fc,g_BLANK:=dg (v:=(.bytes #[197,210,70,1,134,247,35,60,146,126,125,178,220,199,3,192,229,0,182,83,202,130,39,59,123,250,216,4,93,133,164,112] 196)) (gK (by decide)),g_KV:=dg (v:=(.int 0 280)) jg,g_BR:=dg (v:=(.int 1 282)) jg,g_LEAF:=dg (v:=(.int 2 284)) jg,g_TYPES:=dg (v:=(.ref 71)) (IH (o:=LV) (vs:=[.int 0 286,.int 1 287,.int 2 288]) (by kernel_rfl) rfl rfl (.cons jg (.cons jg (.cons jg .nil)))),g_KVP:=dg (v:=(.bytes #[0] 291)) (gK (by decide)),g_BRP:=dg (v:=(.bytes #[1] 294)) (gK (by decide)),g_LEAFP:=dg (v:=(.bytes #[2] 297)) (gK (by decide)),g_B1:=dg (v:=(.bytes #[1] 300)) (gK (by decide)),g_B0:=dg (v:=(.bytes #[0] 303)) (gK (by decide)),f_vbn:=(cX _ _ (dI K7 KI rfl rfl rfl)),g_vbn:=dg fc,f_gcp:=(cX _ _ (dI K3 Kc rfl rfl rfl)),g_gcp:=dg fc,f_parse:=(cX _ _ (dI Kl KE rfl rfl rfl)),g_parse:=dg fc,f_ekv:=(cX _ _ (dI KV J6 rfl rfl rfl)),g_ekv:=dg fc,f_ebr:=(cX _ _ (dI Lh Ko rfl rfl rfl)),g_ebr:=dg fc,f_elf:=(cX _ _ (dI Ki K5 rfl rfl rfl)),g_elf:=dg fc,f_gtn:=(cX _ _ (dI Lc KG rfl rfl rfl)),g_gtn:=dg fc,f_gtn_:=(cX _ _ (dI KQ Ku rfl rfl rfl)),g_gtn_:=dg fc,g_EXP:=dg (v:=(.ref 39)) (IH (o:=LS) (vs:=[.int 128 240,.int 64 236,.int 32 232,.int 16 228,.int 8 224,.int 4 220,.int 2 216,.int 1 212]) (by kernel_rfl) rfl rfl (.cons jg (.cons jg (.cons jg (.cons jg (.cons jg (.cons jg (.cons jg (.cons jg .nil))))))))),f_vib:=(cX _ _ (dI Kv KH rfl rfl rfl)),g_vib:=dg fc,f_vl:=(cX _ _ (dI J8 Lb rfl rfl rfl)),g_vl:=dg fc,f_etb:=(cX _ _ (dI Kt La rfl rfl rfl)),g_etb:=dg fc,f_etb_:=(cX _ _ (dI Kq J0 rfl rfl rfl)),g_etb_:=dg fc}
theorem SH(w:World):Base2 (X0 w):={toBase:=VC w,nou:=λx h=>h,f_gwp:=(cX _ _ (dI K0 KR rfl rfl rfl)),g_gwp:=dg fc,f_gwp_:=(cX _ _ (dI J9 Kn rfl rfl rfl)),g_gwp_:=dg fc}
theorem SJ(w:World):Base3 (X0 w):={toBase2:=SH w,g_zip:=kh (e1:=by kernel_rfl) (e:=by kernel_rfl) n9}
theorem VD(w:World):ClsOk (hK w.params) where
 ga:=by kernel_rfl
 gk:=by kernel_rfl
 sa:=by kernel_rfl
 over:=by kernel_rfl
 hd:=by kernel_rfl
 mks:=by kernel_rfl
 init:=by kernel_rfl
 initf:=by kernel_rfl
 at_db:=by kernel_rfl
 at_ho:=by kernel_rfl
 at_rh:=by kernel_rfl
 meth:=λp hp=>by
  have e:(eY.all λp=>findIn (hK w.params) (.ref 404) p.1==some (some (.ref p.2))&&typeIn (hK w.params) (.ref p.2)==some (.type "function"))=true:=by kernel_rfl
  have:=nR.mp e p hp;rw[mF,cM,cM]at this;exact this
 keep:=by kernel_rfl
theorem SE(w:World):Base4 (X0 w):={toBase3:=SJ w,cls:=(aE (hK w.params) (λh hB=>hB) (VD w)),g_BT:=dg fc}
theorem SF(w:World):Base5 (X0 w):={toBase4:=SE w,m_init:=(vn 285 K8 _ _ (cX _ _ (dI Ke Ka rfl rfl rfl)) (by kernel_rfl) rfl),m_get:=(cX _ _ (dI JX KW rfl rfl rfl)),m__get:=(cX _ _ (dI K2 K4 rfl rfl rfl)),m_set:=(cX _ _ (dI J7 JY rfl rfl rfl)),m__set:=(pg 314 tK _ (cX _ _ (dI Ld Kz rfl rfl rfl)) (by kernel_rfl) rfl),m_kv:=(pg 322 tK _ (cX _ _ (dI KN Kd rfl rfl rfl)) (by kernel_rfl) rfl),m_br:=(pg 330 tK _ (cX _ _ (dI JZ KC rfl rfl rfl)) (by kernel_rfl) rfl),m_exists:=(cX _ _ (dI Ks J3 rfl rfl rfl)),m_delete:=(cX _ _ (dI J5 KZ rfl rfl rfl)),m_has:=(cX _ _ (dI KS KO rfl rfl rfl))}
theorem SG(w:World):Base6 (X0 w):={toBase5:=SF w,f_told:=(cX _ _ (dI Kr Kg rfl rfl rfl)),g_told:=dg fc,g_KeyError:=kh (e1:=by kernel_rfl) (e:=by kernel_rfl) n9}
theorem SI(w:World):Base7 (X0 w):={toBase6:=SG w,g_sorted:=kh (e1:=by kernel_rfl) (e:=by kernel_rfl) y6,g_keys:=dg (v:=(.ref 409)) (CC (o:=JV) (vs:=[.bytes #[65,0] 751,.bytes #[65,1] 752,.bytes #[65,128] 753,.bytes #[65,255] 754,.bytes #[64,1] 755,.bytes #[97,1] 756,.bytes #[193,0] 757,.bytes #[193,1] 758]) (by kernel_rfl) rfl rfl (.cons (gK rfl) (.cons (gK rfl) (.cons (gK rfl) (.cons (gK rfl) (.cons (gK rfl) (.cons (gK rfl) (.cons (gK rfl) (.cons (gK rfl) .nil))))))))),f_octets:=(cX _ _ (dI KD Kh rfl rfl rfl)),g_octets:=dg fc,f_ends:=(cX _ _ (dI K9 Km rfl rfl rfl)),g_ends:=dg fc,f_path:=(cX _ _ (dI K6 JW rfl rfl rfl)),g_path:=dg fc,f_node:=(cX _ _ (dI Lg Kp rfl rfl rfl)),g_node:=dg fc,f_tree:=(cX _ _ (dI KP KY rfl rfl rfl)),g_tree:=dg fc}
theorem HM(w:World):Base8 (X0 w):={toBase7:=SI w,f_law:=⟨_,dI J4 zx rfl rfl rfl⟩,cd:=λh hB=>codeHd_of_K (K:=hK w.params) hB (by kernel_rfl),t447:=λp hp=>by refine aaE (lM.mp hp) ?_;decide}
noncomputable abbrev r0:OpenRow:=PySem.Challenge.rw_bc0033_01.row
theorem SM{w:World}{aj s₁:Shared}{args:List WData}{vs:List Value}{as:List Addr}(pP:r0.toRowW.claim.pre args=true)(pQ:WData.layableAll args=true)(nK:ReadsAllW r0.records (classAt aj.heap) s₁.heap vs args as)(iI:WellAll w.params s₁.heap vs args)(EO:∀a∈as,(a==sysModules)=false):
  ∃a us ns,vs=[.ref a]/\s₁.heap.IsList a us.toArray/\IntsAre us ns/\ns.length<=63:=by
 wrow_args pP pQ nK iI EO
 refine(gZ _ _ _ rfl (by assumption) (by assumption) ?_)
 lia
theorem QH(h:IntsAre us ns):RepL g (ns.map .int) us:=by
 induction h with
 |nil=>exact .nil
 |cons n t _ ih=>exact .cons jg ih
noncomputable def g0(s:Shared):View:=λb=>if b=162∨b=447 then none else s.heap.get? b
noncomputable def σ0:St:=λb=>if b=447 then some (.obj (gH #[]))else none
theorem VF(jt:(hK w.params).In s.heap)(ht:∀P∈[162,447],s.heap.get? P=some (tabObj #[])):Sat (X0 w) (g0 s) σ0 s:=by
 have nk:∀a o,(hK w.params).lookup a=some o->¬(a=162∨a=447):=by
  intro a o e q;rcases q with q|q
  ·rw[q,show(hK w.params).lookup 162=none from by kernel_rfl]at e;cases e
  ·rw[q,show(hK w.params).lookup 447=none from by kernel_rfl]at e;cases e
 have k166:s.heap.get? 166=some rj:=jt _ _ (by kernel_rfl);refine⟨λa o e=>?_,λa o e=>?_,λa t e=>?_,λp hp=>?_⟩
 ·unfold g0;exact aaE (ar (nk a o e))<|jt a o e
 ·unfold g0 at e;split at e
  ·cases e
  ·exact e
 ·unfold σ0 at e;split at e
  ·rename_i q;cases e;refine aaE q ?_
   exact⟨by unfold g0;exact aaE (aA (.inr rfl)) rfl,ht 447 (by simp)⟩
  ·cases e
 ·refine aaE (lM.mp hp)<|(nZ (by unfold g0;exact aaE (aA (.inl rfl)) rfl) rfl ?_ (#[]) ⟨rj,_,_,_,_,_,_,_,_,tabObj #[],k166,rfl,rfl,rfl,rfl,rfl,rfl,ht 162 (by simp),rfl,by trivial,by decide⟩ ⟨(lX rj _ k166 rfl rfl rfl),ht 162 (by simp)⟩)
  unfold g0;(refine aaE (ar (by decide))<|aaE k166 ?_);simp
theorem VE(jt:(hK w.params).In s.heap)(ht:∀P∈[162,447],s.heap.get? P=some (tabObj #[]))(G:Go (X0 w) aL (g0 s) σ0 s g' ab s')(h4:ab 447=some (.obj (gH ps))):OldK s.heap s'.heap:=by
 have k166:s.heap.get? 166=some rj:=jt _ _ (by kernel_rfl);have k449:s.heap.get? 449=some zx:=jt _ _ (by kernel_rfl);have h7:=(G.sat.trk 447 _ h4).2;obtain⟨more,h2⟩:=G.run.tab (166,162) (lM.mpr rfl) (tabObj #[]) #[] (ht 162 (by simp)) rfl;refine⟨λb o e=>?_,λb o e=>?_⟩
 ·by_cases q2:b=162
  ·subst q2
   rw[ht 162 (by simp)]at e;cases e;exact .inr (.inl (BX (gZ 166 rj _ k166 rfl rfl rfl) rfl (#[]) more rfl h2))
  ·by_cases q7:b=447
   ·clear q2;subst q7
    rw[ht 447 (by simp)]at e;cases e;exact .inr (.inl (BX (gZ 449 zx _ k449 rfl rfl rfl) rfl (#[]) ps rfl (by refine aaE h7 ?_;simp[gH])))
   ·exact .inl (G.sat.in_ b o (G.le b o (by unfold g0;exact aaE (ar (by simp[q2,q7]))<|e)))
 ·obtain⟨o',e'⟩:=G.run.dom b o e id
  exact⟨o',e'⟩
theorem SK(jt:(hK w.params).In s.heap)(ht:∀P∈[162,447],s.heap.get? P=some (tabObj #[]))(hl:s.heap.IsList a us.toArray)(hi:IntsAre us ns)(hz:ns.length<=63):
  bS (model P0 w) callerA (PySem.call (.ref 450) [.ref a]) (λv s'=>v=.bool true/\OldK s.heap s'.heap/\s'.os=s.os/\(∀(i:Nat) (x:GenState),s'.gens[i]?=some x->s.gens[i]?=some x∨x.bare=true)/\(∀(i:Nat) (x:GenState),s.gens[i]?=some x->s'.gens[i]?=some x)) aC s:=by
 have S:=VF jt ht
 have na:¬(a=162∨a=447):=by
  refine dp hl λo e hc y=>?_;intro q;rcases q with q|q
  ·rw[q,ht 162 (by simp)]at e;cases e;cases hc
  ·rw[q,ht 447 (by simp)]at e;cases e;cases hc
 have rv:Rep (g0 s) (.lst (ns.map .int)) (.ref a):=by
  refine yI hl λo e hc n hd=>?_;exact CC (by unfold g0;rw[ar na];exact e) hc hd (QH hi)
 have C:=QC (HM w) (Q:=λV ab=>V=.bool true/\∃ps,ab 447=some (.obj (gH ps))) S rv rfl λpm A L f d ab hR bH nm keep tb=>
  QF (HM w) hz hR bH nm tb
 refine yu (uZ C λr s' ⟨v,e,g',V,ab,G,rV,eV,ps,h4⟩=>(aE v e ?_));subst eV;refine(l7 (by exact rV) (VE jt ht G h4) G.run.os (λi x h=>?_) (λi x h=>G.run.gold i x h id));rcases G.run.gbare i x h with h|h|h
 ·exact .inl h
 ·exact .inr h
 ·exact h.elim
noncomputable def WT(t:Stmt):Pos:=if h:t.ctorIdx=0 then Stmt.FunctionDef.elim (motive_2:=λx=>Pos) t h λx x x x x x x x x p=>p else ⟨0,0,0,0⟩
noncomputable def d0:DefRec:=⟨Cv (bD 55),vB (bD 55),fz (bD 55),qW (bD 55),WT (bD 55)⟩
theorem VH:defOf qV r0.name=some (d0,[]):=by kernel_rfl
theorem VG:r0.prog.theDef r0.name=some (d0.params,d0.body,d0.scope):=by kernel_rfl
theorem WU:kwWritten? d0.params.kwonlyargs d0.params.kw_defaults=some []:=by kernel_rfl
theorem WS:(chainsOk qV&&opensWell r0.prog&&(PySem.W.frees r0.toRowW&&r0.within.isEmpty))=true:=by kernel_rfl
theorem SO:r0.toRowW.promised:=(aE ([.list []]) (by kernel_rfl) (by kernel_rfl))
theorem SN{w:World}{h:Heap}{mg:Str->Option Value}(jt:(hK w.params).In h)(hn:h.Ns mainGlobals mg):mg r0.name=some (.ref 450):=by
 refine az λkk=>?_;refine sP hn λo es ep e hd x hf=>?_;rw[jt _ _ (yV w)]at e;cases e;have e2:rB (tM w.params)=es:=by unfold rB;exact aaE hd rfl
 refine kk ?_
 (refine aaE (aq (hf ..))<|aaE (aq e2) ?_)
 kernel_rfl
theorem aag:PySem.Challenge.rw_bc0033_01.wellSaid=true:=by
 refine aaE PySem.W.Fast.te9446332074065402090 ?_
 kernel_rfl
theorem aaf(said:r0.wellSaid=true):r0.Holds:=by
 refine Og (r:=r0) (q:=qV) (loose:=yU) (Xt:=D5) (XP:=λx x=>True) (Yf:=aah.obs) (Ya:=aah.val) (YP:=aah.says) (d:=d0) (kwd:=[]) (N:=10000)
  Sy aah.of aah.keeps (λx x=>trivial) (λx x x x x=>trivial) VH VG WU (λs e=>recFacts_of e) (by rfl) said WS (QJ rfl rfl rfl rfl rfl (by decide+kernel)) SO ?_
 intro w aj s₁ mg mb G Y pN args vs as pP pQ nK iI EO;refine az λkk=>?_;obtain⟨a,us,ns,rfl,hl,hi,hz⟩:=SM pP pQ nK iI EO;have jt:=km_in_of Y;have ht:=km_tabs_of Y;refine kk<|(aE (.ref 450) (SN jt G.T.g) (jb (SK jt ht hl hi hz) (λv s' ⟨e,o,os,gb,gk⟩=>⟨(k7 (.inl (o9 v (.bool true) ([]) rfl (λx=>rfl) (e▸.bool true) ?_ (λx=>⟨.nil,nofun⟩))) o os (λy hy=>?_)),gk⟩) i2))
 ·wrow_post
 ·refine az λkk=>?_
  obtain⟨i,gz,e⟩:=Array.mem_iff_getElem.mp hy;rcases gb i y (by(refine aaE (Array.getElem?_eq_getElem gz) ?_;exact aaE e rfl))with h|h
  ·refine kk<|aaE (pN y (Array.mem_of_getElem? h)) ?_;rfl
  ·exact kk<|h
end
end Tw.Internal
set_option maxHeartbeats 4000000 in
theorem PySem.Challenge.cw_bc0033_01_holds : PySem.Challenge.rw_bc0033_01.Holds :=
  PySem.W.holds_law Tw.Internal.aag Tw.Internal.aaf
#print axioms PySem.Challenge.cw_bc0033_01_holds
