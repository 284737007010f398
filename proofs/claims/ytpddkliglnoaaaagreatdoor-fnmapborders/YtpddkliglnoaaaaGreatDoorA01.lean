/- Part 1 of the proof that FnMapBorders returns true for every input that its row lets in. No further condition. -/
import Derived.WalkKit
import Derived.Laws.CopyRow
import Derived.IntWalk
import Derived.Orders
import Derived.Laws.OwnMore
import Derived.Laws.MakeOwn
import Derived.Maps.RangeRun
import Derived.Laws.StructEq
import Derived.LaidEqlPtr
import Derived.WideLaws
import Derived.Laws.Pointers
import Derived.Test.YtpddkliglnoaaaaGreatDoorProg
import Derived.KernelRfl
import Ieee.Arith
import Derived.Laws.Cover2
import Derived.LaidEql
import Derived.Stop.Asserts
import Derived.RowKitTokens
import Derived.Sort.Defs
import Derived.Sort.LotD5
import Derived.Lib.BitFns
import Derived.Lib.ReflectliteSwap
import Derived.Sort.AssemblyPlain
import Derived.FollowTie
import Derived.ProofKit
import Derived.OpenShut
import Derived.Deep.DeepHandedRow
import Derived.Stop.LaidErr
import Derived.LaidLaws
import Derived.Carry
set_option linter.all false
set_option autoImplicit true
set_option relaxedAutoImplicit true
namespace Go
theorem O.{u}{α:Sort u}{a:α}:a=a:=Eq.refl a
abbrev aG:=@List.getElem?_eq_getElem
abbrev aW:=@List.length_append
abbrev bn:=@List.mem_of_getElem?
abbrev bq:=@List.mem_append_left
abbrev aM:=@List.mem_map
abbrev bI:=@List.mem_append_right
abbrev bm:=@List.mem_cons
abbrev bB:=@List.mem_append
abbrev bf:=@Nat.zero_le
abbrev bg:=@Nat.le_refl
abbrev bV:=@Result.andThen_ok
abbrev bo:=@Sem.run_bind
abbrev gg:=@Rat.mul_le_mul_of_nonneg_right
abbrev cG:=@List.append_assoc
abbrev cE:=@List.length_cons
abbrev bS:=@Sem.run_pure
abbrev cP:=@List.length_map
abbrev fF:=@Rat.intCast_le_intCast
abbrev cj:=@Rat.mul_nonneg
abbrev dC:=@List.flatMap_cons
abbrev dX:=@List.map_append
abbrev dg:=@List.take_length
abbrev dL:=@Nat.lt_or_ge
abbrev gI:=@Nat.mul_le_mul_right
abbrev dZ:=@List.length_singleton
abbrev gx:=@List.Sublist.refl
abbrev eI:=@Bool.and_eq_true
abbrev kD:=@List.all_eq_true
abbrev ft:=@List.flatMap_append
abbrev iE:=@Option.map_eq_some_iff
abbrev gZ:=@List.getElem?_eq_none
abbrev jz:=@List.append_nil
abbrev fT:=@Rat.le_of_lt
abbrev dV:=@List.map_cons
abbrev eQ:=@List.take_of_length_le
abbrev lj:=@Rat.natCast_le_natCast
abbrev lh:=@Option.bind_some
abbrev iD:=@Option.some.inj
abbrev gY:=@Array.getD_eq_getD_getElem?
abbrev jy:=@List.getD_cons_zero
abbrev j8:=@List.getD_cons_succ
abbrev j7:=@List.getD_eq_getElem?_getD
abbrev pd:=@List.Sublist.cons
abbrev ja:=@Rat.natCast_mul
abbrev iZ:=@Nat.not_lt_zero
abbrev j6:=@List.nil_append
abbrev jx:=@List.length_drop
abbrev jP:=@Rat.intCast_lt_intCast
abbrev nO:=@Nat.eq_of_beq_eq_true
abbrev ox:=@List.size_toArray
abbrev gX:=@Nat.zero_add
abbrev jO:=@Option.bind_eq_some_iff
abbrev lg:=@List.getElem?_of_mem
abbrev kC:=@List.length_nil
abbrev pY:=@List.cons_append
abbrev ow:=@List.eq_nil_of_length_eq_zero
abbrev ld:=@Bool.false_eq_true
abbrev uF:=@List.nodup_append
abbrev iY:=@List.getElem?_map
abbrev nN:=@List.map_toArray
abbrev mO:=@List.mem_flatMap
abbrev lV:=@List.length_take
abbrev lU:=@Nat.succ_mul
abbrev o0:=@List.flatten_append
abbrev vJ:=@List.take_append_of_le_length
abbrev qM:=@Rat.intCast_mul
abbrev lT:=@Nat.le_of_ble_eq_true
abbrev qL:=@Rat.le_of_mul_le_mul_right
abbrev uE:=@Option.isSome_iff_exists
abbrev tm:=@List.sublist_append_left
abbrev mN:=@Prod.ext
abbrev uD:=@Nat.mul_le_mul
abbrev gf:=@List.take_append_drop
abbrev mM:=@Option.getD_some
abbrev oZ:=@List.nil_sublist
abbrev oY:=@List.not_mem_nil
abbrev oX:=@List.flatten_cons
abbrev pX:=@Option.map_some
abbrev ou:=@Rat.intCast_add
abbrev nL:=@List.mem_range
abbrev nK:=@Nat.mul_assoc
abbrev nJ:=@List.mem_map_of_mem
abbrev tj:=@List.Nodup.length_le_of_subset
abbrev vI:=@List.Mem.tail
abbrev zI:=@Rat.natCast_nonneg
abbrev th:=@List.map_nil
abbrev yg:=@Prod.mk.injEq
abbrev tg:=@Rat.mul_assoc
abbrev nI:=@Nat.mod_lt
abbrev oW:=@List.pairwise_cons
abbrev oV:=@Rat.div_mul_cancel
abbrev la:=@List.nodup_cons
abbrev k9:=@Nat.two_pow_pos
abbrev uC:=@Nat.mod_eq_of_lt
abbrev rW:=@Nat.shiftLeft_eq
abbrev rV:=@List.length_eraseIdx_of_lt
abbrev tc:=@Nat.le_trans
abbrev s9:=@List.getElem?_set
abbrev zH:=@Nat.pow_le_pow_right
abbrev oU:=@Array.getElem?_eq_none
abbrev uK:=@List.getElem?_take
abbrev xe:=@Nat.eq_zero_or_pos
abbrev vO:=@Array.length_toList
abbrev vN:=@List.sizeOf_lt_of_mem
abbrev xd:=@Option.some.injEq
abbrev yl:=@List.getElem?_append_right
abbrev vM:=@Nat.blt_eq
abbrev uJ:=@List.mem_filter
abbrev uI:=@Rat.intCast_inj
abbrev Gh:=@Nat.add_mul
abbrev uH:=@List.ext_getElem?
abbrev pZ:=@Rat.mul_lt_mul_of_pos_right
abbrev Bs:=@Nat.add_sub_cancel
abbrev xc:=@Array.ext'
abbrev pe:=@List.getElem?_set_ne
abbrev xb:=@List.mem_flatten
abbrev tn:=@List.drop_of_length_le
abbrev DE:=@List.Sublist.cons_cons
abbrev yk:=@List.getElem?_set_self
abbrev zV:=@Nat.lt_trichotomy
abbrev xa:=@Int.toNat_natCast
abbrev DD:=@List.length_pos_iff
abbrev Br:=@Nat.min_eq_left
abbrev Bq:=@List.drop_eq_getElem_cons
abbrev Bp:=@List.getElem?_append_left
abbrev yj:=@Rat.natCast_add
abbrev zU:=@Array.getElem?_modify
abbrev DC:=@List.Perm.append_left
abbrev DB:=@List.sublist_append_of_sublist_right
abbrev w8:=@List.map_map
abbrev Bo:=@Bool.false_or
abbrev Bn:=@List.length_eq_zero_iff
abbrev uG:=@Function.comp_def
abbrev w7:=@Rat.intCast_neg
abbrev DA:=@Rat.intCast_sub
abbrev zT:=@List.flatMap_singleton
abbrev zS:=@List.perm_ext_iff_of_nodup
abbrev zR:=@List.nodup_iff_pairwise_ne
abbrev yi:=@List.perm_middle
abbrev yh:=@List.perm_append_comm
abbrev vL:=@List.getElem?_drop
abbrev Dz:=@List.drop_zero
abbrev Gg:=@List.Pairwise.and_mem
abbrev zQ:=@List.find?_eq_none
abbrev Dy:=@List.foldl_cons
abbrev Bm:=@List.cons.injEq
abbrev Dx:=@Nat.mul_comm
abbrev Bl:=@List.sum_append
abbrev zP:=@List.reverse_reverse
abbrev zO:=@Bool.eq_false_or_eq_true
abbrev wZ:=@Nat.compare_eq_lt
abbrev zN:=@Nat.compare_eq_gt
abbrev Dw:=@List.length_range
abbrev Gf:=@List.take_add_one
abbrev Bj:=@List.drop_append_of_le_length
abbrev Bi:=@List.filter_cons_of_pos
abbrev Kp:=@List.filter_cons_of_neg
abbrev Ge:=@List.getElem?_range
abbrev Gd:=@List.nodup_nil
abbrev Dv:=@Nat.pow_add
abbrev zM:=@Rat.natCast_lt_natCast
abbrev vK:=@Nat.mul_one
abbrev wY:=@Nat.add_zero
abbrev Gc:=@Nat.mul_lt_mul_of_pos_right
abbrev wX:=@Int.natCast_nonneg
abbrev Ko:=@List.length_set
abbrev Du:=@List.range_succ
abbrev Bh:=@List.Mem.head
abbrev Bg:=@Nat.le_succ_of_le
abbrev zL:=@Nat.ble_eq
abbrev Dt:=@Array.getElem?_eq_getElem
abbrev Kn:=@Classical.byContradiction
abbrev Km:=@List.mem_of_find?_eq_some
abbrev PT:=@Nat.pow_succ
abbrev Bf:=@List.drop_append
abbrev zK:=@List.getElem_mem
abbrev Ds:=@List.exists_of_findSome?_eq_some
abbrev Dr:=@List.filterMap_cons
abbrev PS:=@Array.getElem?_setIfInBounds_ne
abbrev Gb:=@Nat.lt_of_lt_of_le
abbrev PR:=@Obj.cells.injEq
abbrev Be:=@Int.mul_le_mul_of_nonneg_right
abbrev Ga:=@Rat.mul_eq_zero
abbrev Dq:=@Rat.mul_one
abbrev PQ:=@Option.map_eq_none_iff
abbrev Dp:=@List.append_eq_map_iff
abbrev zJ:=@Bool.not_eq_true'
abbrev Kl:=@List.take_take
abbrev Kk:=@Rat.mul_comm
abbrev F9:=@Int.mul_nonneg
abbrev Bd:=@List.Perm.cons
abbrev Kc:=@Array.mem_toList_iff
abbrev Do:=@List.mem_reverse
abbrev Dn:=@List.flatMap_nil
abbrev F8:=@List.cons.inj
abbrev F7:=@List.findSome?_eq_none_iff
abbrev PO:=@List.perm_append_singleton
abbrev PN:=@Rat.le_refl
abbrev PM:=@Nat.le_succ
abbrev Bc:=@List.map_congr_left
abbrev Bb:=@Std.Legacy.Range.forIn_eq_forIn_range'
abbrev Kj:=@List.replicate_succ
abbrev XP:=@List.map_eq_nil_iff
abbrev Ki:=@Nat.div_add_mod
abbrev Kh:=@List.mem_or_eq_of_mem_set
abbrev F6:=@Value.agg.injEq
abbrev F5:=@List.getLast?_eq_getElem?
abbrev PL:=@List.length_erase_of_mem
abbrev F4:=@Decidable.em
abbrev PK:=@Prod.ext_iff
abbrev Dm:=@List.append_of_mem
abbrev PJ:=@List.getLast?_cons_cons
abbrev Dl:=@Nat.one_shiftLeft
abbrev Dk:=@List.pairwise_map
abbrev Kg:=@Array.getElem?_setIfInBounds_self
abbrev F0:=@Rat.mul_pos
abbrev PG:=@Sem.run_ite
abbrev Kf:=@List.head?_eq_getElem?
abbrev Ke:=@List.length_eq_one_iff
abbrev Dj:=@Nat.add_assoc
abbrev Pn:=@Bool.or_false
abbrev Di:=@Array.all_eq_true_iff_forall_mem
abbrev PF:=@List.nodup_range
abbrev PE:=@List.take_append
abbrev FZ:=@Nat.lt_log2_self
abbrev Kd:=@Nat.le_add_right
abbrev XO:=@List.filterMap_append
abbrev Kb:=@Nat.zero_mul
abbrev Ka:=@Bool.or_eq_true
abbrev J9:=@List.mem_of_getLast?
abbrev PD:=@Bool.true_or
abbrev FY:=@Bool.toNat_true
abbrev PC:=@Rat.le_total
abbrev XN:=@List.mem_of_mem_take
abbrev J8:=@Array.toList_append
abbrev PA:=@List.take_succ_cons
abbrev FW:=@List.drop_succ_cons
abbrev J7:=@List.take_left
abbrev FU:=@List.take_zero
abbrev Pz:=@Bool.false_and
abbrev Py:=@Option.map_map
abbrev Px:=@Rat.add_mul
abbrev Pw:=@Nat.sub_add_cancel
abbrev J6:=@List.mem_filterMap
abbrev J5:=@Array.toList_range
abbrev J4:=@List.set_cons_succ
abbrev J3:=@Nat.xor_lt_two_pow
abbrev J2:=@Nat.pos_of_ne_zero
abbrev FT:=@Rat.mul_div_cancel
abbrev Pv:=@List.filter_append
abbrev Pu:=@List.filterMap_nil
abbrev Ps:=@Array.getElem?_eq_some_iff
abbrev Pq:=@Rat.lt_of_mul_lt_mul_right
abbrev Pp:=@Int.fdiv_eq_ediv_of_nonneg
abbrev Po:=@List.sum_cons
abbrev Pm:=@Rat.lt_irrefl
abbrev Pk:=@Array.size_append
abbrev Pj:=@List.drop_length
abbrev XM:=@Nat.sub_zero
abbrev XL:=@Nat.le_total
abbrev J1:=@Array.toList_map
abbrev J0:=@Int.mul_comm
abbrev JZ:=@Nat.log2_self_le
abbrev Pi:=@Nat.min_eq_right
abbrev FS:=@Nat.div_eq_of_lt
abbrev JY:=@Nat.le_of_lt
abbrev Ph:=@Rat.ne_of_gt
abbrev JX:=@Int.le_total
abbrev Pg:=@Bool.or_true
abbrev Pf:=@Int.max_eq_right
abbrev Pe:=@Int.min_eq_right
abbrev JW:=@Int.ediv_nonneg
abbrev JV:=@Option.map_none
abbrev JU:=@Rat.natCast_pos
abbrev JT:=@List.Perm.trans
abbrev Pd:=@Int.max_eq_left
abbrev Pc:=@Int.min_eq_left
abbrev Pb:=@Bool.decide_and
abbrev Pa:=@Int.mul_pos
abbrev O9:=@Rat.div_def
abbrev O8:=@List.drop_take
abbrev O7:=@List.drop_drop
abbrev O6:=@Int.natAbs_mul
abbrev JS:=@List.Perm.swap
abbrev JR:=@Int.natAbs_neg
theorem aa{a:Prop}(h:a:=by omega):a:=h
theorem qK{a:Prop}(h:a:=by simp;omega):a:=h
theorem dK{a:Prop}(h:a:=by simp):a:=h
theorem br{a:Prop}(h:a:=by kernel_rfl):a:=h
theorem bz{a:Prop}(h:a:=by decide):a:=h
theorem df{a:Prop}(h:a:=by grind):a:=h
theorem dp{a:Prop}(h:a:=by simp only[maxLen];omega):a:=h
theorem Dh{a:Prop}(h:a:=by dsimp only;omega):a:=h
theorem Ba{a:Prop}(h:a:=by exact rfl):a:=h
section
variable {a b:Prop}
theorem ce (h:b->a:=by intro k;exact UE k):b->a:=h
theorem cJ (h:b->a:=by intro k;exact aig k):b->a:=h
theorem gb (h:b->a:=by intro k;exact Nm O O k):b->a:=h
theorem lJ (h:b->a:=by intro k;exact mj k):b->a:=h
theorem ir (h:b->a:=by intro k;exact .norm k):b->a:=h
theorem W9 (h:b->a:=by intro k;exact HX ab O O O pA Ba nA O O k):b->a:=h
theorem aB (h:b->a:=by intro k;exact eV O O k):b->a:=h
theorem xY (h:b->a:=by intro k;exact go_ret k):b->a:=h
theorem kS (h:b->a:=by intro k;exact aH [] [] k):b->a:=h
theorem gk (h:a:=by exact⟨⟨O,O⟩,O⟩):a:=h
theorem aq (h:b->a:=by intro k;exact aie ab O O O k):b->a:=h
theorem dH (h:b->a:=by intro k;first|exact HT ab O O O O k|exact Nh ab O O O mA O k):b->a:=h
theorem C4 (h:b->a:=by intro k;exact aj eA call136 (NN) k):b->a:=h
theorem C0 (h:b->a:=by intro k;exact Na O O aa aa O k):b->a:=h
theorem x7 (h:b->a:=by intro k;exact Uq O O O k):b->a:=h
theorem A0 (h:b->a:=by intro k;exact aif k):b->a:=h
theorem cN (h:b->a:=by intro k;exact Uy ab O O O pA Ba nA O k):b->a:=h
theorem de (h:b->a:=by intro k;first|exact M8 ab O O O O O uA (by exact O) k|exact M8 ab O O O O (by simp[gN, *]) uA (by exact O) k|exact Um ab O O O uA (by exact O) (by exact O) (by exact O) (by exact O) nA k):b->a:=h
theorem cg (h:b->a:=by intro k;exact ah6 O O k):b->a:=h
theorem eH (h:b->a:=by intro k;first|exact su ab O O O mA O O k|exact aK ab O O O (oD (k:=2) mA) O O k):b->a:=h
theorem CX (h:b->a:=by intro k;exact cz cw 7 [] [] k):b->a:=h
theorem iU (h:b->a:=by intro k;exact ac O (b9 ab O O O O) k):b->a:=h
theorem qD (h:b->a:=by intro k;exact ac O (az ab O O O (bj mA O O) O) k):b->a:=h
theorem zp (h:b->a:=by intro k;exact ac O (by first|exact HT ab O O O O|exact Nh ab O O O mA O) k):b->a:=h
theorem Xg (h:b->a:=by intro k;exact ac O (Nb O O aa aa (iA) O) k):b->a:=h
theorem zo (h:b->a:=by intro k;exact aj6 br k):b->a:=h
theorem Xf (h:b->a:=by intro k;exact Uh yA k):b->a:=h
theorem cQ (h:b->a:=by intro k;exact b9 ab O O O O k):b->a:=h
theorem gG (h:b->a:=by intro k;exact az ab O O O (bj mA O O) O k):b->a:=h
theorem bh (h:b->a:=by intro k;exact ac O (eV O O) k):b->a:=h
theorem Fv (h:b->a:=by intro k;exact ac O (Nd O O (iA) O) k):b->a:=h
theorem wN (h:b->a:=by intro k;exact ac O (EV O O (iA) O) k):b->a:=h
theorem ny (h:b->a:=by intro k;exact ac O (Uy ab O O O pA Ba nA O) k):b->a:=h
theorem Ji (h:b->a:=by intro k;exact aj eA call98 (jB) k):b->a:=h
theorem kT (h:b->a:=by intro k;exact HW O O O k):b->a:=h
theorem wK (h:b->a:=by intro k;exact ab6 (.head _) k):b->a:=h
theorem uk (h:b->a:=by intro k;exact aK ab O O O (aR mA) O O k):b->a:=h
theorem CT (h:b->a:=by intro k;exact ab7 (.head _) k):b->a:=h
theorem rE (h:b->a:=by intro k;exact ahO ab O O O O k):b->a:=h
theorem pF (h:b->a:=by intro k;exact ain O k):b->a:=h
theorem gV (h:b->a:=by intro k;exact .ret k):b->a:=h
theorem gL (h:b->a:=by intro k;exact aio O k):b->a:=h
theorem Xc (h:b->a:=by intro k;exact UA ab O O O O k):b->a:=h
theorem CO (h:b->a:=by intro k;exact iL O O k):b->a:=h
theorem Xa (h:b->a:=by intro k;exact Ui br yA k):b->a:=h
theorem oj (h:b->a:=by intro k;exact⟨_,O,k⟩):b->a:=h
theorem px (h:b->a:=by intro k;exact mj (.norm ⟨⟨_,O⟩,k⟩)):b->a:=h
theorem gU (h:b->a:=by intro k;exact aip k):b->a:=h
theorem I3 (h:b->a:=by intro k;first|exact su ab O O O mA O O k|exact aK ab O O O (oD (k:=5) mA) O O k):b->a:=h
theorem Oy (h:b->a:=by intro k;exact aj eA call135 (Rm) k):b->a:=h
theorem xZ (h:b->a:=by intro k;exact EU O O O k):b->a:=h
theorem Ox (h:b->a:=by intro k;exact aj eA call139 (afn) k):b->a:=h
theorem Ow (h:b->a:=by intro k;exact aic O O O k):b->a:=h
theorem dm (h:b->a:=by intro k;exact EV O O (iA) O k):b->a:=h
theorem AT (h:b->a:=by intro k;exact ail k):b->a:=h
theorem wy (h:b->a:=by intro k;exact .exit k):b->a:=h
theorem Fp (h:b->a:=by intro k;exact .here k):b->a:=h
theorem I2 (h:b->a:=by intro k;exact aj eA call138 (afl) k):b->a:=h
theorem ww (h:a:=by exact⟨⟨_,_,O,O⟩,O⟩):a:=h
theorem AS (h:b->a:=by intro k;exact HV O O O k):b->a:=h
theorem Ov (h:b->a:=by intro k;exact aj eA call90 (aeX) k):b->a:=h
theorem vk (h:a:=by exact⟨⟨_,O,O⟩,O⟩):a:=h
theorem Ou (h:b->a:=by intro k;exact UC (r:=0) O O O O k):b->a:=h
theorem I1 (h:b->a:=by intro k;exact vZ ab O O O O (rfl) O k):b->a:=h
theorem jg (h:b->a:=by intro k;exact EP O O (iA) O k):b->a:=h
theorem Fo (h:b->a:=by intro k;exact aj eA call103 (LY) k):b->a:=h
theorem iQ (h:b->a:=by intro k;exact ah O O (b9 ab O O O O k)):b->a:=h
theorem W8 (h:b->a:=by intro k;exact ah O O (az ab O O O (bj mA O O) O k)):b->a:=h
theorem I0 (h:b->a:=by intro k;exact ah O O (HW O O O k)):b->a:=h
theorem fD (h:b->a:=by intro k;exact Ce O O O k):b->a:=h
theorem gq (h:b->a:=by intro k;first|exact su ab O O O mA O O k|exact aK ab O O O (oD (k:=4) mA) O O k):b->a:=h
theorem eD (h:b->a:=by intro k;exact ah4 ab O O O O O O nA O O pA Ba nA O O k):b->a:=h
theorem IZ (h:b->a:=by intro k;exact aj eA call58 (xr) k):b->a:=h
theorem gn (h:b->a:=by intro k;first|exact ahF ab O O O O O O uA k|exact Um ab O O O uA (by exact O) (by exact O) (by exact O) (by exact O) nA k):b->a:=h
theorem jf (h:b->a:=by intro k;exact ac O (by first|exact su ab O O O mA O O|exact aK ab O O O (oD (k:=2) mA) O O) k):b->a:=h
theorem W7 (h:a:=by exact⟨⟨by simp_all [bw,tz],O⟩,O⟩):a:=h
theorem AR (h:b->a:=by intro k;exact cz cw 12 [] [] k):b->a:=h
theorem AQ (h:b->a:=by intro k;exact ac O (EP O O (iA) O) k):b->a:=h
theorem fN (h:b->a:=by intro k;exact ah O O (eV O O k)):b->a:=h
theorem y6 (h:a:=by exact⟨⟨by simp_all [bw,Aq];try (intros;omega),O⟩,O⟩):a:=h
theorem jK (h:b->a:=by intro k;exact Uk O O O gA k):b->a:=h
theorem gm (h:b->a:=by intro k;exact Cf O O O k):b->a:=h
theorem AP (h:b->a:=by intro k;exact cz cw 9 [] [] k):b->a:=h
theorem CN (h:b->a:=by intro k;exact ac O (Na O O aa aa O) k):b->a:=h
theorem W6 (h:b->a:=by intro k;exact Nb O O aa aa (iA) O k):b->a:=h
theorem xX (h:b->a:=by intro k;exact Nd O O (iA) O k):b->a:=h
theorem IY (h:a:=by exact⟨⟨by simp_all [bw,bey];try (intros;omega),O⟩,O⟩):a:=h
theorem wv (h:b->a:=by intro k;exact ac O (Nm O O) k):b->a:=h
theorem alF (h:b->a:=by intro k;exact ah O O (EU O O O k)):b->a:=h
theorem alE (h:b->a:=by intro k;exact ah O O (Nj O O O k)):b->a:=h
theorem IX (h:b->a:=by intro k;exact ah O O (ly O O O O k)):b->a:=h
theorem IW (h:a:=by exact⟨⟨by simp_all [bw,Ai],O⟩,O⟩):a:=h
theorem ns (h:b->a:=by intro k;exact ly O O O O k):b->a:=h
theorem xW (h:a:=by exact⟨⟨by simp_all [bw],O⟩,O⟩):a:=h
theorem kR (h:b->a:=by intro k;exact sC O O O k):b->a:=h
theorem fM (h:b->a:=by intro k;exact az ab O O O (mm mA) O k):b->a:=h
theorem jV (h:b->a:=by intro k;exact ahU O O O O k):b->a:=h
theorem wu (h:b->a:=by intro k;exact cC O (az ab O O O (mm mA) O) k):b->a:=h
theorem kQ (h:b->a:=by intro k;exact cC O (eV O O) k):b->a:=h
theorem W5 (h:b->a:=by intro k;exact Ui br zA k):b->a:=h
theorem um (h:b->a:=by intro k;exact Uh zA k):b->a:=h
theorem XE (h:b->a:=by intro k;exact aK ab O O O (oD (k:=4) mA) O O k):b->a:=h
theorem qF (h:b->a:=by intro k;exact ah5 O O O k):b->a:=h
theorem nH (h:b->a:=by intro k;exact aid ab O O O O k):b->a:=h
theorem iW (h:b->a:=by intro k;exact Nf eA eA O k):b->a:=h
theorem JJ (h:b->a:=by intro k;exact cz cw 5 [] [] k):b->a:=h
theorem nG (h:b->a:=by intro k;exact ac O (az ab O O O (mm mA) O) k):b->a:=h
theorem C6 (h:b->a:=by intro k;exact cz cw 8 [] [] k):b->a:=h
theorem JI (h:b->a:=by intro k;exact ac O (by first|exact su ab O O O mA O O|exact aK ab O O O (oD (k:=4) mA) O O) k):b->a:=h
theorem vG (h:b->a:=by intro k;exact ac O (iL O O) k):b->a:=h
theorem C5 (h:b->a:=by intro k;exact Us O O O k):b->a:=h
theorem oR (h:b->a:=by intro k;exact vX O O k):b->a:=h
theorem A2 (h:b->a:=by intro k;exact ahZ ab O O O O O k):b->a:=h
theorem OT (h:b->a:=by intro k;exact az ab O O O (mm mF) O k):b->a:=h
theorem XD (h:b->a:=by intro k;exact ahK ab O O O O O k):b->a:=h
theorem JH (h:b->a:=by intro k;exact cz cw 6 [5] [5] k):b->a:=h
theorem zx (h:b->a:=by intro k;exact cC O (b9 ab O O O O) k):b->a:=h
theorem JG (h:a:=by exact⟨⟨by simp_all [bw,iN],O⟩,O⟩):a:=h
theorem JF (h:a:=by exact⟨⟨by simp_all [bw,wa],O⟩,O⟩):a:=h
theorem OS (h:a:=by exact⟨⟨(_,_),O,O⟩,O⟩):a:=h
theorem XC (h:a:=by exact⟨⟨by simp_all [bw,jc],O⟩,O⟩):a:=h
theorem XB (h:a:=by exact⟨⟨by simp_all [bw,aV],O⟩,O⟩):a:=h
theorem zw (h:b->a:=by intro k;first|exact ah O O (su ab O O O mA O O k)|exact ah O O (aK ab O O O (oD (k:=2) mA) O O k)):b->a:=h
theorem XA (h:a:=by exact⟨⟨by simp_all [bw,lG],O⟩,O⟩):a:=h
theorem zu (h:b->a:=by intro k;exact cC O (aK ab O O O (aR mA) O O) k):b->a:=h
theorem Xz (h:a:=by exact⟨⟨by simp_all [bw,xT],O⟩,O⟩):a:=h
theorem alK (h:b->a:=by intro k;exact cz cw 38 [] [] k):b->a:=h
theorem pT (h:b->a:=by intro k;exact ac O (Uk O O O gA) k):b->a:=h
theorem jN (h:b->a:=by intro k;exact ac O (Cf O O O) k):b->a:=h
theorem iV (h:b->a:=by intro k;exact ac O (Ce O O O) k):b->a:=h
theorem OR (h:b->a:=by intro k;exact cz cw 37 [] [] k):b->a:=h
theorem sR (h:b->a:=by intro k;exact ac O (Uj O O gA) k):b->a:=h
theorem C3 (h:b->a:=by intro k;exact ah O O (Ce O O O k)):b->a:=h
theorem FG (h:b->a:=by intro k;exact Uj O O gA k):b->a:=h
theorem JE (h:b->a:=by intro k;exact pk (e:=79) (size:=2) ab O O O O O O (zl:=[aw 0,aw 0]) nA O (l:=0) (cp:=4) O O bz O bz O k):b->a:=h
theorem alJ (h:b->a:=by intro k;exact cz cw 8 [7] [7] k):b->a:=h
theorem alI (h:b->a:=by intro k;exact cC O (EV O O (iA) O) k):b->a:=h
theorem OQ (h:b->a:=by intro k;exact ac O (bp (s:=2) (i:=0) ab O O O O O aa aa O) k):b->a:=h
theorem JD (h:b->a:=by intro k;exact ac O (bp (s:=2) (i:=1) ab O O O O O aa aa O) k):b->a:=h
theorem OP (h:b->a:=by intro k;exact ah O O (Cf O O O k)):b->a:=h
theorem OO (h:b->a:=by intro k;exact aj eA call137 (LW) k):b->a:=h
theorem FE (h:b->a:=by intro k;exact Bc k):b->a:=h
theorem JC (h:b->a:=by intro k;exact cz cw 10 [] [] k):b->a:=h
theorem ON (h:b->a:=by intro k;exact ah O O (EP O O (iA) O k)):b->a:=h
theorem OM (h:b->a:=by intro k;exact Nj O O O k):b->a:=h
theorem Xy (h:b->a:=by intro k;exact .exit O k):b->a:=h
theorem OL (h:b->a:=by intro k;exact ah O O (EV O O (iA) O k)):b->a:=h
theorem OK (h:b->a:=by intro k;exact vZ ab O O O O (zZ aa aa) O k):b->a:=h
theorem FD (h:b->a:=by intro k;exact vZ ab O O O O (P4 aa) O k):b->a:=h
theorem JB (h:b->a:=by intro k;exact ah O O (vX O O k)):b->a:=h
theorem rO (h:a:=by exact(BS aa aa aa).1):a:=h
theorem OJ (h:b->a:=by intro k;exact ac O (aK ab O O O (jp (k:=0) (m:=2) (bD mA)) O O) k):b->a:=h
theorem Xx (h:b->a:=by intro k;exact ac O (aK ab O O O (bD mA) O O) k):b->a:=h
theorem vF (h:b->a:=by intro k;exact cz cw 11 [] [] k):b->a:=h
theorem CZ (h:b->a:=by intro k;exact ac O (aK ab O O O (aR mA) O O) k):b->a:=h
theorem Xw (h:b->a:=by intro k;exact ac O (vX O O) k):b->a:=h
theorem zt (h:b->a:=by intro k;exact ahM ab O O O O k):b->a:=h
theorem Xv (h:b->a:=by intro k;exact aK ab O O O (oD (k:=2) mA) O O k):b->a:=h
theorem A1 (h:a:=by exact⟨(),trivial,lA,kA,fA,hA⟩):a:=h
theorem Xu (h:b->a:=by intro k;first|exact ah O O (su ab O O O mA O O k)|exact ah O O (aK ab O O O (oD (k:=4) mA) O O k)):b->a:=h
theorem AZ (h:b->a:=by intro k;exact ahN O k):b->a:=h
theorem Xt (h:b->a:=by intro k;exact yi.trans (Bd _ k)):b->a:=h
theorem AY (h:b->a:=by intro k;exact ac O (HX ab O O O pA Ba nA O O) k):b->a:=h
theorem JA (h:b->a:=by intro k;exact ac O (sC O O O) k):b->a:=h
theorem CY (h:b->a:=by intro k;exact cz cw 6 [] [] k):b->a:=h
theorem FC (h:b->a:=by intro k;exact aih k):b->a:=h
theorem Jz (h:b->a:=by intro k;exact fg (s:=1) (i:=0) ab O O O O O aa (by show _<2;omega) O k):b->a:=h
theorem Jy (h:b->a:=by intro k;exact cz cw 27 [] [] k):b->a:=h
theorem Jx (h:b->a:=by intro k;exact cz cw 20 [] [] k):b->a:=h
theorem alH (h:b->a:=by intro k;exact ac O (fg (s:=2) (i:=0) ab O O O O O aa (by show _<2;omega) O) k):b->a:=h
theorem alG (h:b->a:=by intro k;exact fg (s:=2) (i:=0) ab O O O O O aa (by show _<2;omega) O k):b->a:=h
theorem Jw (h:b->a:=by intro k;exact fg (s:=1) (i:=1) ab O O O O O aa (by show _<2;omega) O k):b->a:=h
theorem wT (h:b->a:=by intro k;exact ac O (fg (s:=1) (i:=0) ab O O O O O aa (by show _<2;omega) O) k):b->a:=h
theorem Jv (h:b->a:=by intro k;exact ac O (fg (s:=1) (i:=1) ab O O O O O aa (by show _<2;omega) O) k):b->a:=h
theorem AX (h:b->a:=by intro k;exact ab8 k):b->a:=h
theorem Xs (h:b->a:=by intro k;exact cz cw 35 [] [] k):b->a:=h
theorem zr (h:b->a:=by intro k;exact ah O O (iL O O k)):b->a:=h
theorem zq (h:b->a:=by intro k;first|exact ah O O (HT ab O O O O k)|exact ah O O (Nh ab O O O mA O k)):b->a:=h
theorem Xr (h:b->a:=by intro k;exact ah O O (aL O O (rfl) O k)):b->a:=h
theorem Ju (h:b->a:=by intro k;exact aj eA call423 (Lq) k):b->a:=h
theorem Xq (h:b->a:=by intro k;exact ac O (aK ab O O O (jp (k:=1) (m:=4) (bD mA)) O O) k):b->a:=h
theorem lQ (h:b->a:=by intro k;exact aK ab O O O (bD mA) O O k):b->a:=h
theorem Jt (h:b->a:=by intro k;exact cz cw 14 [] [] k):b->a:=h
theorem Xp (h:b->a:=by intro k;exact ac O (fg (s:=2) (i:=0) ab O O O O O aa (by show _<4;omega) O) k):b->a:=h
theorem Xo (h:b->a:=by intro k;exact ac O (fg (s:=2) (i:=1) ab O O O O O aa (by show _<4;omega) O) k):b->a:=h
theorem Xn (h:b->a:=by intro k;exact ac O (fg (s:=2) (i:=2) ab O O O O O aa (by show _<4;omega) O) k):b->a:=h
theorem Xm (h:b->a:=by intro k;exact ac O (fg (s:=2) (i:=3) ab O O O O O aa (by show _<4;omega) O) k):b->a:=h
theorem FB (h:b->a:=by intro k;exact ah O O (az ab O O O (mm mA) O k)):b->a:=h
theorem OI (h:b->a:=by intro k;exact cz cw 29 [] [] k):b->a:=h
theorem Js (h:a:=by exact aj4 _ _):a:=h
theorem FA (h:b->a:=by intro k;exact az ab O O O (cY (j:=2) (bD mA) O) O k):b->a:=h
theorem Jr (h:b->a:=by intro k;exact ahR ab O O O O O k):b->a:=h
theorem OH (h:b->a:=by intro k;exact cz cw 15 [] [] k):b->a:=h
theorem OG (h:b->a:=by intro k;exact az ab O O O (cY (j:=0) (bD mA) O) O k):b->a:=h
theorem Xl (h:b->a:=by intro k;exact ah O O (az ab O O O (cY (j:=0) (bD mA) O) O k)):b->a:=h
theorem Jq (h:b->a:=by intro k;exact ah O O (az ab O O O (cY (j:=1) (bD mA) O) O k)):b->a:=h
theorem Xk (h:a:=by exact⟨⟨⟨0,0,_,_,_,⟨O,O,O⟩,O⟩,O⟩,O⟩):a:=h
theorem Xj (h:b->a:=by intro k;exact az ab O O O (cY (j:=3) (bD mA) O) O k):b->a:=h
theorem Jp (h:b->a:=by intro k;exact az ab O O O (cY (j:=4) (bD mA) O) O k):b->a:=h
theorem Xi (h:b->a:=by intro k;exact ah O O (az ab O O O (cY (j:=3) (bD mA) O) O k)):b->a:=h
theorem aN (h:b->a:=by exact(lJ)∘(ir)):b->a:=h
theorem ba (h:b->a:=by exact(ce)∘(cJ)):b->a:=h
theorem bt (h:b->a:=by exact(gb)∘(aN)):b->a:=h
theorem dY (h:b->a:=by exact(ba)∘(kT)∘(bt)):b->a:=h
theorem Fz (h:b->a:=by exact(dY)∘(gL)∘(dY)∘(gL)∘(dY)):b->a:=h
theorem bJ (h:b->a:=by exact(ba)∘(aB)):b->a:=h
theorem lP (h:b->a:=by exact(jK)∘(jK)∘(jK)):b->a:=h
theorem vw (h:b->a:=by exact(pT)∘(pT)):b->a:=h
theorem qE (h:b->a:=by exact(vw)∘(vw)∘(vw)):b->a:=h
theorem nF (h:b->a:=by exact(AT)∘(wy)∘(wy)∘(Fp)):b->a:=h
theorem eG (h:b->a:=by exact(nF)∘(ir)):b->a:=h
theorem dW (h:b->a:=by exact(cQ)∘(gG)):b->a:=h
theorem bX (h:b->a:=by exact(A0)∘(ir)):b->a:=h
theorem cu (h:b->a:=by exact(de)∘(aN)):b->a:=h
theorem bO (h:b->a:=by exact(bt)∘(xY)):b->a:=h
theorem aY (h:b->a:=by exact(cJ)∘(aB)):b->a:=h
theorem cR (h:b->a:=by exact(ba)∘(eH)):b->a:=h
theorem qA (h:b->a:=by exact(dm)∘(aB)):b->a:=h
theorem lO (h:b->a:=by exact(ir)∘(cJ)∘(qA)∘(aN)):b->a:=h
theorem au (h:b->a:=by exact(ba)∘(cg)):b->a:=h
theorem bR (h:b->a:=by exact(bt)∘(ce)):b->a:=h
theorem Fu (h:b->a:=by exact(bX)∘(bJ)):b->a:=h
theorem gw (h:b->a:=by exact(bO)∘(kS)):b->a:=h
theorem pS (h:a:=by exact(Fu)<|(dW)<|(xX)<|(aB)<|(dm)<|(xX)<|(aB)<|(dm)<|(C0)<|(dm)<|(gw)<|IY):a:=h
theorem cn (h:b->a:=by exact(aN)∘(ce)):b->a:=h
theorem cM (h:b->a:=by exact(ba)∘(xZ)∘(cn)):b->a:=h
theorem vv (h:b->a:=by exact(gV)∘(gV)):b->a:=h
theorem ul (h:b->a:=by exact(vv)∘(gV)):b->a:=h
theorem iS (h:b->a:=by exact(iU)∘(qD)):b->a:=h
theorem fa (h:b->a:=by exact(vG)∘(iU)):b->a:=h
theorem jY (h:b->a:=by exact(zo)∘(Xf)):b->a:=h
theorem pR (h:b->a:=by exact(JJ)∘(iS)∘(nG)∘(fa)∘(jY)∘(alG)∘(cQ)):b->a:=h
theorem om (h:b->a:=by exact(bX)∘(ce)):b->a:=h
theorem j5 (h:b->a:=by exact(om)∘(gU)):b->a:=h
theorem fR (h:b->a:=by exact(ba)∘(dW)):b->a:=h
theorem mJ (h:b->a:=by exact(bO)∘(gV)):b->a:=h
theorem jZ (h:b->a:=by exact(mJ)∘(kS)):b->a:=h
theorem fb (h:b->a:=by exact(bJ)∘(aB)):b->a:=h
theorem zb (h:b->a:=by exact(ir)∘(aY)):b->a:=h
theorem jM (h:b->a:=by exact(zb)∘(dm)∘(bt)):b->a:=h
theorem eF (h:b->a:=by exact(cu)∘(xY)):b->a:=h
theorem gH (h:b->a:=by exact(aN)∘(gL)∘(bX)):b->a:=h
theorem eK (h:b->a:=by exact(cQ)∘(eH)):b->a:=h
theorem Xh (h:b->a:=by exact(ba)∘(eK)∘(aq)):b->a:=h
theorem dG (h:b->a:=by exact(aB)∘(aB)):b->a:=h
theorem dU (h:b->a:=by exact(px)∘(Xa)∘(oj)):b->a:=h
theorem dF (h:b->a:=by exact(aN)∘(gU)):b->a:=h
theorem gW (h:b->a:=by exact(dH)∘(aB)∘(dF)):b->a:=h
theorem gM (h:b->a:=by exact(cR)∘(eH)):b->a:=h
theorem fq (h:b->a:=by exact(bt)∘(gM)∘(eH)):b->a:=h
theorem OF (h:b->a:=by exact(sR)∘(sR)∘(sR)∘(sR)∘(sR)∘(sR)∘(sR)∘(sR)):b->a:=h
theorem nD (h:b->a:=by exact(vv)∘(kS)):b->a:=h
theorem cW (h:b->a:=by exact(fR)∘(dW)∘(ns)∘(bO)∘(nD)):b->a:=h
theorem cO (h:b->a:=by exact(aY)∘(aB)):b->a:=h
theorem Fy (h:b->a:=by exact(CO)∘(cQ)):b->a:=h
theorem cV (h:a:=by exact(gw)<|gk):a:=h
theorem dT (h:b->a:=by exact(zo)∘(Xa)∘(oj)):b->a:=h
theorem cF (h:b->a:=by exact(bt)∘(bJ)):b->a:=h
theorem vE (h:b->a:=by exact(aN)∘(pF)):b->a:=h
theorem kW (h:b->a:=by exact(bX)∘(fR)∘(dW)∘(ns)∘(jZ)):b->a:=h
theorem CW (h:b->a:=by exact(aB)∘(kR)∘(kR)):b->a:=h
theorem nz (h:b->a:=by exact(bt)∘(gU)):b->a:=h
theorem vD (h:b->a:=by exact(ba)∘(nz)):b->a:=h
theorem lL (h:b->a:=by exact(ce)∘(fb)):b->a:=h
theorem kU (h:b->a:=by exact(xZ)∘(aN)):b->a:=h
theorem lN (h:b->a:=by exact(lL)∘(kU)):b->a:=h
theorem wR (h:b->a:=by exact(aB)∘(lP)):b->a:=h
theorem iC (h:b->a:=by exact(bR)∘(bJ)):b->a:=h
theorem eE (h:b->a:=by exact(ce)∘(bJ)):b->a:=h
theorem fo (h:b->a:=by exact(bt)∘(ba)):b->a:=h
theorem ic (h:b->a:=by exact(aB)∘(fN)):b->a:=h
theorem Fx (h:b->a:=by exact(jK)∘(fD)∘(wR)∘(jK)∘(fD)):b->a:=h
theorem vA (h:b->a:=by exact(iQ)∘(W8)):b->a:=h
theorem eZ (h:b->a:=by exact(aN)∘(ba)):b->a:=h
theorem dS (h:b->a:=by exact(cu)∘(ce)):b->a:=h
theorem ot (h:b->a:=by exact(dF)∘(Fz)∘(gL)):b->a:=h
theorem iz (h:b->a:=by exact(bt)∘(fb)):b->a:=h
theorem pO (h:b->a:=by exact(dY)∘(pF)∘(cR)):b->a:=h
theorem wP (h:b->a:=by exact(jK)∘(jK)∘(gm)):b->a:=h
theorem rN (h:a:=by exact(eF)<|(kS)<|gk):a:=h
theorem eY (h:b->a:=by exact(ce)∘(fR)∘(ns)∘(aB)):b->a:=h
theorem fm (h:b->a:=by exact(fD)∘(aN)):b->a:=h
theorem lM (h:b->a:=by exact(cu)∘(Xh)):b->a:=h
theorem iR (h:b->a:=by exact(bt)∘(ir)):b->a:=h
theorem zn (h:b->a:=by exact(bh)∘(bh)):b->a:=h
theorem pN (h:b->a:=by exact(cQ)∘(dW)∘(cQ)∘(dW)):b->a:=h
theorem jX (h:a:=by exact(ba)<|(jZ)<|IY):a:=h
theorem iy (h:b->a:=by exact(px)∘(Xf)):b->a:=h
theorem zm (h:b->a:=by exact(iS)∘(nG)∘(fa)∘(alH)∘(iU)):b->a:=h
theorem CV (h:b->a:=by exact(AT)∘(wy)∘(Xy)∘(wy)∘(Fp)):b->a:=h
theorem qC (h:b->a:=by exact(aN)∘(bJ)):b->a:=h
theorem jh (h:b->a:=by exact(eG)∘(ce)):b->a:=h
theorem fP (h:b->a:=by exact(bt)∘(fR)):b->a:=h
theorem ix (h:b->a:=by exact(j5)∘(ba)):b->a:=h
theorem rI (h:b->a:=by exact(cJ)∘(cQ)):b->a:=h
theorem jt (h:b->a:=by exact(rI)∘(OG)∘(cQ)∘(OG)):b->a:=h
theorem vr (h:b->a:=by exact(jf)∘(bh)):b->a:=h
theorem pM (h:b->a:=by exact(vr)∘(wN)∘(bh)∘(wN)∘(ny)∘(AY)∘(jY)∘(eF)∘(kS)):b->a:=h
theorem zk (h:b->a:=by exact(dW)∘(dW)):b->a:=h
theorem js (h:b->a:=by exact(aY)∘(eH)):b->a:=h
theorem pL (h:b->a:=by exact(Fz)∘(pF)∘(cR)):b->a:=h
theorem rM (h:b->a:=by exact(aN)∘(lO)):b->a:=h
theorem rL (h:b->a:=by exact(bt)∘(cR)):b->a:=h
theorem oq (h:b->a:=by exact(wR)∘(lP)):b->a:=h
theorem pK (h:b->a:=by exact(fD)∘(vE)):b->a:=h
theorem fO (h:a:=by exact(oq)<|(jK)<|(pK)<|(ba)<|(lQ)<|(de)<|(jZ)<|Xk):a:=h
theorem iw (h:b->a:=by exact(cN)∘(eF)):b->a:=h
theorem Jo (h:b->a:=by exact(cu)∘(gM)∘(eH)):b->a:=h
theorem Jn (h:b->a:=by exact(bh)∘(qE)∘(vw)):b->a:=h
theorem rK (h:b->a:=by exact(j5)∘(bJ)):b->a:=h
theorem jW (h:b->a:=by exact(aB)∘(vA)∘(fN)∘(fN)):b->a:=h
theorem x6 (h:b->a:=by exact(fa)∘(jY)∘(Jz)):b->a:=h
theorem gu (h:b->a:=by exact(aN)∘(cR)):b->a:=h
theorem jr (h:b->a:=by exact(bt)∘(lO)):b->a:=h
theorem mE (h:b->a:=by exact(bh)∘(fa)):b->a:=h
theorem Fw (h:b->a:=by exact(ce)∘(Xs)∘(nG)∘(bh)∘(nG)∘(mE)):b->a:=h
theorem kV (h:b->a:=by exact(bX)∘(gU)):b->a:=h
theorem rJ (h:b->a:=by exact(px)∘(um)):b->a:=h
theorem iu (h:b->a:=by exact(aN)∘(fR)):b->a:=h
theorem wO (h:b->a:=by exact(cu)∘(cR)):b->a:=h
theorem jL (h:b->a:=by exact(bR)∘(fb)):b->a:=h
theorem kw (h:b->a:=by exact(fN)∘(vA)∘(alE)∘(gm)):b->a:=h
theorem zj (h:b->a:=by exact(aB)∘(jK)∘(jK)∘(fD)):b->a:=h
theorem zi (h:b->a:=by exact(AT)∘(wy)∘(Fp)):b->a:=h
theorem vu (h:b->a:=by exact(bh)∘(vG)∘(iS)):b->a:=h
theorem vt (h:b->a:=by exact(gm)∘(aN)):b->a:=h
theorem kr (h:b->a:=by exact(dU)∘(cN)∘(iy)∘(cu)):b->a:=h
theorem zh (h:b->a:=by exact(bR)∘(alJ)∘(kQ)∘(kQ)):b->a:=h
theorem ze (h:b->a:=by exact(aB)∘(iQ)∘(Xl)∘(iQ)∘(Xl)):b->a:=h
theorem CU (h:b->a:=by exact(eG)∘(bJ)):b->a:=h
theorem mI (h:b->a:=by exact(ba)∘(bO)):b->a:=h
theorem mH (h:b->a:=by exact(cJ)∘(eH)):b->a:=h
theorem nC (h:b->a:=by exact(vA)∘(IX)):b->a:=h
theorem mG (h:a:=by exact(jZ)<|gk):a:=h
theorem Jm (h:b->a:=by exact(zw)∘(zw)):b->a:=h
theorem pJ (h:b->a:=by exact(gm)∘(gH)):b->a:=h
theorem mD (h:b->a:=by exact(dG)∘(aB)):b->a:=h
theorem Jl (h:b->a:=by exact(ba)∘(cF)):b->a:=h
theorem nu (h:b->a:=by exact(iC)∘(gW)):b->a:=h
theorem sO (h:b->a:=by exact(dH)∘(kT)):b->a:=h
theorem oo (h:b->a:=by exact(iS)∘(iS)):b->a:=h
theorem wM (h:b->a:=by exact(eF)∘(gV)):b->a:=h
theorem oQ (h:b->a:=by exact(bR)∘(vD)):b->a:=h
theorem Jk (h:b->a:=by exact(oj)∘(aq)):b->a:=h
theorem Jj (h:a:=by exact(cJ)<|(lQ)<|(lQ)<|(de)<|(cu)<|A1):a:=h
theorem pI (h:b->a:=by exact(ic)∘(fN)):b->a:=h
theorem pH (h:b->a:=by exact(jY)∘(aN)):b->a:=h
theorem mB (h:b->a:=by exact(j5)∘(cR)∘(aB)):b->a:=h
theorem wL (h:b->a:=by exact(ba)∘(aq)):b->a:=h
theorem CQ (h:b->a:=by exact(fR)∘(dG)):b->a:=h
theorem nt (h:b->a:=by exact(CQ)∘(dm)∘(dG)∘(dm)):b->a:=h
theorem ol (h:b->a:=by exact(cF)∘(eH)∘(eH)∘(eH)∘(eH)∘(eD)):b->a:=h
theorem oP (h:b->a:=by exact(iz)∘(ns)∘(gw)):b->a:=h
theorem oO (h:b->a:=by exact(kQ)∘(kQ)∘(alI)):b->a:=h
theorem zd (h:b->a:=by exact(xY)∘(ul)∘(vv)):b->a:=h
theorem zc (h:b->a:=by exact(lP)∘(jK)):b->a:=h
theorem qB (h:b->a:=by exact(cJ)∘(dW)):b->a:=h
theorem lK (h:b->a:=by exact(aN)∘(aY)∘(iR)):b->a:=h
theorem x5 (h:b->a:=by exact(CW)∘(aq)):b->a:=h
theorem pG (h:b->a:=by exact(bR)∘(fR)∘(gW)):b->a:=h
theorem za (h:b->a:=by exact(bJ)∘(ns)∘(jZ)):b->a:=h
theorem y9 (h:b->a:=by exact(eG)∘(ba)):b->a:=h
theorem rH (h:b->a:=by exact(iS)∘(bh)):b->a:=h
theorem rG (h:b->a:=by exact(cF)∘(ns)∘(aN)):b->a:=h
theorem oN (h:b->a:=by exact(aY)∘(lQ)∘(eD)):b->a:=h
theorem y8 (h:b->a:=by exact(ba)∘(fo)):b->a:=h
theorem OE (h:b->a:=by exact(AP)∘(bh)∘(vG)∘(qD)∘(bh)∘(vG)∘(qD)):b->a:=h
theorem Jh (h:b->a:=by exact(oq)∘(FG)∘(FG)∘(FG)∘(FG)∘(FG)∘(jK)):b->a:=h
theorem Jg (h:a:=by exact(vE)<|(gM)<|(iw)<|(nD)<|gk):a:=h
theorem Jf (h:b->a:=by exact(wv)∘(jY)∘(iz)∘(cN)∘(aB)∘(qA)∘(cN)∘(aB)∘(qA)∘(dm)∘(cN)∘(dG)∘(dm)∘(cN)∘(W9)∘(aq)):b->a:=h
theorem Je (h:b->a:=by exact(fN)∘(iQ)∘(Jq)∘(iQ)∘(Jq)):b->a:=h
theorem Ft (h:b->a:=by exact(dY)∘(gL)∘(pO)):b->a:=h
theorem AW (h:b->a:=by exact(xY)∘(ul)∘(gV)):b->a:=h
theorem AV (h:b->a:=by exact(aB)∘(Jm)∘(zw)):b->a:=h
theorem AU (h:b->a:=by exact(cn)∘(bJ)):b->a:=h
theorem y7 (h:b->a:=by exact(cu)∘(js)):b->a:=h
theorem Jd (h:b->a:=by exact(eZ)∘(gG)):b->a:=h
theorem Jc (h:b->a:=by exact(wR)∘(wP)):b->a:=h
theorem sN (h:b->a:=by exact(W5)∘(oj)):b->a:=h
theorem sM (h:a:=by exact(cN)<|rN):a:=h
theorem sL (h:b->a:=by exact(aY)∘(dm)∘(iR)):b->a:=h
theorem uj (h:b->a:=by exact(OM)∘(aN)):b->a:=h
theorem ui (h:b->a:=by exact(rJ)∘(bR)∘(CX)∘(bh)∘(OQ)):b->a:=h
theorem wJ (h:b->a:=by exact(jK)∘(Fx)∘(wR)∘(jK)∘(fm)):b->a:=h
theorem uh (h:b->a:=by exact(pK)∘(ce)∘(gM)∘(eH)):b->a:=h
theorem ug (h:b->a:=by exact(cu)∘(ba)):b->a:=h
theorem qz (h:b->a:=by exact(fM)∘(aB)):b->a:=h
theorem Jb (h:b->a:=by exact(aN)∘(jM)):b->a:=h
theorem sK (h:b->a:=by exact(bh)∘(vw)∘(pT)∘(jN)∘(ny)):b->a:=h
theorem uf (h:b->a:=by exact(kV)∘(ba)):b->a:=h
theorem rF (h:b->a:=by exact(rI)∘(cQ)∘(OG)∘(cQ)∘(cQ)∘(FA)):b->a:=h
theorem Ja (h:b->a:=by exact(oR)∘(aN)):b->a:=h
theorem ue (h:b->a:=by exact(gb)∘(bR)∘(vF)∘(bh)∘(iS)):b->a:=h
theorem OD (h:b->a:=by exact(aN)∘(Xs)∘(nG)∘(fa)):b->a:=h
theorem rD (h:b->a:=by exact(bR)∘(ba)):b->a:=h
theorem ud (h:b->a:=by exact(ot)∘(Fz)∘(gL)):b->a:=h
theorem Fq (h:b->a:=by exact(wR)∘(pJ)∘(eE)):b->a:=h
theorem CS (h:b->a:=by exact(bJ)∘(gb)∘(mJ)):b->a:=h
theorem CR (h:b->a:=by exact(cO)∘(Fy)):b->a:=h
theorem CP (h:b->a:=by exact(j5)∘(ce)):b->a:=h
theorem uc (h:b->a:=by exact(aN)∘(Xh)):b->a:=h
theorem vq (h:b->a:=by exact(vE)∘(ba)):b->a:=h
theorem vp (h:b->a:=by exact(gH)∘(eE)):b->a:=h
theorem ub (h:b->a:=by exact(bR)∘(ce)):b->a:=h
theorem sJ (h:b->a:=by exact(AS)∘(aN)):b->a:=h
theorem vo (h:b->a:=by exact(ce)∘(ce)):b->a:=h
theorem vn (h:b->a:=by exact(oq)∘(vt)∘(gL)∘(eG)):b->a:=h
theorem sI (h:b->a:=by exact(bR)∘(alK)∘(oo)∘(iS)):b->a:=h
theorem vl (h:b->a:=by exact(fN)∘(alF)∘(gm)∘(aB)):b->a:=h
theorem I9 (h:b->a:=by exact(Xc)∘(CO)∘(uk)∘(eF)):b->a:=h
theorem I8 (h:b->a:=by exact(ny)∘(jY)∘(wM)∘(kS)):b->a:=h
theorem I7 (h:a:=by exact(gw)<|vk):a:=h
theorem I6 (h:b->a:=by exact(CW)∘(cQ)∘(cQ)∘(gn)∘(cQ)∘(cQ)∘(gn)∘(eZ)∘(pN)):b->a:=h
theorem I5 (h:b->a:=by exact(cn)∘(fR)):b->a:=h
theorem wI (h:b->a:=by exact(gH)∘(ba)):b->a:=h
theorem Xe (h:b->a:=by exact(bX)∘(cR)):b->a:=h
theorem wH (h:b->a:=by exact(lP)∘(fm)):b->a:=h
theorem wG (h:b->a:=by exact(bt)∘(vD)):b->a:=h
theorem wF (h:b->a:=by exact(CV)∘(ir)∘(fb)∘(AS)∘(bO)):b->a:=h
theorem wE (h:b->a:=by exact(px)∘(sN)∘(cN)∘(rJ)∘(dS)):b->a:=h
theorem wD (h:b->a:=by exact(JJ)∘(iS)∘(nG)∘(x6)):b->a:=h
theorem wC (h:b->a:=by exact(CW)∘(gb)):b->a:=h
theorem OC (h:b->a:=by exact(fb)∘(aB)):b->a:=h
theorem OB (h:b->a:=by exact(bX)∘(ir)):b->a:=h
theorem I4 (h:b->a:=by exact(bt)∘(jM)):b->a:=h
theorem wB (h:b->a:=by exact(ba)∘(iC)):b->a:=h
theorem wA (h:b->a:=by exact(XD)∘(gH)):b->a:=h
theorem wz (h:b->a:=by exact(cu)∘(fR)∘(kT)∘(aB)∘(vA)∘(I0)∘(pK)∘(aY)∘(gq)):b->a:=h
theorem OA (h:b->a:=by exact(Xy)∘(wy)∘(wy)∘(Fp)∘(ir)):b->a:=h
theorem Xd (h:a:=by exact(bJ)<|(xX)<|(aB)<|(dm)<|(C0)<|(dm)<|(bO)<|(nD)<|IY):a:=h
theorem Xb (h:b->a:=by exact(fD)∘(ic)∘(zq)∘(I0)∘(fD)∘(bt)∘(pF)∘(eE)∘(dH)):b->a:=h
theorem Oz (h:b->a:=by exact(rK)∘(bt)∘(cO)∘(dW)∘(aB)):b->a:=h
end
end Go
namespace Go.V
abbrev PH:=Nat->Option Obj
def PH.le (h h':PH):Prop:=∀r o,h r=some o->h' r=some o
theorem PH.le_refl (h:PH):PH.le h h:=λ_ _ x=>x
theorem PH.le_trans {a b c:PH} (h:PH.le a b) (k:PH.le b c):PH.le a c:=λr o x=>k r o (h r o x)
structure an where
 p:PH->Prop
 mono:∀{h h'},PH.le h h'->p h->p h'
abbrev ae:=Nat×Obj
abbrev ids (L:List ae):List Nat:=L.map (·.1)
def cr (Fs:List an) (h:PH):Prop:=∀f∈Fs,f.p h
theorem cr.mono {Fs:List an} {h h':PH} (k:PH.le h h') (a:cr Fs h):cr Fs h':=λf hf=>f.mono k (a f hf)
theorem cr.cons {f:an} {Fs:List an} {h:PH} (a:f.p h) (b:cr Fs h):cr (f::Fs) h:=by
 intro g hg;cases hg with
 |head=>exact a
 |tail _ m=>exact b g m
theorem cr.append {A B:List an} {h:PH} (a:cr A h) (b:cr B h):cr (A++B) h:=by
 intro g hg;rcases bB.1 hg with m|m
 ·exact a g m
 ·exact b g m
structure jU (h:PH) (L:List ae) (w:World):Prop where
 imm:∀r o,h r=some o->w.heap[r]? =some o
 own:∀p∈L,w.heap[p.1]? =some p.2
 nodup:(ids L).Nodup
 apart:∀p∈L,h p.1=none
structure Fr (I:List Nat) (w w':World):Prop where
 os:w'.os=w.os
 tape:w'.tape=w.tape
 output:w'.output=w.output
 size:w.heap.size<=w'.heap.size
 block:∀k,k<w.heap.size->k∉I->w'.heap[k]? =w.heap[k]?
theorem Fr.refl (I:List Nat) (w:World):Fr I w w:=⟨rfl,rfl,rfl,bg _,λ_ _ _=>rfl⟩
structure y5 (h:PH) (I:List Nat) (z:Nat) (h':PH) (L':List ae):Prop where
 imm:∀r,h' r≠none->h r≠none\/r∈I\/z<=r
 own:∀p∈L',p.1∈I\/z<=p.1
structure bC where
 h0:PH
 w0:World
 I:List Nat
structure dN (c:bC) (h:PH) (L:List ae) (w:World):Prop where
 le:PH.le c.h0 h
 sat:jU h L w
 fr:Fr c.I c.w0 w
 new:y5 c.h0 c.I c.w0.heap.size h L
inductive Bx where
 |b (v:Value)
 |no
def Bx.v:Bx->Value
 |.b v=>v
 |.no=>undef
theorem Bx.v_b (v:Value):(Bx.b v).v=v:=rfl
abbrev Fm:=Nat->Bx
def aT (f:Fm) (i:Nat) (v:Value):Fm:=λj=>bif Nat.beq j i then .b v else f j
def gh (f:Fm) (i:Option Nat) (v:Value):Fm:=match i with|some i=>aT f i v|none=>f
def ap (f:Fm):Operand->Bx
 |.tmp t=>f t
 |.const v=> .b v
 |.global g=> .b (.pointer (some ⟨g,0,none⟩))
 |.func k=> .b (.func (.func k) #[] #[])
def rY (f:Fm):List (Nat×Value)->Fm
 |[]=>f
 |(i,v)::l=>aT (rY f l) i v
structure Ag (n:Nat) (a:Act) (f:Fm):Prop where
 size:a.tmps.size=n
 defers:a.defers=[]
 get:∀t,a.tmps.getD t undef=(f t).v
theorem Ag.eval {n:Nat} {a:Act} {f:Fm} (h:Ag n a f):a.eval=λx=>(ap f x).v:=by
 funext x;cases x<;>simp[Act.eval,ap,h.get,Bx.v]
theorem Ag.put {n:Nat} {a:Act} {f:Fm} (h:Ag n a f) (d:Option Nat) (hd:∀i,d=some i->i<n) (v:Value):Ag n (a.put d v) (gh f d v):=by
 cases d with
 |none=>exact h
 |some i=>
  have hi:=hd i rfl;refine⟨by simp[Act.put,h.size],by simp[Act.put,h.defers],λt=>?_⟩;simp only[Act.put,gh,aT];by_cases e:t=i
  ·subst e;simp[gY,h.size,hi,Bx.v]
  ·have hb:Nat.beq t i=false:=by
    cases hb:Nat.beq t i
    ·rfl
    ·exact absurd (nO hb) e
   have hne:¬i=t:=λx=>e x.symm;rw[hb];simp only[cond_false];rw[<-h.get t];simp[gY,hne]
abbrev bG:=Exit->Fm->List an->List ae->Prop
def jR (c:bC) (n:Nat) (Q:bG):Exit->Act->World->Prop
 |.outgrown,_,_=>False
 |.panic _,_,_=>False
 |e,a,w=>∃f Fs L h,Ag n a f/\dN c h L w/\cr Fs h/\Q e f Fs L
theorem Tc {c:bC} {n:Nat} {Q:bG} {p:Prop} (h:LetsOut (jR c n Q)):p:=by obtain⟨_,_,h⟩:=h;exact h.elim
structure Go (P:Program) (c:bC) (n:Nat) (Fs:List an) (L:List ae) (f:Fm) (code:Code) (Q:bG):Prop where
 out:∀a h w,Ag n a f->dN c h L w->cr Fs h->code.wp P (jR c n Q) a w
structure ak (P:Program) (c:bC) (n:Nat) (ops:Array Oper) (Fs:List an) (L:List ae) (f:Fm) (rest:List Oper) (Q:bG):Prop where
 out:∀a h w,Ag n a f->dN c h L w->cr Fs h->wpList P ops (jR c n Q) rest a w
inductive oL (K:Fm->List an->List ae->Prop) (Q:bG):bG where
 |norm {f Fs L}:K f Fs L->oL K Q .normal f Fs L
 |ret {f Fs L}:Q .ret f Fs L->oL K Q .ret f Fs L
 |exit {i f Fs L}:Q (.exit i) f Fs L->oL K Q (.exit i) f Fs L
 |goto {i f Fs L}:Q (.goto i) f Fs L->oL K Q (.goto i) f Fs L
inductive CL (id:Nat) (Q:bG):bG where
 |norm {f Fs L}:Q .normal f Fs L->CL id Q .normal f Fs L
 |ret {f Fs L}:Q .ret f Fs L->CL id Q .ret f Fs L
 |here {f Fs L}:Q .normal f Fs L->CL id Q (.exit id) f Fs L
 |exit {i f Fs L}:Nat.beq i id=false->Q (.exit i) f Fs L->CL id Q (.exit i) f Fs L
 |goto {i f Fs L}:Q (.goto i) f Fs L->CL id Q (.goto i) f Fs L
section
variable {P:Program} {c:bC} {n:Nat} {Fs:List an} {L:List ae} {f:Fm} {Q:bG}
theorem afE {y:Code} {e:Exit} {a:Act} {w:World}
  (h:jR c n (oL (λf Fs L=>Go P c n Fs L f y Q) Q) e a w):Exit.then (y.wp P (jR c n Q)) (jR c n Q) e a w:=by
 cases e with
 |normal=>
  obtain⟨f,Fs,L,h,ag,re,al,q⟩:=h;cases q with
  |norm q=>exact q.out a h w ag re al
 |panic ch=>exact h
 |outgrown=>exact h
 |ret=>
  obtain⟨f,Fs,L,h,ag,re,al,q⟩:=h;cases q with
  |ret q=>exact⟨f,Fs,L,h,ag,re,al,q⟩
 |exit i=>
  obtain⟨f,Fs,L,h,ag,re,al,q⟩:=h;cases q with
  |exit q=>exact⟨f,Fs,L,h,ag,re,al,q⟩
 |goto i=>
  obtain⟨f,Fs,L,h,ag,re,al,q⟩:=h;cases q with
  |goto q=>exact⟨f,Fs,L,h,ag,re,al,q⟩
theorem UE {x y:Code} (h:Go P c n Fs L f x (oL (λf Fs L=>Go P c n Fs L f y Q) Q)):Go P c n Fs L f (.seq x y) Q:=
 ⟨λa hp w ag re al=>wp_seq (wp_mono (h.out a hp w ag re al) λ_ _ _ k=>afE k)⟩
theorem aip {id:Nat} {x:Code} (h:Go P c n Fs L f x (CL id Q)):Go P c n Fs L f (.block id x) Q:=
 ⟨λa hp w ag re al=>wp_block (wp_mono (h.out a hp w ag re al) λe a w k=>by
  cases e with
  |normal=>
   obtain⟨f,Fs,L,h,ag,re,al,q⟩:=k;cases q with
   |norm q=>exact⟨f,Fs,L,h,ag,re,al,q⟩
  |panic ch=>exact k
  |outgrown=>exact k
  |ret=>
   obtain⟨f,Fs,L,h,ag,re,al,q⟩:=k;cases q with
   |ret q=>exact⟨f,Fs,L,h,ag,re,al,q⟩
  |goto i=>
   obtain⟨f,Fs,L,h,ag,re,al,q⟩:=k;cases q with
   |goto q=>exact⟨f,Fs,L,h,ag,re,al,q⟩
  |exit i=>
   obtain⟨f,Fs,L,hq,ag,re,al,q⟩:=k;simp only[Exit.inBlock];cases q with
   |here q=>rw[if_pos rfl];exact⟨f,Fs,L,hq,ag,re,al,q⟩
   |exit hne q=>
    have hi:¬i=id:=λe=>by subst e;simp at hne
    rw[if_neg hi];exact⟨f,Fs,L,hq,ag,re,al,q⟩)⟩
theorem aif (h:Q .normal f Fs L):Go P c n Fs L f .skip Q:=
 ⟨λ_ hp _ ag re al=>wp_skip ⟨f,Fs,L,hp,ag,re,al,h⟩⟩
theorem ail {i:Nat} (h:Q (.exit i) f Fs L):Go P c n Fs L f (.exit i) Q:=
 ⟨λ_ hp _ ag re al=>wp_exit ⟨f,Fs,L,hp,ag,re,al,h⟩⟩
theorem go_ret (h:Q .ret f Fs L):Go P c n Fs L f .ret Q:=
 ⟨λ_ hp _ ag re al=>wp_ret ⟨f,Fs,L,hp,ag,re,al,h⟩⟩
theorem gz {x:Operand} {y z:Code} {t:Bool} (hx:ap f x= .b (.bool t)) (ht:t=true->Go P c n Fs L f y Q) (hf:t=false->Go P c n Fs L f z Q):
  Go P c n Fs L f (.cond x y z) Q:=by
 refine⟨λa hp w ag re al=>?_⟩;refine wp_cond_split (t:=t) (by rw[ag.eval];simp only[Bx.v_b,hx]) (λe=>(ht e).out a hp w ag re al) (λe=>(hf e).out a hp w ag re al)
theorem ain {x:Operand} {y z:Code} (hx:ap f x= .b (.bool true)) (ht:Go P c n Fs L f y Q):Go P c n Fs L f (.cond x y z) Q:=
 gz hx (λ_=>ht) (λe=>nomatch e)
theorem aio {x:Operand} {y z:Code} (hx:ap f x= .b (.bool false)) (hf:Go P c n Fs L f z Q):Go P c n Fs L f (.cond x y z) Q:=
 gz hx (λe=>nomatch e) (λ_=>hf)
theorem aig {id:Nat} {l:List Oper} (h:ak P c n l.toArray Fs L f l Q):Go P c n Fs L f (.region id l.toArray false) Q:=
 ⟨λa hp w ag re al=>wp_region_lit (h.out a hp w ag re al)⟩
theorem mj {ops:Array Oper} (h:Q .normal f Fs L):ak P c n ops Fs L f [] Q:=
 ⟨λ_ hp _ ag re al=>⟨f,Fs,L,hp,ag,re,al,h⟩⟩
end
end Go.V
namespace Go.V
structure TI where
 sz:Nat
 agg:Bool
 zero:Bx
 desc:TypeDesc
 bytes:Nat
 offs:List Nat
 places:List (Nat×Nat)
 kind:Nat
 elT:Nat
 elS:Nat
 len:Nat
structure Of (P:Program) (t:Nat) (i:TI):Prop where
 sz:∀w,(sizeOf t).run P w= .ok i.sz w
 agg:∀w,(isAgg t).run P w= .ok i.agg w
 zero:∀w,(zeroValue t).run P w= .ok i.zero.v w
 desc:∀w,(underlying t).run P w= .ok i.desc w
 info:∃inf,P.info? t=some inf/\inf.size=i.sz/\inf.bytes=i.bytes/\inf.zero=some i.zero.v
 offs:∀k off,i.offs[k]? =some off->∀a w,(Instr.fieldAt t (.pointer (some a)) k).run P w= .ok (.pointer (some (a.add off))) w
 places:∀fs,i.desc= .struct fs->∀w,(fs.mapM λf=>do pure (f.offset,<-sizeOf f.type):Sem (Array (Nat×Nat))).run P w= .ok i.places.toArray w
 el:i.kind=1->i.desc= .slice i.elT/\∀w,(sizeOf i.elT).run P w= .ok i.elS w
 ar:i.kind=2->i.desc= .array i.len i.elT/\∀w,(sizeOf i.elT).run P w= .ok i.elS w
theorem ajh {P:Program} {t k off s:Nat} {fs:Array Field} {fd:Field} (hd:∀w,(underlying t).run P w= .ok (.struct fs) w) (hf:fs[k]? =some fd) (hs:∀w,(sizeOf fd.type).run P w= .ok s w)
  (hz:s≠0) (ho:fd.offset=off) (a:Addr) (w:World):(Instr.fieldAt t (.pointer (some a)) k).run P w= .ok (.pointer (some (a.add off))) w:=by
 subst ho;simp only[Instr.fieldAt,bo,hd,bV,hf,Instr.sureAddr,bS,fieldPlace,hs,hz,if_false]
def bZ (P:Program) (aC:Nat->Option TI):Prop:=∀t i,aC t=some i->Of P t i
section
variable {P:Program} {c:bC} {n:Nat} {ops:Array Oper} {Fs:List an} {L:List ae} {f:Fm} {Q:bG} {rest:List Oper}
theorem mX {o:Oper} (hg:o.guard=none) (hd:∀i,o.dst=some i->i<n)
  (H:∀h w,dN c h L w->cr Fs h->∃v w' Fs' L' h',(execOp (λx=>(ap f x).v) o).run P w= .ok (.value v) w'/\dN c h' L' w'/\cr Fs' h'/\
   ak P c n ops Fs' L' (gh f o.dst v) rest Q):ak P c n ops Fs L f (o::rest) Q:=by
 refine⟨λa h w ag re al=>?_⟩;refine wpList_plain hg (λK hK=>?_);obtain⟨v,w',Fs',L',h',hr,re',al',k⟩:=H h w re al;unfold Oper.wp;rw[ag.eval,hr,Oper.upon_value];exact hK _ _ (k.out _ _ _ (ag.put _ hd v) re' al')
theorem Uo {o:Oper} (hg:o.guard=none) (hd:∀i,o.dst=some i->i<n)
  (H:∀h w,dN c h L w->cr Fs h->∃w' Fs' L' h',(execOp (λx=>(ap f x).v) o).run P w= .ok .skip w'/\dN c h' L' w'/\cr Fs' h'/\
   ak P c n ops Fs' L' (gh f o.dst undef) rest Q):ak P c n ops Fs L f (o::rest) Q:=by
 refine⟨λa h w ag re al=>?_⟩;refine wpList_plain hg (λK hK=>?_);obtain⟨w',Fs',L',h',hr,re',al',k⟩:=H h w re al;unfold Oper.wp;rw[ag.eval,hr,Oper.upon_skip];exact hK _ _ (k.out _ _ _ (ag.put _ hd undef) re' al')
theorem ahC {o:Oper} {g:Nat} {b b':Bool} (hg:o.guard=some (g,b)) (hy:∀a:Act,Ag n a f->yielded ops a.tmps g=some b') (hb:(b'==b)=false)
  (hd:∀i,o.dst=some i->i<n) (k:ak P c n ops Fs L (gh f o.dst undef) rest Q):ak P c n ops Fs L f (o::rest) Q:=by
 refine⟨λa h w ag re al=>?_⟩;have hw:Region.wanted o (yielded ops a.tmps)=false:=by
  simp only[Region.wanted,hg,hy a ag];cases b<;>cases b'<;>first|rfl|(simp at hb)
 unfold wpList;rw[hw];simp only[ld,if_false];exact k.out _ _ _ (ag.put _ hd undef) re al
theorem dh {o:Oper} (hg:o.guard=none) (hd:∀i,o.dst=some i->i<n) (v:Value)
  (H:∀h w,jU h L w->cr Fs h->(execOp (λx=>(ap f x).v) o).run P w= .ok (.value v) w)
  (k:ak P c n ops Fs L (gh f o.dst v) rest Q):ak P c n ops Fs L f (o::rest) Q:=
 mX hg hd λh w re al=>⟨v,w,Fs,L,h,H h w re.sat al,re,al,k⟩
theorem bU {d:Nat} (h:Nat.blt d n=true):∀i,(some d:Option Nat)=some i->i<n:=by
 intro i e;cases e;exact vM.mp h
theorem VL:∀i,(none:Option Nat)=some i->i<n:=λ_ e=>nomatch e
variable {d:Nat} {ty:TypeId} {ps:String} {aft:Array Edge}
theorem eV {x:Operand} {v:Value} (hx:ap f x= .b (v)) (hd:Nat.blt d n=true) (k:ak P c n ops Fs L (aT f d v) rest Q):
  ak P c n ops Fs L f (⟨some d,.move x,ty,ps,aft,none⟩::rest) Q:=
 dh rfl (bU hd) v (λ_ w _ _=>by show Result.ok (Next.value (ap f x).v) w=_;rw[hx];rfl) k
theorem Nm {x:Operand} {v:Value} (hx:ap f x= .b (v)) (hd:Nat.blt d n=true) (k:ak P c n ops Fs L (aT f d v) rest Q):
  ak P c n ops Fs L f (⟨some d,.assign x,ty,ps,aft,none⟩::rest) Q:=
 dh rfl (bU hd) v (λ_ w _ _=>by show Result.ok (Next.value (ap f x).v) w=_;rw[hx];rfl) k
theorem iL {x:Operand} {a:Addr} (hx:ap f x= .b (.pointer (some a))) (hd:Nat.blt d n=true) (k:ak P c n ops Fs L (aT f d (.pointer (some a))) rest Q):
  ak P c n ops Fs L f (⟨some d,.nilCheck x,ty,ps,aft,none⟩::rest) Q:=
 dh rfl (bU hd) _ (λ_ w _ _=>by simp only[Bx.v_b,execOp,hx];rfl) k
theorem sC {x:Operand} {vs:Array Value} {i:Nat} {v:Value} (hx:ap f x= .b (.tuple vs)) (hv:vs[i]? =some v) (hd:Nat.blt d n=true)
  (k:ak P c n ops Fs L (aT f d v) rest Q):ak P c n ops Fs L f (⟨some d,.extract x i,ty,ps,aft,none⟩::rest) Q:=
 dh rfl (bU hd) v (λ_ w _ _=>by simp only[Bx.v_b,execOp,hx,Instr.extract,hv];rfl) k
theorem Ce {cc x y:Operand} {v:Value} (hc:ap f cc= .b (.bool true)) (hx:ap f x= .b (v)) (hd:Nat.blt d n=true) (k:ak P c n ops Fs L (aT f d v) rest Q):
  ak P c n ops Fs L f (⟨some d,.pick cc x y,ty,ps,aft,none⟩::rest) Q:=
 dh rfl (bU hd) v (λ_ w _ _=>by simp only[Bx.v_b,execOp,hc,hx];rfl) k
theorem Cf {cc x y:Operand} {v:Value} (hc:ap f cc= .b (.bool false)) (hx:ap f y= .b (v)) (hd:Nat.blt d n=true) (k:ak P c n ops Fs L (aT f d v) rest Q):
  ak P c n ops Fs L f (⟨some d,.pick cc x y,ty,ps,aft,none⟩::rest) Q:=
 dh rfl (bU hd) v (λ_ w _ _=>by simp only[Bx.v_b,execOp,hc,hx];rfl) k
theorem dN.push {h:PH} {w:World} (re:dN c h L w) (o:Obj):dN c h ((w.heap.size,o)::L) {w with heap:=w.heap.push o}:=by
 have hlt:∀r o',w.heap[r]? =some o'->r<w.heap.size:=λr o' e=>by
  rcases dL r w.heap.size with l|g
  ·exact l
  ·simp[oU g] at e
 have hkeep:∀r,r<w.heap.size->(w.heap.push o)[r]? =w.heap[r]? :=λr l=>by rw[Array.getElem?_push,if_neg aa]
 have hnone:h w.heap.size=none:=by
  cases e:h w.heap.size with
  |none=>rfl
  |some o'=>exact absurd (hlt _ _ (re.sat.imm _ _ e)) (Nat.lt_irrefl _)
 refine⟨re.le,⟨λr o' e=>?_,λp hp=>?_,?_,λp hp=>?_⟩,⟨re.fr.os,re.fr.tape,re.fr.output,?_,λk hk hi=>?_⟩,⟨re.new.imm,λp hp=>?_⟩⟩
 ·have:=re.sat.imm r o' e;show(w.heap.push o)[r]? =_;rw[hkeep r (hlt _ _ this),this]
 ·show(w.heap.push o)[p.1]? =_;cases hp with
  |head=>simp
  |tail _ m=>
   have:=re.sat.own p m;rw[hkeep _ (hlt _ _ this),this]
 ·show(w.heap.size::ids L).Nodup;refine la.2 ⟨λm=>?_,re.sat.nodup⟩;obtain⟨p,hp,e⟩:=aM.1 m;have:=hlt _ _ (re.sat.own p hp);omega
 ·cases hp with
  |head=>exact hnone
  |tail _ m=>exact re.sat.apart p m
 ·show c.w0.heap.size<=(w.heap.push o).size;simp;exact Bg re.fr.size
 ·show(w.heap.push o)[k]? =_;rw[hkeep k (Gb hk re.fr.size)];exact re.fr.block k hk hi
 ·cases hp with
  |head=>exact .inr re.fr.size
  |tail _ m=>exact re.new.own p m
theorem UD {aC:Nat->Option TI} (T:bZ P aC) {t:TypeId} {i:TI} (ht:aC t=some i) {cs:Array Value} (hz:i.zero.v.cells=cs) (hd:Nat.blt d n=true)
  (k:∀r,ak P c n ops Fs ((r,.cells cs t)::L) (aT f d (.pointer (some ⟨r,0,none⟩))) rest Q):
  ak P c n ops Fs L f (⟨some d,.alloc t,ty,ps,aft,none⟩::rest) Q:=
 mX rfl (bU hd) λh w re al=>⟨_,_,Fs,_,h,by
  simp only[execOp,Instr.alloc,bo,(T t i ht).zero,Result.andThen,newVar,newRow,newObj,Sem.run,hz,bS],re.push _,al,k _⟩
theorem aie {aC:Nat->Option TI} (T:bZ P aC) {t:TypeId} {i:TI} (ht:aC t=some i) {cs:Array Value} (hz:i.zero= .b (.agg cs)) (hd:Nat.blt d n=true)
  (k:∀r,ak P c n ops Fs ((r,.cells cs t)::L) (aT f d (.pointer (some ⟨r,0,none⟩))) rest Q):
  ak P c n ops Fs L f (⟨some d,.alloc t,ty,ps,aft,none⟩::rest) Q:=UD T ht (by rw[hz];rfl) hd k
theorem aid {aC:Nat->Option TI} (T:bZ P aC) {t:TypeId} {i:TI} (ht:aC t=some i) {z:Value} (hz:i.zero= .b (z)) (h1:z.cells= #[z]) (hd:Nat.blt d n=true)
  (k:∀r,ak P c n ops Fs ((r,.cells #[z] t)::L) (aT f d (.pointer (some ⟨r,0,none⟩))) rest Q):
  ak P c n ops Fs L f (⟨some d,.alloc t,ty,ps,aft,none⟩::rest) Q:=UD T ht (by rw[hz];exact h1) hd k
theorem Uz {t:TypeId} {x:Operand} {v:Value} (hx:ap f x= .b (v)) {cs:Array Value} (hz:v.cells=cs) (hd:Nat.blt d n=true)
  (k:∀r,ak P c n ops Fs ((r,.cells cs t)::L) (aT f d (.pointer (some ⟨r,0,none⟩))) rest Q):
  ak P c n ops Fs L f (⟨some d,.box t x,ty,ps,aft,none⟩::rest) Q:=
 mX rfl (bU hd) λh w re al=>⟨_,_,Fs,_,h,by
  simp only[Bx.v_b,execOp,Instr.box,bo,Result.andThen,newVar,newRow,newObj,Sem.run,hx,hz,bS],re.push _,al,k _⟩
theorem ah6 {t:TypeId} {x:Operand} {cs:Array Value} (hx:ap f x= .b (.agg cs)) (hd:Nat.blt d n=true)
  (k:∀r,ak P c n ops Fs ((r,.cells cs t)::L) (aT f d (.pointer (some ⟨r,0,none⟩))) rest Q):
  ak P c n ops Fs L f (⟨some d,.box t x,ty,ps,aft,none⟩::rest) Q:=Uz hx rfl hd k
theorem ah5 {t:TypeId} {x:Operand} {v:Value} (hx:ap f x= .b (v)) (h1:v.cells= #[v]) (hd:Nat.blt d n=true)
  (k:∀r,ak P c n ops Fs ((r,.cells #[v] t)::L) (aT f d (.pointer (some ⟨r,0,none⟩))) rest Q):
  ak P c n ops Fs L f (⟨some d,.box t x,ty,ps,aft,none⟩::rest) Q:=Uz hx h1 hd k
end
end Go.V
namespace Go.V
inductive cf:List ae->Nat->Obj->Obj->List ae->Prop where
 |here {L r o o'}:cf ((r,o)::L) r o o' ((r,o')::L)
 |there {L L' r o o' p}:cf L r o o' L'->cf (p::L) r o o' (p::L')
theorem cf.mem {L L':List ae} {r:Nat} {o o':Obj} (h:cf L r o o' L'):(r,o)∈L:=by
 induction h with
 |here=>exact .head _
 |there _ ih=>exact .tail _ ih
theorem cf.ids {L L':List ae} {r:Nat} {o o':Obj} (h:cf L r o o' L'):ids L'=ids L:=by
 induction h with
 |here=>rfl
 |there _ ih=>simp only[V.ids,dV] at ih ⊢;rw[ih]
theorem cf.mem' {L L':List ae} {r:Nat} {o o':Obj} (h:cf L r o o' L'):(V.ids L).Nodup->∀p∈L',p=(r,o')\/(p∈L/\p.1≠r):=by
 induction h with
 |@here L r o o'=>
  intro nd p hp;have nd':=la.1 nd;cases hp with
  |head=>exact .inl rfl
  |tail _ m=>exact .inr ⟨.tail _ m,λe=>nd'.1 (e▸aM.2 ⟨p,m,rfl⟩)⟩
 |@there L L' r o o' q hu ih=>
  intro nd p hp;have nd':=la.1 nd;cases hp with
  |head=>exact .inr ⟨.head _,λe=>nd'.1 (aM.2 ⟨_,hu.mem,e.symm⟩)⟩
  |tail _ m=>
   rcases ih nd'.2 p m with h|h
   ·exact .inl h
   ·exact .inr ⟨.tail _ h.1,h.2⟩
theorem dN.set {c:bC} {h:PH} {L L':List ae} {w w':World} {r:Nat} {o o':Obj} (re:dN c h L w) (hu:cf L r o o' L')
  (hos:w'.os=w.os) (htp:w'.tape=w.tape) (hout:w'.output=w.output) (hsz:w'.heap.size=w.heap.size)
  (hr:w'.heap[r]? =some o') (hne:∀k,k≠r->w'.heap[k]? =w.heap[k]?):dN c h L' w':=by
 have hrm:=hu.mem;refine⟨re.le,⟨λk x e=>?_,λp hp=>?_,?_,λp hp=>?_⟩,⟨hos.trans re.fr.os,htp.trans re.fr.tape,hout.trans re.fr.output,?_,λk hk hi=>?_⟩,⟨re.new.imm,λp hp=>?_⟩⟩
 ·by_cases e':k=r
  ·subst e';have:=re.sat.apart _ hrm;simp only at this;rw[this] at e;cases e
  ·rw[hne k e'];exact re.sat.imm k x e
 ·rcases hu.mem' re.sat.nodup p hp with h|h
  ·subst h;exact hr
  ·rw[hne _ h.2];exact re.sat.own p h.1
 ·rw[hu.ids];exact re.sat.nodup
 ·rcases hu.mem' re.sat.nodup p hp with h|h
  ·subst h;exact re.sat.apart (r,o) hrm
  ·exact re.sat.apart p h.1
 ·rw[hsz];exact re.fr.size
 ·by_cases e':k=r
  ·subst e';rcases re.new.own _ hrm with x|x
   ·exact absurd x hi
   ·simp only at x;omega
  ·rw[hne k e'];exact re.fr.block k hk hi
 ·rcases hu.mem' re.sat.nodup p hp with h|h
  ·subst h;exact re.new.own (r,o) hrm
  ·exact re.new.own p h.1
def fS (Fs:List an) (L:List ae) (r o:Nat) (vs:List Value):Prop:=
 ∀h w,jU h L w->cr Fs h->∀j v,vs[j]? =some v->w.cell? ⟨r,o+j,none⟩=some v
def uz (Fs:List an) (L:List ae) (r o:Nat) (v:Value):Prop:=
 ∀h w,jU h L w->cr Fs h->w.cell? ⟨r,o,none⟩=some v
theorem LH {Fs:List an} {L:List ae} {r o:Nat} {v:Value} {cs:Array Value} {t:TypeId} {fz:Nat×Nat} (hm:(r,Obj.cells cs t fz)∈L) (hv:cs[o]? =some v):uz Fs L r o v:=by
 intro h w sa _;have:=sa.own _ hm;simp only at this;simp[World.cell?,this,hv]
theorem bD {Fs:List an} {L:List ae} {r:Nat} {cs:Array Value} {t:TypeId} {fz:Nat×Nat} (hm:(r,Obj.cells cs t fz)∈L):fS Fs L r 0 cs.toList:=by
 intro h w sa _ j v hv;have:=sa.own _ hm;simp only at this;simp only[World.cell?,this];simpa using hv
theorem oD {Fs:List an} {L:List ae} {r o k:Nat} {cs:Array Value} {t:TypeId} {fz:Nat×Nat} (hm:(r,Obj.cells cs t fz)∈L):fS Fs L r o ((cs.toList.drop o).take k):=by
 intro h w sa _ j v hv;have:=sa.own _ hm;simp only at this;simp only[World.cell?,this];rw[uK] at hv;split at hv
 ·simpa using hv
 ·cases hv
section
variable {P:Program} {c:bC} {n:Nat} {ops:Array Oper} {Fs:List an} {L:List ae} {f:Fm} {Q:bG} {rest:List Oper}
variable {d:Nat} {ty:TypeId} {ps:String} {aft:Array Edge} {aC:Nat->Option TI}
theorem nk (r o j:Nat):(⟨r,o,none⟩:Addr).add j=⟨r,o+j,none⟩:=by unfold Addr.add;split<;>simp_all
theorem az (T:bZ P aC) {t:TypeId} {i:TI} (ht:aC t=some i) (ha:i.agg=false) {x:Operand} {r o:Nat} {v:Value} (hx:ap f x= .b (.pointer (some ⟨r,o,none⟩)))
  (hc:uz Fs L r o v) (hd:Nat.blt d n=true) (k:ak P c n ops Fs L (aT f d v) rest Q):
  ak P c n ops Fs L f (⟨some d,.load t x,ty,ps,aft,none⟩::rest) Q:=
 dh rfl (bU hd) v (λh w sa al=>by
  have hg:=(T t i ht).agg w;rw[ha] at hg;simp only[Bx.v_b,execOp,Instr.loadAt,Instr.sureAddr,loadVar,hx,bo,bS,Result.andThen,hg,ld,if_false,run_load,hc h w sa al]) k
theorem aK (T:bZ P aC) {t:TypeId} {i:TI} (ht:aC t=some i) (ha:i.agg=true) {x:Operand} {r o:Nat} {vs:List Value} (hx:ap f x= .b (.pointer (some ⟨r,o,none⟩)))
  (hc:fS Fs L r o vs) (hl:i.sz=vs.length) (hd:Nat.blt d n=true) (k:ak P c n ops Fs L (aT f d (.agg vs.toArray)) rest Q):
  ak P c n ops Fs L f (⟨some d,.load t x,ty,ps,aft,none⟩::rest) Q:=
 dh rfl (bU hd) _ (λh w sa al=>by
  have hg:=(T t i ht).agg w;have hs:=(T t i ht).sz w;rw[ha] at hg;have hcs:=run_loadCells_list (P:=P) w ⟨r,o,none⟩ vs (λj v hv=>by rw[nk];exact hc h w sa al j v hv);rw[<-hl] at hcs;simp only[Bx.v_b,execOp,Instr.loadAt,Instr.sureAddr,loadVar,hx,bo,bS,Result.andThen,hg,if_true,hs,hcs]) k
theorem su (T:bZ P aC) {t:TypeId} {i:TI} (ht:aC t=some i) (ha:i.agg=true) {x:Operand} {r:Nat} {cs:Array Value} {t':TypeId} {fz:Nat×Nat}
  (hx:ap f x= .b (.pointer (some ⟨r,0,none⟩))) (hm:(r,Obj.cells cs t' fz)∈L) (hl:i.sz=cs.size) (hd:Nat.blt d n=true) (k:ak P c n ops Fs L (aT f d (.agg cs)) rest Q):
  ak P c n ops Fs L f (⟨some d,.load t x,ty,ps,aft,none⟩::rest) Q:=by
 refine aK T ht ha hx (bD hm) (by rw[hl];simp) hd ?_;simpa using k
theorem Ar (T:bZ P aC) {t:TypeId} {i:TI} (ht:aC t=some i) {x y:Operand} {r o:Nat} {v:Value} {cs cs' vs:Array Value} {t':TypeId} {L':List ae}
  (hx:ap f x= .b (.pointer (some ⟨r,o,none⟩))) (hy:ap f y= .b (v)) (hv:v.cells=vs) (hsz:i.sz=vs.size) (h1:∀u∈vs.toList,u.oneCell'=true)
  (hu:cf L r (.cells cs t' (0,0)) (.cells cs' t' (0,0)) L') (hfit:o+vs.size<=cs.size) (hcs:cs'=(cs.toList.take o++vs.toList++cs.toList.drop (o+vs.size)).toArray)
  (k:ak P c n ops Fs L' f rest Q):
  ak P c n ops Fs L f (⟨none,.store t x y,ty,ps,aft,none⟩::rest) Q:=
 Uo rfl VL λh w re al=>by
  have hown:=re.sat.own _ hu.mem;simp only at hown;have hs:=(T t i ht).sz w;have hst:=run_storeCells_at (P:=P) r o t' vs.toList 0 cs w hown (by simpa using hfit) h1;simp only[wY,vO] at hst;rw[<-hcs] at hst;refine⟨w.setRow r cs',Fs,L',h,?_,?_,al,k⟩
  ·simp only[Bx.v_b,execOp,Instr.storeAt,Instr.sureAddr,storeVar,hx,hy,hv,bo,bS,Result.andThen,hs,hsz,ne_eq,not_true_eq_false,if_false,hst]
  ·refine re.set hu O O O ?_ (setRow_heap w r cs cs' t' (0,0) hown) (λk hk=>?_)
   ·simp[World.setRow]
   ·simp only[World.setRow,zU];rw[if_neg aa]
theorem Ul (T:bZ P aC) {t:TypeId} {i:TI} (ht:aC t=some i) {x y:Operand} {r:Nat} {v:Value} {cs vs:Array Value} {t':TypeId} {L':List ae}
  (hx:ap f x= .b (.pointer (some ⟨r,0,none⟩))) (hy:ap f y= .b (v)) (hv:v.cells=vs) (hsz:i.sz=vs.size) (h1:∀u∈vs.toList,u.oneCell'=true)
  (hu:cf L r (.cells cs t' (0,0)) (.cells vs t' (0,0)) L') (hfit:vs.size=cs.size) (k:ak P c n ops Fs L' f rest Q):
  ak P c n ops Fs L f (⟨none,.store t x y,ty,ps,aft,none⟩::rest) Q:=
 Ar T ht hx hy hv hsz h1 hu aa (by simp[hfit];rw[<-vO,Pj];simp) k
end
end Go.V
namespace Go.V
def W0 (Q:Value->World->Prop):Ending->World->Prop
 |.returned v,w=>Q v w
 |.outgrown,_=>False
 |.panicked _,_=>False
abbrev cZ:=Value->List an->List ae->Prop
def ai (P:Program) (fid:FuncId) (args:Array Value) (Fs:List an) (L:List ae) (Q:cZ):Prop:=
 ∀h w,jU h L w->cr Fs h->Calls P fid args w (W0 λv w'=>∃Fs' L' h',Q v Fs' L'/\PH.le h h'/\cr Fs' h'/\jU h' L' w'/\Fr (ids L) w w'/\
  y5 h (ids L) w.heap.size h' L')
def AE:Nat->List Value->Fm
 |_,[]=>λ_=> .no
 |i,v::l=>aT (AE (i+1) l) i v
theorem WN:∀(l:List Value) (i t:Nat),(AE i l t).v=if i<=t then l.getD (t-i) undef else undef
 |[],i,t=>by simp[AE,Bx.v]
 |v::l,i,t=>by
  simp only[AE,aT];by_cases e:t=i
  ·subst e;simp[Bx.v]
  ·have hb:Nat.beq t i=false:=by
    cases hb:Nat.beq t i
    ·rfl
    ·exact absurd (nO hb) e
   rw[hb];simp only[cond_false];rw[WN l (i+1) t];by_cases h:i<=t
   ·have h':i+1<=t:=by omega
    rw[if_pos h,if_pos h'];have:t-i=(t-(i+1))+1:=by omega
    rw[this];simp[List.getD]
   ·have h':¬i+1<=t:=by omega
    rw[if_neg h,if_neg h']
theorem ali (args:List Value) (n:Nat) (hn:args.length<=n):Ag n ⟨args.toArray++Array.replicate (n-args.length) undef,[]⟩ (AE 0 args):=by
 refine⟨by simp;omega,O,λt=>?_⟩;rw[WN];simp only[bf,if_true,XM];simp only[gY,j7];by_cases h:t<args.length
 ·rw[Array.getElem?_append_left (by simpa using h)];simp
 ·rw[Array.getElem?_append_right qK];simp only[ox,gZ (Nat.le_of_not_lt h),Option.getD_none];cases h2:(Array.replicate (n-args.length) undef)[t-args.length]? with
  |none=>rfl
  |some v=>
   have:=Ps.1 h2;obtain⟨h3,h4⟩:=this;simp at h4;simp[<-h4]
def Fi (P:Program) (f:Fm) (Fs:List an) (L:List ae) (r:ResultVar) (v:Value):Prop:=
 match r with
 |.tmp t=>f t= .b (v)
 |.cell t ty=>∃a,f t= .b (.pointer (some a))/\∀h w,jU h L w->cr Fs h->(loadVar ty a).run P w= .ok v w
inductive ve (P:Program) (f:Fm) (Fs:List an) (L:List ae):List ResultVar->List Value->Prop where
 |nil:ve P f Fs L [] []
 |cons {r rs v vs}:Fi P f Fs L r v->ve P f Fs L rs vs->ve P f Fs L (r::rs) (v::vs)
def bw:List Value->Value
 |[v]=>v
 |vs=> .tuple vs.toArray
inductive CK (P:Program) (rs:List ResultVar) (Q:cZ):bG where
 |norm {f Fs L vs Fs' L'}:ve P f Fs L rs vs->(∀x∈Fs',x∈Fs)->List.Sublist L' L->Q (bw vs) Fs' L'->CK P rs Q .normal f Fs L
 |ret {f Fs L vs Fs' L'}:ve P f Fs L rs vs->(∀x∈Fs',x∈Fs)->List.Sublist L' L->Q (bw vs) Fs' L'->CK P rs Q .ret f Fs L
end Go.V
namespace Go.V
theorem RC {α:Type} (P:Program) (g:α->Sem Value) (w:World):∀(rs:List α) (vs:List Value),(List.length rs=List.length vs)->(∀(i:Nat) (r:α) (v:Value),rs[i]? =some r->vs[i]? =some v->(g r).run P w= .ok v w)->
  (rs.mapM g).run P w= .ok vs w
 |[],[],_,_=>by simp[List.mapM_nil]
 |r::rs,v::vs,hl,H=>by
  have h0:=H 0 r v rfl rfl;have ih:=RC P g w rs vs (by simpa using hl) (λi r v hr hv=>H (i+1) r v (by simpa using hr) (by simpa using hv));simp only[List.mapM_cons,bo,h0,bV,ih,bS]
 |[],_::_,hl,_=>by simp at hl
 |_::_,[],hl,_=>by simp at hl
theorem acT {P:Program} {fn:Func} {rs:List ResultVar} {f:Fm} {Fs:List an} {L:List ae} {vs:List Value} (hrs:fn.results=rs.toArray) (H:ve P f Fs L rs vs)
  {n:Nat} {a:Act} {h:PH} {w:World} (ag:Ag n a f) (sa:jU h L w) (al:cr Fs h):(results fn a.tmps).run P w= .ok (bw vs) w:=by
 have hget:∀(i:Nat) (r:ResultVar) (v:Value),rs[i]? =some r->vs[i]? =some v->(match r with
  |.tmp t=>pure (a.tmps.getD t undef)
  |.cell ad t=>do loadVar t (<-asAddr (a.tmps.getD ad undef)):Sem Value).run P w= .ok v w:=by
  clear hrs
  induction H with
  |nil=>intro i r v hr;simp at hr
  |@cons r rs v vs hv _ ih=>
   intro i r' v' hr' hv';cases i with
   |zero=>
    simp at hr' hv';subst hr';subst hv';cases r with
    |tmp t=>
     simp only[Fi] at hv;simp only[bS,ag.get t,hv,Bx.v_b]
    |cell t ty=>
     obtain⟨ad,hp,hl⟩:=hv;simp only[ag.get t,hp,Bx.v_b,asAddr,bo,bS,bV,hl h w sa al]
   |succ i=>exact ih i r' v' (by simpa using hr') (by simpa using hv')
 have hlen:rs.length=vs.length:=by
  clear hrs hget
  induction H with
  |nil=>rfl
  |cons _ _ ih=>simp[ih]
 have hm:=RC P (λr:ResultVar=>(match r with
  |.tmp t=>pure (a.tmps.getD t undef)
  |.cell ad t=>do loadVar t (<-asAddr (a.tmps.getD ad undef)):Sem Value)) w rs vs hlen hget
 unfold results;rw[hrs,List.mapM_toArray];simp only[map_eq_pure_bind,bo];have e:∀X:Result (List Value),X= .ok vs w->((X.andThen λ(a:List Value) w'=>Sem.run P (pure a.toArray) w').andThen
   λ(a:Array Value) w'=>Sem.run P (pure (if h:a.size=1 then a[0] else Value.tuple a)) w')=Result.ok (bw vs) w:=by
  intro X hX;subst hX;simp only[bV,bS]
  match vs with
  |[]=>rfl
  |[v]=>rfl
  |_::_::_=>simp[bw]
 exact e _ hm
theorem y5.trans_ctx {c:bC} {h0 h:PH} {L L0:List ae} {w:World} (hc:c.h0=h0) (hI:c.I=ids L0) (re:dN c h L w) {L':List ae} (hs:List.Sublist L' L):y5 h0 (ids L0) c.w0.heap.size h L':=by
 subst hc;rw[<-hI];exact⟨re.new.imm,λp hp=>re.new.own p (hs.subset hp)⟩
theorem jU.sub {h:PH} {L L':List ae} {w:World} (sa:jU h L w) (hs:List.Sublist L' L):jU h L' w:=
 ⟨sa.imm,λp hp=>sa.own p (hs.subset hp),(hs.map _).nodup sa.nodup,λp hp=>sa.apart p (hs.subset hp)⟩
theorem acd {P:Program} {fid:FuncId} {fn:Func} {code:Code} {args:List Value} {n:Nat} {Fs:List an} {L:List ae} {Q:cZ} {rs:List ResultVar}
  (hf:P.funcs[fid]? =some fn) (hb:fn.body=some code) (hn:fn.ntmps=n) (hl:Nat.ble args.length n=true) (hrs:fn.results=rs.toArray)
  (H:∀c,Go P c n Fs L (AE 0 args) code (CK P rs Q)):ai P fid args.toArray Fs L Q:=by
 intro h w sa al;refine calls_of_wp hf hb ?_;have hl':args.length<=n:=zL.mp hl;have ag:=ali args n hl';have re:dN ⟨h,w,ids L⟩ h L w:=⟨PH.le_refl _,sa,Fr.refl _ _,⟨λr hr=> .inl hr,λp hp=> .inl (aM.2 ⟨p,hp,rfl⟩)⟩⟩;have key:=(H ⟨h,w,ids L⟩).out _ h w ag re al;rw[hn];simp only[ox];refine wp_mono key λe a w' q=>?_;have fin:∀f Fs' L' h',Ag n a f->dN ⟨h,w,ids L⟩ h' L' w'->cr Fs' h'->(∃vs Fs'' L'',ve P f Fs' L' rs vs/\(∀x∈Fs'',x∈Fs')/\List.Sublist L'' L'/\Q (bw vs) Fs'' L'')->
   a.defers=[]/\∃v,(results fn a.tmps).run P w'= .ok v w'/\(W0 λv w'=>∃Fs' L' h',Q v Fs' L'/\PH.le h h'/\cr Fs' h'/\jU h' L' w'/\Fr (ids L) w w'/\
  y5 h (ids L) w.heap.size h' L') (.returned v) w':=by
  intro f Fs' L' h' ag' re' al' ⟨vs,Fs'',L'',hv,hsub,hsl,hq⟩;refine⟨ag'.defers,bw vs,acT hrs hv ag' re'.sat al',Fs'',L'',h',hq,re'.le,λx hx=>al' x (hsub x hx),re'.sat.sub hsl,re'.fr,?_⟩;exact y5.trans_ctx (c:=⟨h,w,ids L⟩) O O re' hsl
 cases e with
 |normal=>
  obtain⟨f,Fs',L',h',ag',re',al',hq⟩:=q;cases hq with
  |norm h1 h2 h3 h4=>exact fin f Fs' L' h' ag' re' al' ⟨_,_,_,h1,h2,h3,h4⟩
 |ret=>
  obtain⟨f,Fs',L',h',ag',re',al',hq⟩:=q;cases hq with
  |ret h1 h2 h3 h4=>exact fin f Fs' L' h' ag' re' al' ⟨_,_,_,h1,h2,h3,h4⟩
 |panic ch=>exact q.elim
 |outgrown=>exact q.elim
 |exit i=>obtain⟨f,Fs',L',h',ag',re',al',hq⟩:=q;cases hq
 |goto i=>obtain⟨f,Fs',L',h',ag',re',al',hq⟩:=q;cases hq
end Go.V
namespace Go.V
inductive bv:List ae->List ae->List ae->Prop where
 |nil:bv [] [] []
 |all {L}:bv L L []
 |none {L}:bv L [] L
 |take {L A R p}:bv L A R->bv (p::L) (p::A) R
 |leave {L A R p}:bv L A R->bv (p::L) A (p::R)
 |app {L A B M R}:bv L A M->bv M B R->bv L (A++B) R
 |cons2 {L A M R p q}:bv L [p] M->bv M (q::A) R->bv L (p::q::A) R
theorem bv.perm {L A R:List ae} (h:bv L A R):L.Perm (A++R):=by
 induction h with
 |nil=>exact .refl _
 |all=>simp
 |none=>simp
 |take _ ih=>exact ih.cons _
 |leave _ ih=>exact(ih.cons _).trans yi.symm
 |app _ _ ih1 ih2=>rw[cG];exact ih1.trans (DC _ ih2)
 |cons2 _ _ ih1 ih2=>exact ih1.trans (by simpa using ih2)
theorem afh {w:World} {r:Nat} {o:Obj} (e:w.heap[r]? =some o):r<w.heap.size:=by
 rcases dL r w.heap.size with l|g
 ·exact l
 ·simp[oU g] at e
theorem dN.call {c:bC} {h h':PH} {L A R L':List ae} {w w':World} (re:dN c h L w) (ht:bv L A R) (hle:PH.le h h') (sa:jU h' L' w') (fr:Fr (ids A) w w')
  (nw:y5 h (ids A) w.heap.size h' L'):dN c h' (R++L') w':=by
 have hp:=ht.perm;have hnd:(ids A++ids R).Nodup:=by
  have:=(hp.map (·.1)).nodup_iff.1 re.sat.nodup;simpa[ids] using this
 obtain⟨hA,hR,hAR⟩:=uF.1 hnd;have hmA:∀p∈A,p∈L:=λp hm=>hp.mem_iff.2 (bq _ hm);have hmR:∀p∈R,p∈L:=λp hm=>hp.mem_iff.2 (bI _ hm);have hnot:∀p∈R,p.1∉ids A:=λp hm hin=>hAR p.1 hin p.1 (aM.2 ⟨p,hm,rfl⟩) rfl;have hlt:∀p∈L,p.1<w.heap.size:=λp hm=>afh (re.sat.own p hm);refine⟨PH.le_trans re.le hle,⟨sa.imm,λp hm=>?_,?_,λp hm=>?_⟩,⟨fr.os.trans re.fr.os,fr.tape.trans re.fr.tape,fr.output.trans re.fr.output,tc re.fr.size fr.size,λk hk hi=>?_⟩,⟨λr hr=>?_,λp hm=>?_⟩⟩
 ·rcases bB.1 hm with m|m
  ·rw[fr.block p.1 (hlt p (hmR p m)) (hnot p m)];exact re.sat.own p (hmR p m)
  ·exact sa.own p m
 ·show(List.map _ (R++L')).Nodup;rw[dX];refine uF.2 ⟨hR,sa.nodup,λa ha b hb e=>?_⟩;subst e;obtain⟨p,hpm,rfl⟩:=aM.1 ha;obtain⟨q,hqm,e⟩:=aM.1 hb;rcases nw.own q hqm with x|x
  ·rw[e] at x;exact hnot p hpm x
  ·have:=hlt p (hmR p hpm);omega
 ·rcases bB.1 hm with m|m
  ·cases e:h' p.1 with
   |none=>rfl
   |some o=>
    rcases nw.imm p.1 (by rw[e];simp) with x|x|x
    ·exact absurd (re.sat.apart p (hmR p m)) x
    ·exact absurd x (hnot p m)
    ·have:=hlt p (hmR p m);omega
  ·exact sa.apart p m
 ·rw[fr.block k (Gb hk re.fr.size) (λhin=>?_)]
  ·exact re.fr.block k hk hi
  ·obtain⟨p,hpm,rfl⟩:=aM.1 hin;rcases re.new.own p (hmA p hpm) with x|x
   ·exact hi x
   ·omega
 ·rcases nw.imm r hr with x|x|x
  ·exact re.new.imm r x
  ·obtain⟨p,hpm,rfl⟩:=aM.1 x;exact .inr (re.new.own p (hmA p hpm))
  ·exact .inr (.inr (tc re.fr.size x))
 ·rcases bB.1 hm with m|m
  ·exact re.new.own p (hmR p m)
  ·rcases nw.own p m with x|x
   ·obtain⟨q,hqm,e⟩:=aM.1 x;rw[<-e];exact re.new.own q (hmA q hqm)
   ·exact .inr (tc re.fr.size x)
theorem jU.take {h:PH} {L A R:List ae} {w:World} (sa:jU h L w) (ht:bv L A R):jU h A w:=by
 have hp:=ht.perm;have hnd:(ids A++ids R).Nodup:=by
  have:=(hp.map (·.1)).nodup_iff.1 sa.nodup;simpa[ids] using this
 have hmA:∀p∈A,p∈L:=λp hm=>hp.mem_iff.2 (bq _ hm);exact⟨sa.imm,λp hm=>sa.own p (hmA p hm),(uF.1 hnd).1,λp hm=>sa.apart p (hmA p hm)⟩
inductive jv (f:Fm):List Operand->List Value->Prop where
 |nil:jv f [] []
 |cons {x xs v vs}:ap f x= .b (v)->jv f xs vs->jv f (x::xs) (v::vs)
theorem jv.map {f:Fm} {xs:List Operand} {vs:List Value} (h:jv f xs vs):xs.map (λx=>(ap f x).v)=vs:=by
 induction h with
 |nil=>rfl
 |cons e _ ih=>simp[e,ih,Bx.v_b]
section
variable {P:Program} {c:bC} {n:Nat} {ops:Array Oper} {Fs:List an} {L:List ae} {f:Fm} {Q:bG} {rest:List Oper}
theorem Nk {o:Oper} {k:FuncId} {vs:Array Value} (hg:o.guard=none) (hd:∀i,o.dst=some i->i<n)
  (hrun:∀h w,jU h L w->cr Fs h->∃w',(execOp (λx=>(ap f x).v) o).run P w= .ok (.enter k vs) w'/\w'=w)
  {Fs1:List an} {L1 R:List ae} {Q1:cZ} (hs:ai P k vs Fs1 L1 Q1) (hF:∀x∈Fs1,x∈Fs) (hT:bv L L1 R)
  (kont:∀v Fs' L',Q1 v Fs' L'->ak P c n ops (Fs'++Fs) (R++L') (gh f o.dst v) rest Q):
  ak P c n ops Fs L f (o::rest) Q:=by
 refine⟨λa h w ag re al=>?_⟩;refine wpList_plain hg (λK hK=>?_);obtain⟨w1,hr,rfl⟩:=hrun h w re.sat al;unfold Oper.wp;rw[ag.eval,hr,Oper.upon_enter];refine Calls.mono (hs h w1 (re.sat.take hT) (λx hx=>al x (hF x hx))) λe w' he=>?_;cases e with
 |returned v=>
  obtain⟨Fs',L',h',hq,hle,hal,hsa,hfr,hnw⟩:=he;exact hK _ _ ((kont v Fs' L' hq).out _ _ _ (ag.put _ hd v) (re.call hT hle hsa hfr hnw) (hal.append (al.mono hle)))
 |panicked ch=>exact he.elim
 |outgrown=>exact he.elim
variable {d:Nat} {ty:TypeId} {ps:String} {aft:Array Edge}
theorem Ux {k:FuncId} {xs:List Operand} {ats:Array TypeId} {vs:List Value} (hxs:jv f xs vs) (hcall:∀(args:Array Value) (w:World),(callFunc k args).run P w= .ok (.enter k args) w)
  {Fs1:List an} {L1 R:List ae} {Q1:cZ} (hs:ai P k vs.toArray Fs1 L1 Q1) (hF:∀x∈Fs1,x∈Fs) (hT:bv L L1 R) (hd:Nat.blt d n=true)
  (kont:∀v Fs' L',Q1 v Fs' L'->ak P c n ops (Fs'++Fs) (R++L') (aT f d v) rest Q):
  ak P c n ops Fs L f (⟨some d,.call ⟨.value (.func k),xs.toArray,ats⟩,ty,ps,aft,none⟩::rest) Q:=
 Nk rfl (bU hd) (λh w sa al=>⟨w,by
  have hm:(List.map (λx=>(ap f x).v) xs)=vs:=hxs.map;have he:(ap f (.func k)).v= .func (.func k) #[] #[]:=rfl;simp only[execOp,resolve,he,Deferred.ofValue,bo,bS,bV,invoke,nN,hm];rw[hcall];simp,rfl⟩) hs hF hT kont
theorem Uw {k:FuncId} {xs:List Operand} {ats:Array TypeId} {vs:List Value} (hxs:jv f xs vs) (hcall:∀(args:Array Value) (w:World),(callFunc k args).run P w= .ok (.enter k args) w)
  {Fs1:List an} {Q1:Value->List an->Prop} (hs:ai P k vs.toArray Fs1 [] (λv Fs' L'=>Q1 v Fs'/\L'=[])) (hF:∀x∈Fs1,x∈Fs) (hd:Nat.blt d n=true)
  (kont:∀v Fs',Q1 v Fs'->ak P c n ops (Fs'++Fs) L (aT f d v) rest Q):
  ak P c n ops Fs L f (⟨some d,.call ⟨.value (.func k),xs.toArray,ats⟩,ty,ps,aft,none⟩::rest) Q:=
 Ux hxs hcall hs hF .none hd λv Fs' L' ⟨hq,hl⟩=>by
  subst hl;rw[jz];exact kont v Fs' hq
theorem ah3 {k:FuncId} {fv:Operand} {first captured:Array Value} {xs:List Operand} {ats:Array TypeId} {vs:List Value} (hfv:ap f fv= .b (.func (.func k) first captured))
  (hxs:jv f xs vs) (hcall:∀(args:Array Value) (w:World),(callFunc k args).run P w= .ok (.enter k args) w)
  {Fs1:List an} {L1 R:List ae} {Q1:cZ} (hs:ai P k (first++vs.toArray++captured) Fs1 L1 Q1) (hF:∀x∈Fs1,x∈Fs) (hT:bv L L1 R) (hd:Nat.blt d n=true)
  (kont:∀v Fs' L',Q1 v Fs' L'->ak P c n ops (Fs'++Fs) (R++L') (aT f d v) rest Q):
  ak P c n ops Fs L f (⟨some d,.call ⟨.value fv,xs.toArray,ats⟩,ty,ps,aft,none⟩::rest) Q:=
 Nk rfl (bU hd) (λh w sa al=>⟨w,by
  have:(List.map (λx=>(ap f x).v) xs)=vs:=hxs.map;simp only[Bx.v_b,execOp,resolve,hfv,Deferred.ofValue,bo,bS,bV,invoke,nN,this];rw[hcall],rfl⟩) hs hF hT kont
end
end Go.V
namespace Go.V
theorem zZ {n:Int} (h1: -9223372036854775808<=n) (h2:n<=9223372036854775807):IntKind.i64.wrap n=n:=by
 have e:(2^IntKind.i64.bits:Int)=18446744073709551616:=by decide
 have e':(2^(IntKind.i64.bits-1):Int)=9223372036854775808:=by decide
 simp only[IntKind.wrap,e,e',IntKind.signed,Bool.true_and,decide_eq_true_eq,ge_iff_le];split<;>omega
def oS (n:Int):Prop:= -9223372036854775808<=n/\n<=9223372036854775807
abbrev qm (x y:Nat):Option Nat:=Ieee.double.add x y
abbrev jd (x y:Nat):Option Nat:=Ieee.double.sub x y
abbrev jm (x y:Nat):Option Nat:=Ieee.double.mul x y
abbrev fdiv (x y:Nat):Option Nat:=Ieee.double.div x y
def jn (x y:Nat):Bool:=Ieee.double.order x y==some .lt
def oa (x y:Nat):Bool:=Ieee.double.order x y==some .lt||Ieee.double.order x y==some .eq
def fJ (x y:Nat):Bool:=Ieee.double.order x y==some .gt
def kK (x y:Nat):Bool:=Ieee.double.order x y==some .gt||Ieee.double.order x y==some .eq
def cX (x y:Nat):Bool:=Ieee.double.order x y==some .eq
def tH (x y:Nat):Bool:=Ieee.double.order x y !=some .eq
def H5 (op:BinOp) (x y:Nat):Option Nat:=match op with
 |.add=>qm x y
 |.sub=>jd x y
 |.mul=>jm x y
 |.quo=>fdiv x y
 |_=>none
def TO:BinOp->Bool
 |.add|.sub|.mul|.quo=>true
 |_=>false
def Vk (op:BinOp) (x y:Nat):Option Bool:=match op with
 |.eql=>some (cX x y)
 |.neq=>some (tH x y)
 |.lss=>some (jn x y)
 |.leq=>some (oa x y)
 |.gtr=>some (fJ x y)
 |.geq=>some (kK x y)
 |_=>none
section
variable {P:Program} {c:bC} {n:Nat} {ops:Array Oper} {Fs:List an} {L:List ae} {f:Fm} {Q:bG} {rest:List Oper}
variable {d:Nat} {ty:TypeId} {ps:String} {aft:Array Edge} {aC:Nat->Option TI} {x y:Operand} {T T':TypeId} {a b:Int}
theorem EV (hx:ap f x= .b (.int .i64 a)) (hy:ap f y= .b (.int .i64 b)) (hr:oS (a+b)) (hd:Nat.blt d n=true) (k:ak P c n ops Fs L (aT f d (.int .i64 (a+b))) rest Q):
  ak P c n ops Fs L f (⟨some d,.binOp .add T x y T',ty,ps,aft,none⟩::rest) Q:=
 dh rfl (bU hd) _ (λh w sa al=>by
  simp only[Bx.v_b,execOp,hx,hy,Go.binOp,eqGuard,Op.intArith,ne_eq,not_true_eq_false,if_false,zZ hr.1 hr.2,bo,bS];rfl) k
theorem EP (hx:ap f x= .b (.int .i64 a)) (hy:ap f y= .b (.int .i64 b)) (hr:oS (a-b)) (hd:Nat.blt d n=true) (k:ak P c n ops Fs L (aT f d (.int .i64 (a-b))) rest Q):
  ak P c n ops Fs L f (⟨some d,.binOp .sub T x y T',ty,ps,aft,none⟩::rest) Q:=
 dh rfl (bU hd) _ (λh w sa al=>by
  simp only[Bx.v_b,execOp,hx,hy,Go.binOp,eqGuard,Op.intArith,ne_eq,not_true_eq_false,if_false,zZ hr.1 hr.2,bo,bS];rfl) k
theorem Nd (hx:ap f x= .b (.int .i64 a)) (hy:ap f y= .b (.int .i64 b)) (hr:oS (a*b)) (hd:Nat.blt d n=true) (k:ak P c n ops Fs L (aT f d (.int .i64 (a*b))) rest Q):
  ak P c n ops Fs L f (⟨some d,.binOp .mul T x y T',ty,ps,aft,none⟩::rest) Q:=
 dh rfl (bU hd) _ (λh w sa al=>by
  simp only[Bx.v_b,execOp,hx,hy,Go.binOp,eqGuard,Op.intArith,ne_eq,not_true_eq_false,if_false,zZ hr.1 hr.2,bo,bS];rfl) k
theorem Nb (hx:ap f x= .b (.int .i64 a)) (hy:ap f y= .b (.int .i64 b)) (ha:0<=a) (hb:0<b) (hr:oS a) (hd:Nat.blt d n=true) (k:ak P c n ops Fs L (aT f d (.int .i64 (a/b))) rest Q):
  ak P c n ops Fs L f (⟨some d,.binOp .quo T x y T',ty,ps,aft,none⟩::rest) Q:=
 dh rfl (bU hd) _ (λh w sa al=>by
  have e:a.tdiv b=a/b:=Int.tdiv_eq_ediv_of_nonneg ha;have hle:a/b<=a:=Int.ediv_le_self b ha;have h0:0<=a/b:=JW ha (Int.le_of_lt hb);have hr2:=hr.2;have hne:b≠0:=by omega
  simp only[Bx.v_b,execOp,hx,hy,Go.binOp,eqGuard,Op.intDiv,ne_eq,not_true_eq_false,if_false,hne,e,zZ (n:=a/b) aa aa,bo,bS];rfl) k
theorem Na (hx:ap f x= .b (.int .i64 a)) (hy:ap f y= .b (.int .i64 b)) (ha:0<=a) (hb:0<b) (hd:Nat.blt d n=true) (k:ak P c n ops Fs L (aT f d (.int .i64 (a%b))) rest Q):
  ak P c n ops Fs L f (⟨some d,.binOp .rem T x y T',ty,ps,aft,none⟩::rest) Q:=
 dh rfl (bU hd) _ (λh w sa al=>by
  have e:a.tmod b=a%b:=Int.tmod_eq_emod_of_nonneg ha;have hne:b≠0:=by omega
  simp only[Bx.v_b,execOp,hx,hy,Go.binOp,eqGuard,Op.intDiv,ne_eq,not_true_eq_false,if_false,hne,e,bo,bS];rfl) k
variable {ki:IntKind}
theorem EU (hx:ap f x= .b (.int ki a)) (hy:ap f y= .b (.int ki b)) (hd:Nat.blt d n=true) (k:ak P c n ops Fs L (aT f d (.bool (decide (a<b)))) rest Q):
  ak P c n ops Fs L f (⟨some d,.binOp .lss T x y T',ty,ps,aft,none⟩::rest) Q:=
 dh rfl (bU hd) _ (λh w sa al=>by
  simp only[Bx.v_b,execOp,hx,hy,Go.binOp,eqGuard,Op.intCmp,ne_eq,not_true_eq_false,if_false,bo,bS];rfl) k
theorem Us (hx:ap f x= .b (.int ki a)) (hy:ap f y= .b (.int ki b)) (hd:Nat.blt d n=true) (k:ak P c n ops Fs L (aT f d (.bool (decide (a<=b)))) rest Q):
  ak P c n ops Fs L f (⟨some d,.binOp .leq T x y T',ty,ps,aft,none⟩::rest) Q:=
 dh rfl (bU hd) _ (λh w sa al=>by
  simp only[Bx.v_b,execOp,hx,hy,Go.binOp,eqGuard,Op.intCmp,ne_eq,not_true_eq_false,if_false,bo,bS];rfl) k
theorem HV (hx:ap f x= .b (.int ki a)) (hy:ap f y= .b (.int ki b)) (hd:Nat.blt d n=true) (k:ak P c n ops Fs L (aT f d (.bool (decide (a>b)))) rest Q):
  ak P c n ops Fs L f (⟨some d,.binOp .gtr T x y T',ty,ps,aft,none⟩::rest) Q:=
 dh rfl (bU hd) _ (λh w sa al=>by
  simp only[Bx.v_b,execOp,hx,hy,Go.binOp,eqGuard,Op.intCmp,ne_eq,not_true_eq_false,if_false,bo,bS];rfl) k
theorem Nj (hx:ap f x= .b (.int ki a)) (hy:ap f y= .b (.int ki b)) (hd:Nat.blt d n=true) (k:ak P c n ops Fs L (aT f d (.bool (decide (a>=b)))) rest Q):
  ak P c n ops Fs L f (⟨some d,.binOp .geq T x y T',ty,ps,aft,none⟩::rest) Q:=
 dh rfl (bU hd) _ (λh w sa al=>by
  simp only[Bx.v_b,execOp,hx,hy,Go.binOp,eqGuard,Op.intCmp,ne_eq,not_true_eq_false,if_false,bo,bS];rfl) k
theorem HW (hx:ap f x= .b (.int ki a)) (hy:ap f y= .b (.int ki b)) (hd:Nat.blt d n=true) (k:ak P c n ops Fs L (aT f d (.bool (decide (a=b)))) rest Q):
  ak P c n ops Fs L f (⟨some d,.binOp .eql T x y T',ty,ps,aft,none⟩::rest) Q:=
 dh rfl (bU hd) _ (λh w sa al=>by
  have e:(a==b)=decide (a=b):=by by_cases h:a=b<;>simp[h]
  simp only[Bx.v_b,execOp,hx,hy,Go.binOp,eqGuard,Op.intCmp,ne_eq,not_true_eq_false,if_false,bo,bS,e];rfl) k
theorem Uq (hx:ap f x= .b (.int ki a)) (hy:ap f y= .b (.int ki b)) (hd:Nat.blt d n=true) (k:ak P c n ops Fs L (aT f d (.bool (decide (a≠b)))) rest Q):
  ak P c n ops Fs L f (⟨some d,.binOp .neq T x y T',ty,ps,aft,none⟩::rest) Q:=
 dh rfl (bU hd) _ (λh w sa al=>by
  have e:(a !=b)=decide (a≠b):=by by_cases h:a=b<;>simp[h]
  simp only[Bx.v_b,execOp,hx,hy,Go.binOp,eqGuard,Op.intCmp,ne_eq,not_true_eq_false,if_false,bo,bS,e];rfl) k
theorem dN.draw {h:PH} {w:World} (re:dN c h L w) (k:Nat):dN c h L {w with drawn:=k}:=
 ⟨re.le,⟨re.sat.imm,re.sat.own,re.sat.nodup,re.sat.apart⟩,⟨re.fr.os,re.fr.tape,re.fr.output,re.fr.size,re.fr.block⟩,re.new⟩
variable {u v r:Nat} {op:BinOp}
theorem fh (hx:ap f x= .b (.float .f64 u)) (hy:ap f y= .b (.float .f64 v)) (hr:H5 op u v=some r) (hd:Nat.blt d n=true) (k:ak P c n ops Fs L (aT f d (.float .f64 r)) rest Q):
  ak P c n ops Fs L f (⟨some d,.binOp op T x y T',ty,ps,aft,none⟩::rest) Q:=
 dh rfl (bU hd) _ (λh w sa al=>by
  cases op<;>simp only[H5] at hr<;>first|(cases hr;done)|skip
  all_goals
   simp only[Bx.v_b,execOp,hx,hy,Go.binOp,eqGuard,Op.floatArith,ne_eq,not_true_eq_false,if_false,bo,bS]
   first
    |(have e:FloatKind.f64.format.add u v=some r:=hr;rw[e];rfl)
    |(have e:FloatKind.f64.format.sub u v=some r:=hr;rw[e];rfl)
    |(have e:FloatKind.f64.format.mul u v=some r:=hr;rw[e];rfl)
    |(have e:FloatKind.f64.format.div u v=some r:=hr;rw[e];rfl)) k
theorem ahU (hx:ap f x= .b (.float .f64 u)) (hy:ap f y= .b (.float .f64 v)) (ha:TO op=true) (hd:Nat.blt d n=true) (k:∀r,ak P c n ops Fs L (aT f d (.float .f64 r)) rest Q):
  ak P c n ops Fs L f (⟨some d,.binOp op T x y T',ty,ps,aft,none⟩::rest) Q:=by
 cases e:H5 op u v with
 |some r=>exact fh hx hy e hd (k r)
 |none=>
  refine mX O (bU hd) λh w re al=>?_;refine⟨.float .f64 (Question.cut (.nanBits .f64 u v) (w.tape w.drawn (.nanBits .f64 u v))),{w with drawn:=w.drawn+1},Fs,L,h,?_,re.draw _,al,k _⟩;cases op<;>simp only[H5,TO] at e ha<;>first|(cases ha;done)|skip
  all_goals
   simp only[Bx.v_b,execOp,hx,hy,Go.binOp,eqGuard,Op.floatArith,ne_eq,not_true_eq_false,if_false,bo,bS]
   first
    |(have e':FloatKind.f64.format.add u v=none:=e;rw[e'];rfl)
    |(have e':FloatKind.f64.format.sub u v=none:=e;rw[e'];rfl)
    |(have e':FloatKind.f64.format.mul u v=none:=e;rw[e'];rfl)
    |(have e':FloatKind.f64.format.div u v=none:=e;rw[e'];rfl)
variable {t:Bool}
theorem ly (hx:ap f x= .b (.float .f64 u)) (hy:ap f y= .b (.float .f64 v)) (hr:Vk op u v=some t) (hd:Nat.blt d n=true) (k:ak P c n ops Fs L (aT f d (.bool t)) rest Q):
  ak P c n ops Fs L f (⟨some d,.binOp op T x y T',ty,ps,aft,none⟩::rest) Q:=
 dh rfl (bU hd) _ (λh w sa al=>by
  cases op<;>simp only[Vk] at hr<;>first|(cases hr;done)|skip
  all_goals
   cases hr;simp only[Bx.v_b,execOp,hx,hy,Go.binOp,eqGuard,Op.floatCmp,ne_eq,not_true_eq_false,if_false,bo,bS];rfl) k
theorem vX (hx:ap f x= .b (.bool t)) (hd:Nat.blt d n=true) (k:ak P c n ops Fs L (aT f d (.bool (!t))) rest Q):
  ak P c n ops Fs L f (⟨some d,.unOp .not T x,ty,ps,aft,none⟩::rest) Q:=
 dh rfl (bU hd) _ (λh w sa al=>by
  simp only[Bx.v_b,execOp,hx,Op.unary];rfl) k
theorem Nf {fn:Fn} {first cap:List Operand} {fv cv:List Value} (h1:jv f first fv) (h2:jv f cap cv) (hd:Nat.blt d n=true)
  (k:ak P c n ops Fs L (aT f d (.func fn fv.toArray cv.toArray)) rest Q):ak P c n ops Fs L f (⟨some d,.makeFunc fn first.toArray cap.toArray,ty,ps,aft,none⟩::rest) Q:=
 dh rfl (bU hd) _ (λh w sa al=>by
  have e1:(List.map (λx=>(ap f x).v) first)=fv:=h1.map;have e2:(List.map (λx=>(ap f x).v) cap)=cv:=h2.map;simp only[execOp,Instr.makeFunc,nN,e1,e2];rfl) k
def Sr:TypeDesc->Bool
 |.interface _=>false
 |_=>true
theorem ahO (Tb:bZ P aC) {i:TI} (ht:aC T=some i) (hni:Sr i.desc=true) {v:Value} (hx:ap f x= .b (v)) (hd:Nat.blt d n=true)
  (k:ak P c n ops Fs L (aT f d (.iface T v)) rest Q):ak P c n ops Fs L f (⟨some d,.makeInterface T x,ty,ps,aft,none⟩::rest) Q:=
 dh rfl (bU hd) _ (λh w sa al=>by
  simp only[Bx.v_b,execOp,hx,Instr.makeInterface,bo,(Tb T i ht).desc w,bV];cases e:i.desc<;>first|rfl|(rw[e] at hni;cases hni)) k
theorem UA (Tb:bZ P aC) {i:TI} (ht:aC T=some i) (hni:Sr i.desc=true) {v:Value} (hx:ap f x= .b (.iface T v)) (hd:Nat.blt d n=true)
  (k:ak P c n ops Fs L (aT f d v) rest Q):ak P c n ops Fs L f (⟨some d,.typeAssert x T' T false,ty,ps,aft,none⟩::rest) Q:=
 dh rfl (bU hd) _ (λh w sa al=>by
  simp only[Bx.v_b,execOp,hx,Instr.typeAssert,bo,(Tb T i ht).desc w,bV];cases e:i.desc<;>first|(simp;done)|(rw[e] at hni;cases hni)) k
end
end Go.V
namespace Go.V
def ju:Nat:=9218868437227405312
def mg (a:Nat):Nat:=if a<4503599627370496 then a else(4503599627370496+a%4503599627370496)*2^(a/4503599627370496-1)
theorem SQ (a:Nat):mg a<mg (a+1):=by
 unfold mg;by_cases h1:a+1<4503599627370496
 ·rw[if_pos h1,if_pos aa];omega
 ·rw[if_neg h1];by_cases h2:a<4503599627370496
  ·rw[if_pos h2];have e:a+1=4503599627370496:=by omega
   rw[e];simp;omega
  ·rw[if_neg h2];generalize hq:a/4503599627370496=q;generalize hr:a%4503599627370496=r;have ha:a=4503599627370496*q+r:=by have:=Ki a 4503599627370496;omega
   have hr':r<4503599627370496:=by omega
   have hq1:1<=q:=by omega
   have hp:0<2^(q-1):=k9 _;by_cases h3:r+1<4503599627370496
   ·have e1:(a+1)/4503599627370496=q:=by omega
    have e2:(a+1)%4503599627370496=r+1:=by omega
    rw[e1,e2];exact Gc aa hp
   ·have e0:r=4503599627370495:=by omega
    have e1:(a+1)/4503599627370496=q+1:=by omega
    have e2:(a+1)%4503599627370496=0:=by omega
    rw[e1,e2,e0];have e3:q+1-1=(q-1)+1:=by omega
    rw[e3,PT];omega
theorem SR {a b:Nat} (h:a<b):mg a<mg b:=by
 induction b with
 |zero=>omega
 |succ b ih=>
  by_cases e:a=b
  ·subst e;exact SQ a
  ·exact Nat.lt_trans (ih aa) (SQ b)
theorem ae1 (a b:Nat):compare (mg a) (mg b)=compare a b:=by
 rcases zV a b with h|h|h
 ·rw[wZ.2 h,wZ.2 (SR h)]
 ·subst h;simp
 ·rw[zN.2 h,zN.2 (SR h)]
theorem RL {a:Nat} (h:a<ju):∃m k:Nat,Ieee.double.read a= .number false m (-1074+(k:Int))/\mg a=m*2^k:=by
 unfold ju at h;have hs:Ieee.double.signWeight=9223372036854775808:=rfl;have hb:Ieee.double.binade=4503599627370496:=rfl;have hi:Ieee.double.infRung=9218868437227405312:=rfl;have hl:Ieee.double.leastPlace= -1074:=rfl;have e1:a/9223372036854775808%2=0:=by omega
 have e2:a%9223372036854775808=a:=uC aa;unfold Ieee.Format.read mg;simp only[hs,hb,hi,hl,e1,e2];by_cases h1:a<4503599627370496
 ·rw[if_pos h1];exact⟨a,0,O,by rw[if_pos h1];simp⟩
 ·rw[if_neg h1,if_pos h];exact⟨_,a/4503599627370496-1,O,by rw[if_neg h1]⟩
theorem Wf (x y p:Nat) (hp:0<p):compare (x*p) (y*p)=compare x y:=by
 rcases zV x y with h|h|h
 ·rw[wZ.2 h,wZ.2 (Gc h hp)]
 ·subst h;simp
 ·rw[zN.2 h,zN.2 (Gc h hp)]
theorem ako (x y:Nat):compare (x:Int) (y:Int)=compare x y:=by
 rcases zV x y with h|h|h
 ·rw[wZ.2 h];exact Int.compare_eq_lt.2 aa
 ·subst h;simp
 ·rw[zN.2 h];exact Int.compare_eq_gt.2 aa
theorem BL {a b:Nat} (ha:a<ju) (hb:b<ju):Ieee.double.order a b=some (compare a b):=by
 obtain⟨m,i,h1,h2⟩:=RL ha;obtain⟨n,j,h3,h4⟩:=RL hb;unfold Ieee.Format.order Ieee.Datum.order;rw[h1,h3];simp only;rw[<-ae1 a b,h2,h4];congr 1;unfold Ieee.signed;simp only[ld,if_false,rW];rw[ako];rcases XL i j with h|h
 ·have e1:(-1074+(i:Int)-min (-1074+(i:Int)) (-1074+(j:Int))).toNat=0:=by omega
  have e2:(-1074+(j:Int)-min (-1074+(i:Int)) (-1074+(j:Int))).toNat=j-i:=by omega
  rw[e1,e2];have:=Wf (m*2^0) (n*2^(j-i)) (2^i) (k9 _);rw[<-this,nK n,<-Dv,Pw h];simp
 ·have e1:(-1074+(j:Int)-min (-1074+(i:Int)) (-1074+(j:Int))).toNat=0:=by omega
  have e2:(-1074+(i:Int)-min (-1074+(i:Int)) (-1074+(j:Int))).toNat=i-j:=by omega
  rw[e1,e2];have:=Wf (m*2^(i-j)) (n*2^0) (2^j) (k9 _);rw[<-this,nK m,<-Dv,Pw h];simp
theorem Wh {a b:Nat}:(some (compare a b)==some Ordering.gt)=decide (a>b):=by
 rcases zV a b with h|h|h
 ·rw[wZ.2 h];simp;omega
 ·subst h;simp
 ·rw[zN.2 h];simp[h]
theorem Iw {a b:Nat}:(some (compare a b)==some Ordering.eq)=decide (a=b):=by
 rcases zV a b with h|h|h
 ·rw[wZ.2 h];simp;omega
 ·subst h;simp
 ·rw[zN.2 h];simp;omega
variable {a b:Nat}
theorem aji (ha:a<ju) (hb:b<ju):fJ a b=decide (a>b):=by unfold fJ;rw[BL ha hb,Wh]
theorem tK (ha:a<ju) (hb:b<ju):cX a b=decide (a=b):=by unfold cX;rw[BL ha hb,Iw]
theorem U9 (ha:a<ju) (hb:b<ju):tH a b=decide (a≠b):=by
 unfold tH;rw[BL ha hb,bne,Iw];by_cases h:a=b<;>simp[h]
end Go.V
namespace Go.V
section
variable {P:Program} {c:bC} {n:Nat} {ops:Array Oper} {Fs:List an} {L:List ae} {f:Fm} {Q:bG} {rest:List Oper}
variable {d:Nat} {ty:TypeId} {ps:String} {aft:Array Edge} {aC:Nat->Option TI} {x y:Operand} {T T':TypeId} {a b:Int}
theorem b9 (Tb:bZ P aC) {i off r o:Nat} {ti:TI} (ht:aC T=some ti) (ho:ti.offs[i]? =some off) (hx:ap f x= .b (.pointer (some ⟨r,o,none⟩))) (hd:Nat.blt d n=true)
  (k:ak P c n ops Fs L (aT f d (.pointer (some ⟨r,o+off,none⟩))) rest Q):ak P c n ops Fs L f (⟨some d,.fieldAddr T x i,ty,ps,aft,none⟩::rest) Q:=
 dh rfl (bU hd) _ (λh w sa al=>by
  have e:((⟨r,o,none⟩:Addr).add off)=⟨r,o+off,none⟩:=nk r o off;simp only[Bx.v_b,execOp,hx,bo,(Tb T ti ht).offs i off ho,bV,e];rfl) k
theorem bp (Tb:bZ P aC) {ti:TI} (ht:aC T=some ti) (hk:ti.kind=1) {s r o len cap:Nat} (hs:ti.elS=s) {i:Nat} (hx:ap f x= .b (.slice (some ⟨r,o,none⟩) len cap)) {ki:IntKind} (hy:ap f y= .b (.int ki a)) (hi:a=i) (hlt:i<len)
  (hd:Nat.blt d n=true) (k:ak P c n ops Fs L (aT f d (.pointer (some ⟨r,o+i*s,none⟩))) rest Q):ak P c n ops Fs L f (⟨some d,.indexAddr T x y,ty,ps,aft,none⟩::rest) Q:=
 dh rfl (bU hd) _ (λh w sa al=>by
  subst hi;have h1:=(Tb T ti ht).desc w;obtain⟨he,h2⟩:=(Tb T ti ht).el hk;rw[he] at h1;rw[hs] at h2;have hc:(0:Int)<=(i:Int)/\(i:Int)<(len:Int):=by omega
  have ea:((⟨r,o,none⟩:Addr).add (i*s))=⟨r,o+i*s,none⟩:=nk r o _;simp only[Bx.v_b,execOp,hx,hy,Instr.indexAt,asIntOf,bo,bS,bV,h1,hc,and_self,if_true,h2,xa,ea]) k
theorem fg (Tb:bZ P aC) {ti:TI} (ht:aC T=some ti) (hk:ti.kind=2) {s r o:Nat} (hs:ti.elS=s) {i:Nat} (hx:ap f x= .b (.pointer (some ⟨r,o,none⟩))) {ki:IntKind} (hy:ap f y= .b (.int ki a)) (hi:a=i) (hlt:i<ti.len)
  (hd:Nat.blt d n=true) (k:ak P c n ops Fs L (aT f d (.pointer (some ⟨r,o+i*s,none⟩))) rest Q):ak P c n ops Fs L f (⟨some d,.indexAddr T x y,ty,ps,aft,none⟩::rest) Q:=
 dh rfl (bU hd) _ (λh w sa al=>by
  subst hi;have h1:=(Tb T ti ht).desc w;obtain⟨he,h2⟩:=(Tb T ti ht).ar hk;rw[he] at h1;rw[hs] at h2;have hc:(0:Int)<=(i:Int)/\(i:Int)<(ti.len:Int):=by omega
  have ea:((⟨r,o,none⟩:Addr).add (i*s))=⟨r,o+i*s,none⟩:=nk r o _;simp only[Bx.v_b,execOp,hx,hy,Instr.indexAt,Instr.sureAddr,asIntOf,bo,bS,bV,h1,hc,and_self,if_true,h2,xa,ea]) k
theorem HT (Tb:bZ P aC) {ti:TI} (ht:aC T=some ti) (hk:ti.kind=1) {p:Option Addr} {len cap:Nat} (hx:ap f x= .b (.slice p len cap)) (hd:Nat.blt d n=true)
  (k:ak P c n ops Fs L (aT f d (.int .i64 len)) rest Q):ak P c n ops Fs L f (⟨some d,.call ⟨.builtin .len, #[x], #[T]⟩,ty,ps,aft,none⟩::rest) Q:=
 dh rfl (bU hd) _ (λh w sa al=>by
  have h1:=(Tb T ti ht).desc w;obtain⟨he,_⟩:=(Tb T ti ht).el hk;rw[he] at h1;simp only[Bx.v_b,execOp,resolve,bo,bS,bV,invoke,builtin,Builtin.len_,nN,dV,th,hx];simp[h1,goInt]) k
theorem ahR (Tb:bZ P aC) {i j:TI} (hi:aC T=some i) (hj:aC T'=some j) (hj':j.desc= .float .f64) {ki:IntKind} (hx:ap f x= .b (.int ki a)) (hd:Nat.blt d n=true)
  (k:ak P c n ops Fs L (aT f d (.float .f64 (FloatKind.f64.nearest a))) rest Q):ak P c n ops Fs L f (⟨some d,.convert T T' x,ty,ps,aft,none⟩::rest) Q:=
 dh rfl (bU hd) _ (λh w sa al=>by
  have h1:=(Tb T i hi).desc w;have h2:=(Tb T' j hj).desc w;rw[hj'] at h2;simp only[Bx.v_b,execOp,convert,hx,bo,h1,h2,bV];cases i.desc<;>rfl) k
end
end Go.V
namespace Go.V
def Ep:List Value->Nat->Bx
 |[],_=> .no
 |v::_,0=> .b v
 |_::l,n+1=>Ep l n
theorem So:∀(l:List Value) (i:Nat) (v:Value),Ep l i= .b (v)->i<l.length->l[i]? =some v
 |[],i,v,_,h=>by simp at h
 |u::l,0,v,h,_=>by simp only[Ep,Bx.b.injEq] at h;simp[h]
 |u::l,i+1,v,h,hl=>by
  simp only[Ep] at h;simpa using So l i v h (by simpa using hl)
inductive NF {α:Type}:List α->List α->Prop where
 |nil:NF [] []
 |cons {a l m}:NF l m->NF (a::l) (a::m)
theorem NF.eq {α:Type} {l m:List α} (h:NF l m):l=m:=by
 induction h with
 |nil=>rfl
 |cons _ ih=>rw[ih]
def gN (l:List Value):Bool:=l.all Value.oneCell'
inductive uw (f:Fm):List (Nat×Operand)->List (Nat×Value)->Prop where
 |nil:uw f [] []
 |cons {i x xs v vs}:ap f x= .b (v)->uw f xs vs->uw f ((i,x)::xs) ((i,v)::vs)
theorem uw.map {f:Fm} {xs:List (Nat×Operand)} {vs:List (Nat×Value)} (h:uw f xs vs):xs.map (λp=>(p.1,(ap f p.2).v))=vs:=by
 induction h with
 |nil=>rfl
 |cons e _ ih=>simp[e,ih,Bx.v_b]
def z9 (l:List Value):Nat->List Value->List Value
 |_,[]=>l
 |i,v::vs=>z9 (l.set i v) (i+1) vs
def xS:Value->List Value
 |.agg cs=>cs.toList
 |v=>[v]
def Cn (pl:List (Nat×Nat)) (z:List Value):List (Nat×Value)->List Value
 |[]=>z
 |(i,v)::r=>match pl[i]? with
  |some (off,_)=>Cn pl (z9 z off (xS v)) r
  |none=>z
def Cm (pl:List (Nat×Nat)) (z:List Value):List (Nat×Value)->Bool
 |[]=>true
 |(i,v)::r=>match pl[i]? with
  |some (off,s)=>Nat.beq (xS v).length s&&(Nat.ble (off+s) z.length&&Cm pl (z9 z off (xS v)) r)
  |none=>false
theorem Fb (v:Value):v.cells=(xS v).toArray:=by cases v<;>simp[xS,Value.cells]
theorem U7 (off:Nat):∀(vs:List Value) (j:Nat) (z:List Value),((vs.zipIdx j).foldl (λ(cs:Array Value) (p:Value×Nat)=>cs.setIfInBounds (off+p.2) p.1) z.toArray)=(z9 z (off+j) vs).toArray
 |[],_,_=>rfl
 |v::vs,j,z=>by
  simp only[List.zipIdx_cons,Dy,z9];have:=U7 off vs (j+1) (z.set (off+j) v);rw[<-Dj] at this;rw[<-this];simp
theorem Ib (pl:List (Nat×Nat)):∀(parts:List (Nat×Value)) (z:List Value),Cm pl z parts=true->Instr.fill (λi=>pl[i]?) z.toArray parts=some (Cn pl z parts).toArray
 |[],z,_=>rfl
 |(i,v)::r,z,h=>by
  unfold Cm at h;unfold Instr.fill Cn;cases e:pl[i]? with
  |none=>rw[e] at h;cases h
  |some p=>
   obtain⟨off,s⟩:=p;rw[e] at h;simp only[eI] at h;obtain⟨h1,h2,h3⟩:=h;have h1':=nO h1;have h2':=zL.mp h2;have hc:v.cells.size=s:=by rw[Fb];simpa using h1'
   have ih:=Ib pl r _ h3;have hno:(decide (v.cells.size≠s)||decide (off+v.cells.size>z.toArray.size))=false:=by
    simp[hc];omega
   simp only[hno,ld,if_false];rw[<-ih];congr 1;have:=U7 off (xS v) 0 z;rw[wY] at this;rw[<-this,Fb];simp[Array.zipIdx_toArray]
theorem bj {Fs:List an} {L:List ae} {r o:Nat} {v:Value} {cs:Array Value} {t:TypeId} {fz:Nat×Nat} (hm:(r,Obj.cells cs t fz)∈L) (hv:Ep cs.toList o= .b (v)) (hl:Nat.blt o cs.size=true):uz Fs L r o v:=
 LH hm (by
  have:=So cs.toList o v hv (by simpa using Nat.blt_eq.mp hl);simpa using this)
section
variable {P:Program} {c:bC} {n:Nat} {ops:Array Oper} {Fs:List an} {L:List ae} {f:Fm} {Q:bG} {rest:List Oper}
variable {d:Nat} {ty:TypeId} {ps:String} {aft:Array Edge} {aC:Nat->Option TI} {x y:Operand} {T T':TypeId} {a b:Int}
def ags:TypeDesc->Bool
 |.struct _=>true
 |_=>false
theorem Uy (Tb:bZ P aC) {ti:TI} (ht:aC T=some ti) (hs:ags ti.desc=true) {z:Array Value} (hz:ti.zero= .b (.agg z)) {parts:List (Nat×Operand)} {pv:List (Nat×Value)} (hp:uw f parts pv)
  (hb:Cm ti.places z.toList pv=true) {cs:List Value} (hn:NF (Cn ti.places z.toList pv) cs) (hd:Nat.blt d n=true)
  (k:ak P c n ops Fs L (aT f d (.agg cs.toArray)) rest Q):ak P c n ops Fs L f (⟨some d,.build T parts.toArray,ty,ps,aft,none⟩::rest) Q:=by
 have e:=hn.eq;refine dh O (bU hd) _ (λh w sa al=>?_) k;have h0:=(Tb T ti ht).zero w;have h1:=(Tb T ti ht).desc w;have hm:(List.map (λp:Nat×Operand=>(p.1,(ap f p.2).v)) parts)=pv:=hp.map;rw[hz,Bx.v_b] at h0;have hfill:=Ib ti.places pv z.toList hb;cases e3:ti.desc with
 |struct fs=>
  rw[e3] at h1;have h2:=(Tb T ti ht).places fs e3 w;simp only[execOp,Instr.build,bo,h0,h1,bV,nN,hm];rw[h2];simp only[Array.toArray_toList] at hfill;simp only[bV,List.getElem?_toArray,Value.cells,hfill,bS,e]
 |_=>rw[e3] at hs;cases hs
theorem M8 (Tb:bZ P aC) {ti:TI} (ht:aC T=some ti) {r:Nat} {cs vs:Array Value} {t':TypeId} {L':List ae}
  (hx:ap f x= .b (.pointer (some ⟨r,0,none⟩))) (hy:ap f y= .b (.agg vs)) (hsz:ti.sz=vs.size) (h1:gN vs.toList=true)
  (hu:cf L r (.cells cs t' (0,0)) (.cells vs t' (0,0)) L') (hfit:vs.size=cs.size) (k:ak P c n ops Fs L' f rest Q):
  ak P c n ops Fs L f (⟨none,.store T x y,ty,ps,aft,none⟩::rest) Q:=
 Ul Tb ht hx hy rfl hsz (kD.mp h1) hu hfit k
theorem ahF (Tb:bZ P aC) {ti:TI} (ht:aC T=some ti) {r:Nat} {v u:Value} {t':TypeId} {L':List ae}
  (hx:ap f x= .b (.pointer (some ⟨r,0,none⟩))) (hy:ap f y= .b (v)) (hv:v.cells= #[v]) (hsz:ti.sz=1) (h1:v.oneCell'=true)
  (hu:cf L r (.cells #[u] t' (0,0)) (.cells #[v] t' (0,0)) L') (k:ak P c n ops Fs L' f rest Q):
  ak P c n ops Fs L f (⟨none,.store T x y,ty,ps,aft,none⟩::rest) Q:=
 Ul Tb ht hx hy hv hsz (by simpa using h1) hu rfl k
theorem ahE (Tb:bZ P aC) {ti:TI} (ht:aC T=some ti) {r o:Nat} {v:Value} {cs vs:Array Value} {l:List Value} {t':TypeId} {L':List ae}
  (hx:ap f x= .b (.pointer (some ⟨r,o,none⟩))) (hy:ap f y= .b (v)) (hv:v.cells=vs) (hsz:ti.sz=vs.size) (h1:gN vs.toList=true) (hfit:Nat.ble (o+vs.size) cs.size=true)
  (hn:NF (cs.toList.take o++vs.toList++cs.toList.drop (o+vs.size)) l)
  (hu:cf L r (.cells cs t' (0,0)) (.cells l.toArray t' (0,0)) L') (k:ak P c n ops Fs L' f rest Q):
  ak P c n ops Fs L f (⟨none,.store T x y,ty,ps,aft,none⟩::rest) Q:=
 Ar Tb ht hx hy hv hsz (kD.mp h1) hu (zL.mp hfit) (by rw[hn.eq]) k
theorem lZ {t:Nat} {v:Value} (h:f t= .b (v)):Fi P f Fs L (.tmp t) v:=h
theorem xm (Tb:bZ P aC) {ti:TI} {t r:Nat} (ht:aC T=some ti) (ha:ti.agg=true) {cs:Array Value} {t':TypeId} {fz:Nat×Nat} (hx:f t= .b (.pointer (some ⟨r,0,none⟩)))
  (hm:(r,Obj.cells cs t' fz)∈L) (hl:ti.sz=cs.size):Fi P f Fs L (.cell t T) (.agg cs):=by
 refine⟨_,hx,λh w sa al=>?_⟩;have hg:=(Tb T ti ht).agg w;have hs:=(Tb T ti ht).sz w;rw[ha] at hg;have hcs:=run_loadCells_list (P:=P) w ⟨r,0,none⟩ cs.toList (λj v hv=>by rw[nk];exact bD (Fs:=Fs) hm h w sa al j v hv);simp only[vO,<-hl] at hcs;simp only[loadVar,bo,hg,bV,if_true,hs,hcs,bS]
theorem Rz (Tb:bZ P aC) {ti:TI} {t r:Nat} (ht:aC T=some ti) (ha:ti.agg=false) {v:Value} {t':TypeId} {fz:Nat×Nat} (hx:f t= .b (.pointer (some ⟨r,0,none⟩)))
  (hm:(r,Obj.cells #[v] t' fz)∈L):Fi P f Fs L (.cell t T) v:=by
 refine⟨_,hx,λh w sa al=>?_⟩;have hg:=(Tb T ti ht).agg w;rw[ha] at hg;have hc:w.cell? ⟨r,0,none⟩=some v:=LH (Fs:=Fs) hm dK h w sa al;simp only[loadVar,bo,hg,bV,ld,if_false,run_load,hc]
theorem gy:∀x∈([]:List an),x∈Fs:=λ_ h=>nomatch h
end
end Go.V
namespace Go.V
def fC (o:Oper):List Nat:=(o.after.toList.filter (Region.binds .any)).map (·.on)
theorem Oper.wp_change {P:Program} {o:Oper} {a a':Act} {w:World} {next next':Act->World->Prop} {Q Q':Exit->Act->World->Prop}
  (he:execOp a.eval o=execOp a'.eval o) (hn:∀v w',next (a.put o.dst v) w'->next' (a'.put o.dst v) w') (hdef:∀d w',¬next ({a with defers:=d::a.defers}.put o.dst undef) w')
  (hp:∀ch w,¬Q (.panic ch) a w) (ho:LetsOut Q->LetsOut Q') (h:o.wp P a w next Q):o.wp P a' w next' Q':=by
 unfold Oper.wp at h ⊢;rw[<-he];generalize (execOp a.eval o).run P w=r at h ⊢;cases r with
 |ok x w'=>
  cases x with
  |value v=>exact hn v w' h
  |skip=>exact hn undef w' h
  |defer d=>exact absurd h (hdef d w')
  |enter f args=>
   refine Calls.mono h λe w'' hh=>?_;cases e with
   |returned v=>exact hn v w'' hh
   |panicked ch=>exact absurd hh (hp ch w'')
   |outgrown=>exact ho hh
  |row row args=>exact Rows.mono h λv w'' hh=>hn v w'' hh
  |_=>exact h.elim
 |halt x w'=>
  cases x with
  |panic v=>exact absurd h (hp _ w')
  |_=>exact h.elim
def Er (o:Oper):Bool:=match o.op with
 |.select .. =>false
 |_=>true
def lF (ops:List Oper):Nat->Nat->List Nat
 |0,_=>[]
 |k+1,i=>match ops[i]? with
  |some o=>fC o++(fC o).flatMap (lF ops k)
  |none=>[]
def looks (ops:List Oper) (o:Oper):List Tmp:=o.looksAt ops.toArray
end Go.V
namespace Go.V
inductive QN (K:Fm->List an->List ae->Prop):bG where
 |norm {f Fs L}:K f Fs L->QN K .normal f Fs L
def vc (P:Program) (c:bC) (n:Nat) (ops:List Oper) (Fs:List an) (L:List ae) (f:Fm) (o:Oper) (v:Value):Prop:=
 ∀FX LX Q,ak P c n ops.toArray (Fs++FX) (L++LX) (gh f o.dst v) [] Q->ak P c n ops.toArray (Fs++FX) (L++LX) f [o] Q
def A8 (Fs:List an) (L:List ae) (Fk:List an) (Lk:List ae):Prop:=(∀x∈Fs,x∈Fk)/\List.Sublist L Lk
section
variable {P:Program} {c:bC} {n:Nat} {ops:List Oper} {Fs:List an} {L:List ae}
theorem kE {f:Fm} {d:Option Nat} {v:Value} {t:Nat} (h:d≠some t):gh f d v t=f t:=by
 cases d with
 |none=>rfl
 |some i=>
  have:Nat.beq t i=false:=by
   cases hb:Nat.beq t i
   ·rfl
   ·exact absurd (by rw[nO hb]) h
  simp only[gh,aT,this,cond_false]
theorem qa {f:Fm} {v:Value} {t:Nat}:gh f (some t) v t= .b v:=by simp only[gh,aT,Nat.beq_refl,cond_true]
end
end Go.V
namespace Go.V
theorem dN.perm {c:bC} {h:PH} {L L':List ae} {w:World} (re:dN c h L w) (p:L.Perm L'):dN c h L' w:=
 ⟨re.le,⟨re.sat.imm,λq hq=>re.sat.own q (p.mem_iff.2 hq),(p.map (·.1)).nodup_iff.1 re.sat.nodup,λq hq=>re.sat.apart q (p.mem_iff.2 hq)⟩,re.fr,
  ⟨re.new.imm,λq hq=>re.new.own q (p.mem_iff.2 hq)⟩⟩
section
variable {P:Program} {c:bC} {n:Nat} {ops:List Oper} {Fs:List an} {L:List ae}
theorem afp {o:Oper} {t:Tmp} (h:Operand.tmp t∈o.op.operands):t∈looks ops o:=by
 unfold looks Oper.looksAt;refine bq _ (J6.2 ⟨.tmp t,Kc.2 h,O⟩)
theorem ajw {a a':Act} {f f':Fm} {o:Oper} (ag:Ag n a f) (ag':Ag n a' f') (hl:∀t∈looks ops o,f t=f' t):∀x∈o.op.operands,a.eval x=a'.eval x:=by
 intro x hx;rw[ag.eval,ag'.eval];cases x with
 |tmp t=>simp only[ap,hl t (afp hx)]
 |_=>rfl
theorem YJ {a a':Act} {f f':Fm} (ag:Ag n a f) (ag':Ag n a' f') {t:Nat} (e:f t=f' t):a.tmps[t]? =a'.tmps[t]? :=by
 have h1:=ag.get t;have h2:=ag'.get t;by_cases ht:t<n
 ·have l1:t<a.tmps.size:=by rw[ag.size];exact ht
  have l2:t<a'.tmps.size:=by rw[ag'.size];exact ht
  simp only[gY,Dt l1,Dt l2,mM] at h1 h2;rw[Dt l1,Dt l2,h1,h2,e]
 ·rw[oU (by rw[ag.size];omega),oU (by rw[ag'.size];omega)]
theorem Ya {a a':Act} {f f':Fm} {o:Oper} (ag:Ag n a f) (ag':Ag n a' f') (hl:∀t∈looks ops o,f t=f' t):Region.wanted o (yielded ops.toArray a.tmps)=Region.wanted o (yielded ops.toArray a'.tmps):=by
 unfold Region.wanted;cases hg:o.guard with
 |none=>rfl
 |some p=>
  obtain⟨g,b⟩:=p;have:yielded ops.toArray a.tmps g=yielded ops.toArray a'.tmps g:=by
   unfold yielded;cases ht:(ops.toArray[g]?).bind (·.dst) with
   |none=>rfl
   |some t=>
    have hm:t∈looks ops o:=by
     unfold looks Oper.looksAt;refine bI _ ?_;rw[hg];simp only[ht,Option.toList,List.mem_singleton]
    simp only[lh,YJ ag ag' (hl t hm)]
  simp only[this]
def sG (n:Nat) (f:Fm):Act:=⟨(Array.range n).map λt=>(f t).v,[]⟩
theorem Ff (n:Nat) (f:Fm) (hu:∀t,n<=t->(f t).v=undef):Ag n (sG n f) f:=by
 refine⟨by simp[sG],rfl,λt=>?_⟩;simp only[sG,gY];by_cases ht:t<n
 ·simp[ht]
 ·rw[oU qK];exact(hu t aa).symm
theorem LP {i:Nat} {o:Oper} (ho:ops[i]? =some o) (hns:∀cs b,o.op≠ .select cs b) {f f':Fm} {a a':Act} (ag:Ag n a f) (ag':Ag n a' f') (hl:∀t∈looks ops o,f t=f' t)
  {w:World} {K:Act->World->Prop} {Q:bG} {Q':Exit->Act->World->Prop}
  (hK:∀v w',jR c n Q .normal (a.put o.dst v) w'->K (a'.put o.dst v) w') (h:wpList P ops.toArray (jR c n Q) [o] a w):wpOp P ops.toArray Q' i K a' w:=by
 have he:=execOp_congr o hns (ajw ag ag' hl);have hw:=Ya ag ag' hl;unfold wpList at h;unfold wpOp;have ho':ops.toArray[i]? =some o:=by simpa using ho
 rw[ho'];simp only[<-hw];split at h
 ·rename_i hwt;rw[if_pos hwt];rcases h with h|h
  ·refine .inl (Oper.wp_change he hK (λd w' hh=>?_) (λch w' hh=>hh) Tc h);obtain⟨f1,Fs1,L1,h1,ag1,_⟩:=hh;have:=ag1.defers;cases hd:o.dst<;>simp[Act.put,hd] at this
  ·exact Tc h.2
 ·rename_i hwt;rw[if_neg hwt];exact hK _ _ h
theorem QT {i:Nat} {o:Oper} (ho:ops[i]? =some o) (hns:∀cs b,o.op≠ .select cs b) {fi f':Fm} {v:Value} (hs:vc P c n ops Fs L fi o v) {a:Act} (ag:Ag n a f') (hl:∀t∈looks ops o,fi t=f' t)
  (hu:∀t,n<=t->(fi t).v=undef) {d:Nat} (hd:o.dst=some d) (hdn:d<n) {h:PH} {w:World} {Fk:List an} {Lk:List ae} (re:dN c h Lk w) (al:cr Fk h) (ext:A8 Fs L Fk Lk)
  {Q':Exit->Act->World->Prop} {K:Act->World->Prop} (hK:∀h' w',dN c h' Lk w'->cr Fk h'->K (a.put (some d) v) w'):wpOp P ops.toArray Q' i K a w:=by
 obtain⟨LX,hp⟩:=ext.2.exists_perm_append;have agi:=Ff n fi hu;have g:=(hs Fk LX (QN λf'' Fk'' Lk''=>f''=gh fi o.dst v/\Fk''=Fs++Fk/\Lk''=L++LX) (mj (.norm ⟨rfl,rfl,rfl⟩))).out _ h w agi (re.perm hp)
  (cr.append (λx hx=>al x (ext.1 x hx)) al)
 refine LP ho hns agi ag hl (λv0 w' hh=>?_) g;obtain⟨f1,Fs1,L1,h1,ag1,re1,al1,q⟩:=hh;cases q with
 |norm q=>
  obtain⟨rfl,rfl,rfl⟩:=q;have hv:v0=v:=by
   have:=ag1.get d;rw[hd] at this;simp only[qa,Bx.v_b,Act.put,gY,Kg] at this;rw[if_pos (by rw[agi.size];exact hdn)] at this;simpa using this
  subst hv;rw[hd];exact hK h1 w' (re1.perm hp.symm) (λx hx=>al1 x (bI _ hx))
end
end Go.V
