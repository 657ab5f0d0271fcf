import PyProof.Rows.All
import Wide.All
import OpenK.AllK
import Wide.FinOn
import PySem.Challenge.RW_pd0029_01
set_option Elab.async false
set_option maxRecDepth 100000
set_option maxHeartbeats 1000000
set_option linter.all false
set_option tactic.hygienic false
set_option compiler.extract_closed false
set_option bootstrap.genMatcherCode false
namespace Mine.Internal
open PySem PyProof.Rows
abbrev u8:=@PySem.wpAny_bind
abbrev Ev:=@Nat.le_trans
abbrev On:=@PySem.wpAny_pure
abbrev ao:=@List.mem_map
abbrev aK:=@List.map_cons
abbrev bY:=@PySem.Heap.get?_push_of_some
abbrev bh:=@Option.some.inj
abbrev aI:=@Nat.le_refl
abbrev a_:=@List.mem_cons
abbrev cA:=@List.mem_map_of_mem
abbrev bX:=@Nat.le_add_right
abbrev bW:=@List.length_cons
abbrev Tk:=@if_neg
abbrev b_:=@List.mem_append
abbrev cj:=@List.length_map
abbrev cE:=@List.mem_filter
abbrev b4:=@PySem.wpAny_holding
abbrev bT:=@Nat.le_of_eq
abbrev d7:=@PySem.Heap.get?_push_size
abbrev gh:=@List.getElem?_eq_getElem
abbrev dZ:=@List.length_append
abbrev ak:=@if_pos
abbrev dm:=@List.nodup_cons
abbrev b9:=@Nat.le_succ
abbrev cJ:=@PySem.Heap.lt_size
abbrev iM:=@List.getD_eq_getElem?_getD
abbrev eF:=@List.not_mem_nil
abbrev cO:=@List.map_map
abbrev fG:=@List.mem_singleton
abbrev fB:=@PySem.wpAny_loadPart'
abbrev fU:=@Nat.lt_of_lt_of_le
abbrev f9:=@Nat.lt_of_le_of_lt
abbrev cV:=@PySem.sizeLine_eq
abbrev iD:=@List.length_filter_le
abbrev gP:=@Array.length_toList
abbrev eX:=@PySem.Heap.size_push
abbrev fV:=@List.append_nil
abbrev iX:=@List.mem_append_left
abbrev gw:=@Nat.succ_le_succ
abbrev k8:=@List.getElem?_eq_some_iff
abbrev g9:=@Nat.le_of_succ_le
abbrev mu:=@List.getElem?_eq_none_iff
abbrev bS:=@Ne.symm
abbrev gK:=@List.map_append
abbrev jQ:=@Nat.add_le_add_left
abbrev kZ:=@PySem.Heap.get?_update_self
abbrev iS:=@PySem.wpAny_newObj_type
abbrev fE:=@Nat.ne_of_lt
abbrev g6:=@List.length_nil
abbrev gb:=@PySem.wpAny_standAt
abbrev d8:=@PySem.wpAny_mono
abbrev fN:=@Nat.le_of_lt
abbrev cQ:=@congrArg
abbrev lM:=@List.cons_prefix_cons
abbrev fz:=@Nat.zero_le
abbrev eL:=@Nat.not_lt
abbrev j3:=@Bool.false_eq_true
abbrev jL:=@List.size_toArray
abbrev je:=@List.filter_cons
abbrev n8:=@Option.ne_none_iff_exists'
abbrev kG:=@Int.natCast_nonneg
abbrev j6:=@List.append_assoc
abbrev kq:=@List.nodup_append
abbrev lz:=@List.filter_eq_self
abbrev jZ:=@List.flatMap_cons
abbrev jM:=@Nat.lt_succ_self
abbrev m5:=@List.mem_append_right
abbrev lQ:=@Nat.lt_of_lt_of_eq
abbrev kF:=@List.getElem?_map
abbrev j8:=@List.all_eq_true
abbrev l0:=@List.filter_sublist
abbrev nk:=@Nat.add_le_add_right
abbrev kW:=@Bool.and_eq_true
abbrev nh:=@PySem.Heap.SameBut.update
abbrev iE:=@Nat.ne_of_gt
abbrev gQ:=@PySem.wpAny_field
abbrev nB:=@PySem.Around.under_plainId
abbrev lD:=@List.lookup_cons
abbrev jd:=@List.cons.inj
abbrev oG:=@PySem.builtinLookup_eq_fast
abbrev lY:=@PySem.wpAny_call_entry
abbrev lG:=@List.foldl_cons
abbrev rJ:=@List.drop_eq_getElem_cons
abbrev oV:=@Bool.false_ne_true
abbrev oq:=@List.Nodup.sublist
abbrev mH:=@PySem.codeAny_builtin
abbrev mw:=@Nat.add_le_add
abbrev nY:=@List.cons_append
abbrev l_:=@PySem.isSubtype_type
abbrev sf:=@PySem.wpAny_callSpecial?_slot
abbrev p6:=@List.zip_cons_cons
abbrev rE:=@PySem.Heap.get?_update_other
abbrev pG:=@decide_eq_true_iff
abbrev rQ:=@PyProof.Rows.tail_any
abbrev pC:=@Nat.le_succ_of_le
abbrev nC:=@PySem.wpAny_seqItems
abbrev o5:=@Bool.or_eq_true
abbrev oi:=@PySem.typeLookup_type
abbrev oA:=@List.nil_append
abbrev pZ:=@PySem.wpAny_askSetting
abbrev g5:=@or_false
abbrev qB:=@Int.toNat_natCast
abbrev xy:=@Nat.succ_add_eq_add_succ
abbrev xO:=@Option.isSome_iff_exists
abbrev qb:=@Bool.eq_iff_iff
abbrev pI:=@List.forIn_cons
abbrev rN:=@PySem.wpAny_Call_Name_kw
abbrev sQ:=@PySem.wpAny_setField_rec
abbrev uy:=@List.mem_of_getElem?
abbrev lK:=@PySem.wpAny_load
abbrev lR:=@beq_iff_eq
abbrev sV:=@decide_eq_true_eq
abbrev xu:=@List.take_of_length_le
abbrev xB:=@List.filter_eq_nil_iff
abbrev vo:=@Nat.mul_le_mul_left
abbrev ve:=@List.map_congr_left
abbrev rD:=@List.find?_cons
abbrev qI:=@List.nil_prefix
abbrev yF:=@List.getElem?_append_left
abbrev xq:=@Array.getElem?_toList
abbrev sX:=@beq_self_eq_true
abbrev sd:=@List.getElem_mem
abbrev Av:=@Nat.exists_eq_add_of_le'
abbrev jA:=@if_false
abbrev ru:=@List.mem_range
abbrev zK:=@PySem.wpAny_Call_method_lateS
abbrev BB:=@PySem.wpAny_nextOf_list_item
abbrev zN:=@PySem.Heap.size_after_update
abbrev Ae:=@PyProof.noPylong_small
abbrev rq:=@PySem.wpAny_attempt
abbrev qT:=@PySem.plainId_quiet
abbrev qJ:=@PySem.W.Looks.of_pure
abbrev vh:=@List.mem_reverse
abbrev uq:=@List.flatMap_nil
abbrev vC:=@PySem.Calls.spliced_cons
abbrev sM:=@PySem.Obj.putName_eq
abbrev ze:=@List.contains_iff_mem
abbrev C8:=@PySem.F.plain_extend_loop
abbrev s9:=@PySem.wpAny_updateSeq
abbrev vp:=@PySem.F.slot_zip_next
abbrev Af:=@Nat.mul_le_mul_right
abbrev qx:=@Int.le_trans
abbrev wN:=@PySem.Calls.spliced_nil
abbrev AE:=@Array.toArray_toList
abbrev yN:=@PySem.Calls.evalArgs_plain
abbrev wG:=@PySem.wpAny_assign_Name
abbrev wI:=@PySem.wpAny_pyIter_list
abbrev vR:=@Nat.lt_succ_of_lt
abbrev AH:=@PySem.F.called_tuple
abbrev zg:=@PySem.codeAny_call_builtin
abbrev wh:=@List.filter_congr
abbrev oM:=@PySem.wpAny_call
abbrev DF:=@PySem.wpAny_getItem_str_slice
abbrev wO:=@List.length_drop
abbrev Cu:=@PySem.F.plainAttrs_dict
abbrev qw:=@PySem.wpAny_of_eq
abbrev I5:=@PyProof.Rows.len_partsBetween
abbrev qE:=@PySem.W.plainGet_of
abbrev Cr:=@PySem.wpAny_pyNext_list_item
abbrev pJ:=@PySem.wpAny_rule
abbrev sq:=@List.map_nil
abbrev Es:=@PySem.F.slot_bool_hash
abbrev yS:=@List.pairwise_cons
abbrev D5:=@Nat.le_of_succ_le_succ
abbrev wu:=@PySem.pushCells_keeps
abbrev xU:=@PySem.wpAny_specialOf
abbrev vL:=@List.cons.injEq
abbrev Fx:=@PySem.SeqAt.canLay_of_shaped
abbrev tT:=@Bool.or_false
abbrev yE:=@PySem.wpAny_truthy_bool
abbrev Ah:=@PySem.wpAny_Assign_Name
abbrev mC:=@if_true
abbrev JS:=@List.idxOf_lt_length_of_mem
abbrev zX:=@Nat.le_of_lt_succ
abbrev Em:=@List.mem_of_mem_drop
abbrev x7:=@PySem.wpAny_newTuple
abbrev w7:=@decide_eq_true
abbrev v5:=@PySem.wpAny_setField
abbrev A0:=@List.dropLast_concat
abbrev uF:=@Nat.add_comm
abbrev uM:=@Int.ofNat_le
abbrev Bh:=@Option.getD_some
abbrev yx:=@PySem.size_glued
abbrev tP:=@decide_false
abbrev z9:=@PySem.entryFor_of_tree
abbrev zJ:=@List.any_eq_true
abbrev zy:=@List.length_take
abbrev z5:=@List.mem_flatMap
abbrev Gv:=@Int.le_add_of_nonneg_left
abbrev CW:=@List.filterMap_cons
abbrev Bb:=@List.flatMap_append
abbrev wH:=@Bool.and_true
abbrev N6:=@PySem.W.Fast.te14364793385576792824
abbrev Iz:=@List.Nodup.idxOf_getElem
abbrev Cb:=@Option.map_some
abbrev yq:=@PySem.Heap.dictOf_iff
abbrev CQ:=@List.mem_cons_self
abbrev De:=@PyProof.Rows.assignInOrder_cons
abbrev Cx:=@PySem.Obj.data_mapFields
abbrev CZ:=@Nat.lt_of_le_of_ne
abbrev GN:=@List.length_eq_zero_iff
abbrev Bo:=@Bool.not_eq_true'
abbrev BF:=@PySem.slot_list_getitem
abbrev yc:=@List.drop_zero
abbrev yT:=@List.nodup_nil
abbrev Di:=@PySem.F.plainAttrs_list
abbrev E0:=@List.drop_eq_nil_of_le
abbrev vG:=@Nat.lt_or_ge
abbrev DG:=@List.take_add_one
abbrev DN:=@List.reverse_cons
abbrev J0:=@Option.map_eq_some_iff
abbrev CK:=@PySem.Heap.get?_push_ne
abbrev Ic:=@PySem.wpAny_isTrue_Compare1
abbrev E4:=@PySem.wpAny_pyNext_list_end
abbrev E2:=@PySem.F.slot_dict_pop
abbrev FF:=@Nat.le_of_sub_eq_zero
abbrev Gj:=@PySem.F.slot_set_iter
abbrev AU:=@Nat.min_le_right
abbrev Bu:=@PySem.F.plainAttrs_str
abbrev Dw:=@PySem.wpAny_execs_cons
abbrev Du:=@PySem.F.slot_str_split
abbrev BR:=@Bool.not_eq_true
abbrev Co:=@List.isEmpty_map
abbrev Ce:=@List.isEmpty_iff
abbrev Dq:=@List.prefix_refl
abbrev yG:=@Nat.lt_irrefl
abbrev Gy:=@List.drop_eq_nil_iff
abbrev Gh:=@List.mem_of_mem_take
abbrev wU:=@PySem.wpAny_letGo
abbrev Ik:=@Nat.not_succ_le_self
abbrev I_:=@List.idxOf_le_length
abbrev JX:=@List.getLastD_concat
abbrev IQ:=@List.pairwise_append
abbrev Er:=@Nat.min_eq_left
abbrev BI:=@List.of_mem_zip
abbrev Ea:=@PySem.post_val_or_str
abbrev BP:=@List.head?_drop
abbrev Dh:=@PyProof.Rows.get?_update_seq
abbrev Dj:=@Nat.le_add_left
abbrev EL:=@Array.toList_append
abbrev HV:=@ne_true_of_eq_false
abbrev FL:=@beq_eq_false_iff_ne
abbrev G9:=@PySem.plainId_quiet
abbrev z3:=@PySem.Txt.slice_le
abbrev Mc:=@PySem.wpAny_nextOf_list_end
abbrev M1:=@PySem.SeqAt.depth_of_shaped
abbrev Hj:=@Int.lt_of_le_of_lt
abbrev vZ:=@Exists.imp
abbrev Jt:=@PySem.Calls.Constant_str
abbrev vB:=@PySem.typeIs_str
abbrev BW:=@List.forIn_nil
abbrev FP:=@PySem.W.isNs_of_in
abbrev vH:=@PySem.call_meets
abbrev E3:=@PySem.F.args_str_split_2
abbrev NF:=@PySem.F.args_object_init_3
abbrev PC:=@PySem.F.args_object_init_2
abbrev Bm:=@PySem.wpAny_tryCatch
abbrev C_:=@List.tail_drop
abbrev GW:=@PySem.Code.quiet_builtin
abbrev QL:=@Array.getElem?_eq_some_iff
abbrev Ls:=@PySem.F.excBase_ValueError
abbrev GL:=@List.getElem_idxOf
abbrev Np:=@List.takeWhile_cons_of_pos
abbrev Ot:=@PySem.F.slot_dict_delitem
abbrev Mu:=@PySem.F.entry_extend_loop
abbrev NG:=@List.pairwise_iff_getElem
abbrev zv:=@PySem.wpAny_point
abbrev Jq:=@PySem.wpAny_truthy_list
abbrev Il:=@PySem.wpAny_Return_some
abbrev HR:=@Array.toList_push
abbrev IU:=@PySem.F.entry_str_split
abbrev FT:=@PySem.wpAny_pyIter_slot
abbrev H8:=@PySem.F.args_zip_next_1
abbrev EX:=@of_decide_eq_true
abbrev Ga:=@PySem.wpAny_loadPart_at
abbrev EU:=@List.length_range
abbrev I4:=@Nat.lt_succ_of_le
abbrev I1:=@bne_self_eq_false
abbrev Fj:=@List.pairwise_map
abbrev Cg:=@Nat.add_assoc
abbrev Sg:=@List.length_erase_of_mem
abbrev K4:=@PySem.W.nsMap_none_of_in
abbrev RK:=@PySem.F.typeCall_tuple_1
abbrev QZ:=@Nat.sub_lt_sub_iff_right
abbrev PM:=@PySem.SeqAt.EqAt.str_str
abbrev A4:=@List.map_take
abbrev RJ:=@PySem.F.slot_dict_values
abbrev CO:=@List.map_drop
abbrev BY:=@PyProof.Rows.listUpdate_at
abbrev BJ:=@PySem.wpAny_newList
abbrev OJ:=@List.filterMap_cons_none
abbrev Qq:=@List.length_filterMap_le
abbrev MG:=@List.filterMap_cons_some
abbrev HG:=@Array.toList_inj
abbrev Gb:=@PySem.F.entry_zip_next
abbrev F5:=@PySem.wpAny_isInstance
abbrev O7:=@Nat.lt_add_of_pos_right
abbrev KS:=@PySem.F.plain_list_iadd
abbrev QM:=@PySem.F.entry_tuple_new
abbrev Lk:=@PySem.F.newCall_tuple_1
abbrev Qy:=@PySem.F.slot_list_index
abbrev OZ:=@Int.fmod_nonneg_of_pos
abbrev Ej:=@Nat.mul_succ
abbrev Qv:=@List.length_pos_of_mem
abbrev CX:=@PySem.name_of_addr
abbrev pT:=@not_or
abbrev zS:=@bne_iff_ne
abbrev Dv:=@PySem.callType_new
abbrev CY:=@PySem.call_meetsIn
abbrev BE:=@Nat.zero_add
abbrev AY:=@Nat.succ.inj
abbrev Gx:=@PySem.codeAny_of_tree
abbrev E8:=@List.idxOf_cons
abbrev Sj:=@Option.map_none
abbrev Gm:=@List.filter_map
abbrev HK:=@Nat.le_antisymm
abbrev PB:=@List.eq_nil_or_concat
abbrev L4:=@PySem.F.entry_zip_new
abbrev OD:=@PySem.F.slot_dict_get
abbrev NY:=@Nat.le_of_ble_eq_true
abbrev KR:=@PySem.F.type_dict_pop
abbrev MA:=@List.take_append_drop
abbrev CS:=@Int.le_refl
abbrev HC:=@Bool.and_false
abbrev Ek:=@PySem.W.looks_field
abbrev Bj:=@List.map_id
abbrev uw:=@Eq.symm
abbrev I3:=@List.any_cons
abbrev Eu:=@Nat.sub_le
abbrev GU:=@Int.ofNat_lt
abbrev A5:=@And.intro

theorem Op {Uf UF:Prop} {P:Prop} (h:Uf∧UF) (k:Uf→UF→P):P:=k h.1 h.2
theorem b5 {Uf UF aj:Prop} {P:Prop} (h:Uf∧UF∧aj) (k:Uf→UF→aj→P):P:=Op h fun h0 h1=>k h0 h1.1 h1.2
theorem mz {Uf UF aj aC:Prop} {P:Prop} (h:Uf∧UF∧aj∧aC) (k:Uf→UF→aj→aC→P):P:=b5 h fun h0 h1 h2=>k h0 h1 h2.1 h2.2
theorem pU {Uf UF aj aC aT:Prop} {P:Prop} (h:Uf∧UF∧aj∧aC∧aT) (k:Uf→UF→aj→aC→aT→P):P:=mz h fun h0 h1 h2 h3=>k h0 h1 h2 h3.1 h3.2
theorem LQ {Uf UF aj aC aT cG:Prop} {P:Prop} (h:Uf∧UF∧aj∧aC∧aT∧cG) (k:Uf→UF→aj→aC→aT→cG→P):P:=pU h fun h0 h1 h2 h3 h4=>k h0 h1 h2 h3 h4.1 h4.2
theorem uf {Uf UF aj aC aT cG dP:Prop} {P:Prop} (h:Uf∧UF∧aj∧aC∧aT∧cG∧dP) (k:Uf→UF→aj→aC→aT→cG→dP→P):P:=LQ h fun h0 h1 h2 h3 h4 h5=>k h0 h1 h2 h3 h4 h5.1 h5.2
theorem ae4 {Uf UF aj aC aT cG dP j9:Prop} {P:Prop} (h:Uf∧UF∧aj∧aC∧aT∧cG∧dP∧j9) (k:Uf→UF→aj→aC→aT→cG→dP→j9→P):P:=uf h fun h0 h1 h2 h3 h4 h5 h6=>k h0 h1 h2 h3 h4 h5 h6.1 h6.2
theorem aP {T0:Sort _} {Uf:T0→Prop} {P:Prop} (h:∃a,Uf a) (k:∀a,Uf a→P):P:=h.elim k
theorem wS {T0:Sort _} {Uf UF:T0→Prop} {P:Prop} (h:∃a,Uf a∧UF a) (k:∀a,Uf a→UF a→P):P:=h.elim fun a h=>Op h (k a)
theorem aU {T0:Sort _} {Uf UF aj:T0→Prop} {P:Prop} (h:∃a,Uf a∧UF a∧aj a) (k:∀a,Uf a→UF a→aj a→P):P:=h.elim fun a h=>b5 h (k a)
theorem d9 {T0:Sort _} {Uf UF aj aC:T0→Prop} {P:Prop} (h:∃a,Uf a∧UF a∧aj a∧aC a) (k:∀a,Uf a→UF a→aj a→aC a→P):P:=h.elim fun a h=>mz h (k a)
theorem Gl {T0:Sort _} {Uf UF aj aC aT:T0→Prop} {P:Prop} (h:∃a,Uf a∧UF a∧aj a∧aC a∧aT a) (k:∀a,Uf a→UF a→aj a→aC a→aT a→P):P:=h.elim fun a h=>pU h (k a)
theorem Vz {T0:Sort _} {Uf UF aj aC aT cG:T0→Prop} {P:Prop} (h:∃a,Uf a∧UF a∧aj a∧aC a∧aT a∧cG a) (k:∀a,Uf a→UF a→aj a→aC a→aT a→cG a→P):P:=h.elim fun a h=>LQ h (k a)
theorem ab3 {T0:Sort _} {Uf UF aj aC aT cG dP:T0→Prop} {P:Prop} (h:∃a,Uf a∧UF a∧aj a∧aC a∧aT a∧cG a∧dP a) (k:∀a,Uf a→UF a→aj a→aC a→aT a→cG a→dP a→P):P:=h.elim fun a h=>uf h (k a)
theorem Uq {T0:Sort _} {Uf UF aj aC aT cG dP j9:T0→Prop} {P:Prop} (h:∃a,Uf a∧UF a∧aj a∧aC a∧aT a∧cG a∧dP a∧j9 a) (k:∀a,Uf a→UF a→aj a→aC a→aT a→cG a→dP a→j9 a→P):P:=h.elim fun a h=>ae4 h (k a)
theorem fL {T0:Sort _} {aY:Sort _} {Uf:T0→aY→Prop} {P:Prop} (h:∃a b,Uf a b) (k:∀a b,Uf a b→P):P:=h.elim fun a h=>aP h (k a)
theorem eO {T0:Sort _} {aY:Sort _} {Uf UF:T0→aY→Prop} {P:Prop} (h:∃a b,Uf a b∧UF a b) (k:∀a b,Uf a b→UF a b→P):P:=h.elim fun a h=>wS h (k a)
theorem fJ {T0:Sort _} {aY:Sort _} {Uf UF aj:T0→aY→Prop} {P:Prop} (h:∃a b,Uf a b∧UF a b∧aj a b) (k:∀a b,Uf a b→UF a b→aj a b→P):P:=h.elim fun a h=>aU h (k a)
theorem jJ {T0:Sort _} {aY:Sort _} {Uf UF aj aC:T0→aY→Prop} {P:Prop} (h:∃a b,Uf a b∧UF a b∧aj a b∧aC a b) (k:∀a b,Uf a b→UF a b→aj a b→aC a b→P):P:=h.elim fun a h=>d9 h (k a)
theorem xw {T0:Sort _} {aY:Sort _} {Uf UF aj aC aT:T0→aY→Prop} {P:Prop} (h:∃a b,Uf a b∧UF a b∧aj a b∧aC a b∧aT a b) (k:∀a b,Uf a b→UF a b→aj a b→aC a b→aT a b→P):P:=h.elim fun a h=>Gl h (k a)
theorem EP {T0:Sort _} {aY:Sort _} {Uf UF aj aC aT cG:T0→aY→Prop} {P:Prop} (h:∃a b,Uf a b∧UF a b∧aj a b∧aC a b∧aT a b∧cG a b) (k:∀a b,Uf a b→UF a b→aj a b→aC a b→aT a b→cG a b→P):P:=h.elim fun a h=>Vz h (k a)
theorem adn {T0:Sort _} {aY:Sort _} {Uf UF aj aC aT cG dP:T0→aY→Prop} {P:Prop} (h:∃a b,Uf a b∧UF a b∧aj a b∧aC a b∧aT a b∧cG a b∧dP a b) (k:∀a b,Uf a b→UF a b→aj a b→aC a b→aT a b→cG a b→dP a b→P):P:=h.elim fun a h=>ab3 h (k a)
theorem LO {T0:Sort _} {aY:Sort _} {Uf UF aj aC aT cG dP j9:T0→aY→Prop} {P:Prop} (h:∃a b,Uf a b∧UF a b∧aj a b∧aC a b∧aT a b∧cG a b∧dP a b∧j9 a b) (k:∀a b,Uf a b→UF a b→aj a b→aC a b→aT a b→cG a b→dP a b→j9 a b→P):P:=h.elim fun a h=>Uq h (k a)
theorem tD {T0:Sort _} {aY:Sort _} {ck:Sort _} {Uf:T0→aY→ck→Prop} {P:Prop} (h:∃a b c,Uf a b c) (k:∀a b c,Uf a b c→P):P:=h.elim fun a h=>fL h (k a)
theorem Bp {T0:Sort _} {aY:Sort _} {ck:Sort _} {Uf UF:T0→aY→ck→Prop} {P:Prop} (h:∃a b c,Uf a b c∧UF a b c) (k:∀a b c,Uf a b c→UF a b c→P):P:=h.elim fun a h=>eO h (k a)
theorem dW {T0:Sort _} {aY:Sort _} {ck:Sort _} {Uf UF aj:T0→aY→ck→Prop} {P:Prop} (h:∃a b c,Uf a b c∧UF a b c∧aj a b c) (k:∀a b c,Uf a b c→UF a b c→aj a b c→P):P:=h.elim fun a h=>fJ h (k a)
theorem t_ {T0:Sort _} {aY:Sort _} {ck:Sort _} {Uf UF aj aC:T0→aY→ck→Prop} {P:Prop} (h:∃a b c,Uf a b c∧UF a b c∧aj a b c∧aC a b c) (k:∀a b c,Uf a b c→UF a b c→aj a b c→aC a b c→P):P:=h.elim fun a h=>jJ h (k a)
theorem zL {T0:Sort _} {aY:Sort _} {ck:Sort _} {Uf UF aj aC aT:T0→aY→ck→Prop} {P:Prop} (h:∃a b c,Uf a b c∧UF a b c∧aj a b c∧aC a b c∧aT a b c) (k:∀a b c,Uf a b c→UF a b c→aj a b c→aC a b c→aT a b c→P):P:=h.elim fun a h=>xw h (k a)
theorem Lq {T0:Sort _} {aY:Sort _} {ck:Sort _} {Uf UF aj aC aT cG dP:T0→aY→ck→Prop} {P:Prop} (h:∃a b c,Uf a b c∧UF a b c∧aj a b c∧aC a b c∧aT a b c∧cG a b c∧dP a b c) (k:∀a b c,Uf a b c→UF a b c→aj a b c→aC a b c→aT a b c→cG a b c→dP a b c→P):P:=h.elim fun a h=>adn h (k a)
theorem W5 {T0:Sort _} {aY:Sort _} {ck:Sort _} {Uf UF aj aC aT cG dP j9:T0→aY→ck→Prop} {P:Prop} (h:∃a b c,Uf a b c∧UF a b c∧aj a b c∧aC a b c∧aT a b c∧cG a b c∧dP a b c∧j9 a b c) (k:∀a b c,Uf a b c→UF a b c→aj a b c→aC a b c→aT a b c→cG a b c→dP a b c→j9 a b c→P):P:=h.elim fun a h=>LO h (k a)
theorem BK {T0:Sort _} {aY:Sort _} {ck:Sort _} {fP:Sort _} {Uf UF:T0→aY→ck→fP→Prop} {P:Prop} (h:∃a b c d,Uf a b c d∧UF a b c d) (k:∀a b c d,Uf a b c d→UF a b c d→P):P:=h.elim fun a h=>Bp h (k a)
theorem adu {T0:Sort _} {aY:Sort _} {ck:Sort _} {fP:Sort _} {Uf UF aj:T0→aY→ck→fP→Prop} {P:Prop} (h:∃a b c d,Uf a b c d∧UF a b c d∧aj a b c d) (k:∀a b c d,Uf a b c d→UF a b c d→aj a b c d→P):P:=h.elim fun a h=>dW h (k a)
theorem ZY {T0:Sort _} {aY:Sort _} {ck:Sort _} {fP:Sort _} {Uf UF aj aC:T0→aY→ck→fP→Prop} {P:Prop} (h:∃a b c d,Uf a b c d∧UF a b c d∧aj a b c d∧aC a b c d) (k:∀a b c d,Uf a b c d→UF a b c d→aj a b c d→aC a b c d→P):P:=h.elim fun a h=>t_ h (k a)
theorem ON {T0:Sort _} {aY:Sort _} {ck:Sort _} {fP:Sort _} {Uf UF aj aC aT:T0→aY→ck→fP→Prop} {P:Prop} (h:∃a b c d,Uf a b c d∧UF a b c d∧aj a b c d∧aC a b c d∧aT a b c d) (k:∀a b c d,Uf a b c d→UF a b c d→aj a b c d→aC a b c d→aT a b c d→P):P:=h.elim fun a h=>zL h (k a)
theorem aea {T0:Sort _} {aY:Sort _} {ck:Sort _} {fP:Sort _} {Uf UF aj aC aT cG dP:T0→aY→ck→fP→Prop} {P:Prop} (h:∃a b c d,Uf a b c d∧UF a b c d∧aj a b c d∧aC a b c d∧aT a b c d∧cG a b c d∧dP a b c d) (k:∀a b c d,Uf a b c d→UF a b c d→aj a b c d→aC a b c d→aT a b c d→cG a b c d→dP a b c d→P):P:=h.elim fun a h=>Lq h (k a)
theorem v_ {T0:Sort _} {aY:Sort _} {ck:Sort _} {fP:Sort _} {Uf UF aj aC aT cG dP j9:T0→aY→ck→fP→Prop} {P:Prop} (h:∃a b c d,Uf a b c d∧UF a b c d∧aj a b c d∧aC a b c d∧aT a b c d∧cG a b c d∧dP a b c d∧j9 a b c d) (k:∀a b c d,Uf a b c d→UF a b c d→aj a b c d→aC a b c d→aT a b c d→cG a b c d→dP a b c d→j9 a b c d→P):P:=h.elim fun a h=>W5 h (k a)
theorem Yq {T0:Sort _} {aY:Sort _} {ck:Sort _} {fP:Sort _} {oK:Sort _} {Uf UF aj aC aT:T0→aY→ck→fP→oK→Prop} {P:Prop} (h:∃a b c d e,Uf a b c d e∧UF a b c d e∧aj a b c d e∧aC a b c d e∧aT a b c d e) (k:∀a b c d e,Uf a b c d e→UF a b c d e→aj a b c d e→aC a b c d e→aT a b c d e→P):P:=h.elim fun a h=>ON h (k a)
theorem ack {T0:Sort _} {aY:Sort _} {ck:Sort _} {fP:Sort _} {oK:Sort _} {Uf UF aj aC aT cG dP:T0→aY→ck→fP→oK→Prop} {P:Prop} (h:∃a b c d e,Uf a b c d e∧UF a b c d e∧aj a b c d e∧aC a b c d e∧aT a b c d e∧cG a b c d e∧dP a b c d e) (k:∀a b c d e,Uf a b c d e→UF a b c d e→aj a b c d e→aC a b c d e→aT a b c d e→cG a b c d e→dP a b c d e→P):P:=h.elim fun a h=>aea h (k a)
theorem ace {T0:Sort _} {aY:Sort _} {ck:Sort _} {fP:Sort _} {oK:Sort _} {Uf UF aj aC aT cG dP j9:T0→aY→ck→fP→oK→Prop} {P:Prop} (h:∃a b c d e,Uf a b c d e∧UF a b c d e∧aj a b c d e∧aC a b c d e∧aT a b c d e∧cG a b c d e∧dP a b c d e∧j9 a b c d e) (k:∀a b c d e,Uf a b c d e→UF a b c d e→aj a b c d e→aC a b c d e→aT a b c d e→cG a b c d e→dP a b c d e→j9 a b c d e→P):P:=h.elim fun a h=>v_ h (k a)
theorem aeX {T0:Sort _} {aY:Sort _} {ck:Sort _} {fP:Sort _} {oK:Sort _} {yH:Sort _} {Uf UF aj aC aT:T0→aY→ck→fP→oK→yH→Prop} {P:Prop} (h:∃a b c d e f,Uf a b c d e f∧UF a b c d e f∧aj a b c d e f∧aC a b c d e f∧aT a b c d e f) (k:∀a b c d e f,Uf a b c d e f→UF a b c d e f→aj a b c d e f→aC a b c d e f→aT a b c d e f→P):P:=h.elim fun a h=>Yq h (k a)
theorem WZ {T0:Sort _} {aY:Sort _} {ck:Sort _} {fP:Sort _} {oK:Sort _} {yH:Sort _} {GJ:Sort _} {Uf UF aj aC aT:T0→aY→ck→fP→oK→yH→GJ→Prop} {P:Prop} (h:∃a b c d e f g,Uf a b c d e f g∧UF a b c d e f g∧aj a b c d e f g∧aC a b c d e f g∧aT a b c d e f g) (k:∀a b c d e f g,Uf a b c d e f g→UF a b c d e f g→aj a b c d e f g→aC a b c d e f g→aT a b c d e f g→P):P:=h.elim fun a h=>aeX h (k a)
theorem SJ {T0:Sort _} {aY:Sort _} {ck:Sort _} {fP:Sort _} {oK:Sort _} {yH:Sort _} {GJ:Sort _} {YX:Sort _} {Uf UF aj aC aT:T0→aY→ck→fP→oK→yH→GJ→YX→Prop} {P:Prop} (h:∃a b c d e f g h,Uf a b c d e f g h∧UF a b c d e f g h∧aj a b c d e f g h∧aC a b c d e f g h∧aT a b c d e f g h) (k:∀a b c d e f g h,Uf a b c d e f g h→UF a b c d e f g h→aj a b c d e f g h→aC a b c d e f g h→aT a b c d e f g h→P):P:=h.elim fun a h=>WZ h (k a)
noncomputable abbrev s7:Program:=PySem.Challenge.pw_pd0029_01
noncomputable def bH (i:Nat):Stmt:=s7.main.body.getD i (.Pass ⟨0,0,0,0⟩)
noncomputable def gM:Stmt→List Stmt
 | .FunctionDef _ _ b _ _ _ _ _ _ _=>b
 | .ClassDef _ _ _ b _ _ _ _ _ _ _=>b
 |_=>[]
noncomputable def ek (i j:Nat):Stmt:=(gM (bH i)).getD j (.Pass ⟨0,0,0,0⟩)
noncomputable def sr:Stmt→Scope
 | .FunctionDef _ _ _ _ _ _ s _ _ _=>s
 |_=>default
noncomputable def S3:Stmt→Arguments
 | .FunctionDef _ a _ _ _ _ _ _ _ _=>a
 |_=>⟨[],[],none,[],[],none,[]⟩
noncomputable def aaT:Stmt→Str
 | .FunctionDef n _ _ _ _ _ _ _ _ _=>n
 |_=>Str.empty
noncomputable def d_ (st:Stmt) (qual:Str) (dV pm cd:Value):FuncData:=
 {name:=aaT st,qualname:=qual,params:=S3 st,body:=.stmts (gM st),scope:=sr st,globals:=mainGlobals,closure:=[],defaults:=dV,kwdefaults:=.none,doc:=.none,pyModule:=pm,annotations:=none,code:=cd,closureTuple:=.none,builtins:=builtinsNs}
noncomputable def KF (P:Params):PySem.W.Frag:=[
 (1,{cls:=(.type "dict"),dict:=none,data:=(.dict #[⟨PyData.keyHash P "builtins",(.str "builtins" 162),(.ref 4)⟩,⟨PyData.keyHash P "__main__",(.str "__main__" 163),(.ref 5)⟩] 2),slots:=#[]}),
 (2,{cls:=.none,dict:=none,data:=(.dict #[] 0),slots:=#[]}),
 (3,{cls:=(.type "dict"),dict:=none,data:=(.dict #[⟨PyData.keyHash P "__name__",(.str "__name__" 165),(.str "law_pd0029_01" 520)⟩,⟨PyData.keyHash P "__doc__",(.str "__doc__" 166),.none⟩,⟨PyData.keyHash P "__package__",(.str "__package__" 167),.none⟩,⟨PyData.keyHash P "__loader__",(.str "__loader__" 168),(.builtin "__main__.__loader__#opaque")⟩,⟨PyData.keyHash P "__spec__",(.str "__spec__" 169),.none⟩,⟨PyData.keyHash P "__annotations__",(.str "__annotations__" 170),(.ref 6)⟩,⟨PyData.keyHash P "__builtins__",(.str "__builtins__" 171),(.ref 4)⟩,⟨PyData.keyHash P "__file__",(.str "__file__" 173),(.str "/claim/cut.py" 172)⟩,⟨PyData.keyHash P "__cached__",(.str "__cached__" 174),.none⟩,⟨PyData.keyHash P "_wall",(.str "_wall" 193),(.ref 21)⟩,⟨PyData.keyHash P "_NODE_OUT",(.str "_NODE_OUT" 198),(.int (-1) 197)⟩,⟨PyData.keyHash P "_NODE_DONE",(.str "_NODE_DONE" 201),(.int (-2) 200)⟩,⟨PyData.keyHash P "_NodeInfo",(.str "_NodeInfo" 238),(.ref 40)⟩,⟨PyData.keyHash P "CycleError",(.str "CycleError" 256),(.ref 55)⟩,⟨PyData.keyHash P "TopologicalSorter",(.str "TopologicalSorter" 375),(.ref 137)⟩,⟨PyData.keyHash P "_plain_name",(.str "_plain_name" 386),(.ref 148)⟩,⟨PyData.keyHash P "ABCMeta",(.str "ABCMeta" 412),(.ref 165)⟩,⟨PyData.keyHash P "_ABCLike",(.str "_ABCLike" 455),(.ref 198)⟩,⟨PyData.keyHash P "_abc_plain_meta",(.str "_abc_plain_meta" 462),(.ref 207)⟩,⟨PyData.keyHash P "fspath",(.str "fspath" 474),(.ref 214)⟩,⟨PyData.keyHash P "_check_arg_types",(.str "_check_arg_types" 487),(.ref 221)⟩,⟨PyData.keyHash P "splitroot",(.str "splitroot" 498),(.ref 228)⟩,⟨PyData.keyHash P "normpath",(.str "normpath" 513),(.ref 235)⟩,⟨PyData.keyHash P "commonpath",(.str "commonpath" 519),(.ref 240)⟩,⟨PyData.keyHash P "_law_ends",(.str "_law_ends" 531),(.ref 247)⟩,⟨PyData.keyHash P "_law_spelled",(.str "_law_spelled" 541),(.ref 254)⟩,⟨PyData.keyHash P "_law_moves",(.str "_law_moves" 547),(.ref 259)⟩,⟨PyData.keyHash P "_law_meets",(.str "_law_meets" 555),(.ref 266)⟩,⟨PyData.keyHash P "_law_shared",(.str "_law_shared" 561),(.ref 271)⟩,⟨PyData.keyHash P "_law_ways",(.str "_law_ways" 576),(.ref 278)⟩,⟨PyData.keyHash P "_law_told",(.str "_law_told" 582),(.ref 283)⟩,⟨PyData.keyHash P "_law_ring",(.str "_law_ring" 588),(.ref 288)⟩,⟨PyData.keyHash P "_law_prepared",(.str "_law_prepared" 595),(.ref 295)⟩,⟨PyData.keyHash P "_law_rounds",(.str "_law_rounds" 601),(.ref 300)⟩,⟨PyData.keyHash P "_law_moved",(.str "_law_moved" 607),(.ref 305)⟩,⟨PyData.keyHash P "law",(.str "law" 613),(.ref 310)⟩] 36),slots:=#[]}),
 (35,{cls:=(.type "code"),dict:=none,data:=(.fields #[(.str "__init__" 218),(.str "_NodeInfo.__init__" 219),(.str "/claim/cut.py" 220),(.int (10) 0),(.int (2) 0),(.int (0) 0),(.int (0) 0),(.int (3) 0),(.ref 30),(.bool true),(.int (181) 0),(.ref 31),.none,(.ref 32),(.ref 33),(.ref 34),(.int (223) 0),(.int (10) 0),(.str "/claim/cut.py" 224)]),slots:=#[]}),
 (36,{cls:=(.type "function"),dict:=none,data:=(.func (d_ (ek 4 1) "_NodeInfo.__init__" .none (.str "cpy313.graphlib" 194) (.ref 35))),slots:=#[]}),
 (39,{cls:=(.type "dict"),dict:=none,data:=(.dict #[⟨PyData.keyHash P "__module__",(.str "__module__" 209),(.str "cpy313.graphlib" 194)⟩,⟨PyData.keyHash P "__firstlineno__",(.str "__firstlineno__" 213),(.int (7) 212)⟩,⟨PyData.keyHash P "__slots__",(.str "__slots__" 217),(.ref 29)⟩,⟨PyData.keyHash P "__init__",(.str "__init__" 225),(.ref 36)⟩,⟨PyData.keyHash P "__static_attributes__",(.str "__static_attributes__" 229),(.ref 37)⟩,⟨PyData.keyHash P "node",(.str "node" 231),(.ref 41)⟩,⟨PyData.keyHash P "npredecessors",(.str "npredecessors" 233),(.ref 42)⟩,⟨PyData.keyHash P "successors",(.str "successors" 235),(.ref 43)⟩,⟨PyData.keyHash P "__doc__",(.str "__doc__" 236),.none⟩] 5),slots:=#[]}),
 (40,{cls:=(.type "type"),dict:=none,data:=(.cls {name:="_NodeInfo",bases:=[(.type "object")],mro:=[(.ref 40),(.type "object")],ns:=39,qualname:="_NodeInfo",hasDict:=false,slotNames:=["node","npredecessors","successors"]}),slots:=#[none,none,some (.str "_NodeInfo" 202),some (.str "_NodeInfo" 210),some (.builtin "object.__new__"),some (.bool false)]}),
 (41,{cls:=(.type "member_descriptor"),dict:=none,data:=(.fields #[(.str "node" 230),(.ref 40),(.builtin "proto.slot"),(.builtin "proto.slot#set"),(.int (2) 0)]),slots:=#[]}),
 (42,{cls:=(.type "member_descriptor"),dict:=none,data:=(.fields #[(.str "npredecessors" 232),(.ref 40),(.builtin "proto.slot"),(.builtin "proto.slot#set"),(.int (1) 0)]),slots:=#[]}),
 (43,{cls:=(.type "member_descriptor"),dict:=none,data:=(.fields #[(.str "successors" 234),(.ref 40),(.builtin "proto.slot"),(.builtin "proto.slot#set"),(.int (0) 0)]),slots:=#[]}),
 (54,{cls:=(.type "dict"),dict:=none,data:=(.dict #[⟨PyData.keyHash P "__module__",(.str "__module__" 246),(.str "cpy313.graphlib" 194)⟩,⟨PyData.keyHash P "__firstlineno__",(.str "__firstlineno__" 250),(.int (14) 249)⟩,⟨PyData.keyHash P "__static_attributes__",(.str "__static_attributes__" 251),(.ref 53)⟩,⟨PyData.keyHash P "__weakref__",(.str "__weakref__" 253),(.ref 56)⟩,⟨PyData.keyHash P "__doc__",(.str "__doc__" 254),.none⟩] 3),slots:=#[]}),
 (55,{cls:=(.type "type"),dict:=none,data:=(.cls {name:="CycleError",bases:=[(.type "ValueError")],mro:=[(.ref 55),(.type "ValueError"),(.type "Exception"),(.type "BaseException"),(.type "object")],ns:=54,qualname:="CycleError",hasDict:=true,slotNames:=[]}),slots:=#[some (.ref 46),none,some (.str "CycleError" 239),some (.str "CycleError" 247),some (.builtin "ValueError.__new__"),some (.bool true)]}),
 (66,{cls:=(.type "tuple"),dict:=none,data:=(.seq #[.none] 0),slots:=#[]}),
 (72,{cls:=(.type "code"),dict:=none,data:=(.fields #[(.str "__init__" 269),(.str "TopologicalSorter.__init__" 270),(.str "/claim/cut.py" 271),(.int (18) 0),(.int (2) 0),(.int (0) 0),(.int (0) 0),(.int (3) 0),(.ref 67),(.bool true),(.int (181) 0),(.ref 68),.none,(.ref 69),(.ref 70),(.ref 71),(.int (276) 0),(.int (18) 0),(.str "/claim/cut.py" 277)]),slots:=#[]}),
 (73,{cls:=(.type "function"),dict:=none,data:=(.func (d_ (ek 6 0) "TopologicalSorter.__init__" (.ref 66) (.str "cpy313.graphlib" 194) (.ref 72))),slots:=#[]}),
 (79,{cls:=(.type "code"),dict:=none,data:=(.fields #[(.str "_get_nodeinfo" 279),(.str "TopologicalSorter._get_nodeinfo" 280),(.str "/claim/cut.py" 281),(.int (27) 0),(.int (2) 0),(.int (0) 0),(.int (0) 0),(.int (3) 0),(.ref 74),(.bool true),(.int (181) 0),(.ref 75),.none,(.ref 76),(.ref 77),(.ref 78),(.int (285) 0),(.int (27) 0),(.str "/claim/cut.py" 286)]),slots:=#[]}),
 (80,{cls:=(.type "function"),dict:=none,data:=(.func (d_ (ek 6 1) "TopologicalSorter._get_nodeinfo" .none (.str "cpy313.graphlib" 194) (.ref 79))),slots:=#[]}),
 (86,{cls:=(.type "code"),dict:=none,data:=(.fields #[(.str "add" 288),(.str "TopologicalSorter.add" 289),(.str "/claim/cut.py" 290),(.int (32) 0),(.int (2) 0),(.int (0) 0),(.int (0) 0),(.int (7) 0),(.ref 81),(.bool true),(.int (181) 0),(.ref 82),.none,(.ref 83),(.ref 84),(.ref 85),(.int (297) 0),(.int (32) 0),(.str "/claim/cut.py" 298)]),slots:=#[]}),
 (87,{cls:=(.type "function"),dict:=none,data:=(.func (d_ (ek 6 2) "TopologicalSorter.add" .none (.str "cpy313.graphlib" 194) (.ref 86))),slots:=#[]}),
 (91,{cls:=(.type "code"),dict:=none,data:=(.fields #[(.str "prepare" 300),(.str "TopologicalSorter.prepare" 301),(.str "/claim/cut.py" 302),(.int (41) 0),(.int (1) 0),(.int (0) 0),(.int (0) 0),(.int (3) 0),(.ref 88),(.bool true),(.int (181) 0),(.ref 89),.none,.none,.none,(.ref 90),(.int (303) 0),(.int (41) 0),(.str "/claim/cut.py" 304)]),slots:=#[]}),
 (92,{cls:=(.type "function"),dict:=none,data:=(.func (d_ (ek 6 3) "TopologicalSorter.prepare" .none (.str "cpy313.graphlib" 194) (.ref 91))),slots:=#[]}),
 (98,{cls:=(.type "code"),dict:=none,data:=(.fields #[(.str "get_ready" 306),(.str "TopologicalSorter.get_ready" 307),(.str "/claim/cut.py" 308),(.int (49) 0),(.int (1) 0),(.int (0) 0),(.int (0) 0),(.int (3) 0),(.ref 93),(.bool true),(.int (181) 0),(.ref 94),.none,(.ref 95),(.ref 96),(.ref 97),(.int (313) 0),(.int (49) 0),(.str "/claim/cut.py" 314)]),slots:=#[]}),
 (99,{cls:=(.type "function"),dict:=none,data:=(.func (d_ (ek 6 4) "TopologicalSorter.get_ready" .none (.str "cpy313.graphlib" 194) (.ref 98))),slots:=#[]}),
 (105,{cls:=(.type "code"),dict:=none,data:=(.fields #[(.str "is_active" 316),(.str "TopologicalSorter.is_active" 317),(.str "/claim/cut.py" 318),(.int (60) 0),(.int (1) 0),(.int (0) 0),(.int (0) 0),(.int (3) 0),(.ref 100),(.bool true),(.int (181) 0),(.ref 101),.none,(.ref 102),(.ref 103),(.ref 104),(.int (320) 0),(.int (60) 0),(.str "/claim/cut.py" 321)]),slots:=#[]}),
 (106,{cls:=(.type "function"),dict:=none,data:=(.func (d_ (ek 6 5) "TopologicalSorter.is_active" .none (.str "cpy313.graphlib" 194) (.ref 105))),slots:=#[]}),
 (112,{cls:=(.type "code"),dict:=none,data:=(.fields #[(.str "__bool__" 323),(.str "TopologicalSorter.__bool__" 324),(.str "/claim/cut.py" 325),(.int (65) 0),(.int (1) 0),(.int (0) 0),(.int (0) 0),(.int (3) 0),(.ref 107),(.bool true),(.int (181) 0),(.ref 108),.none,(.ref 109),(.ref 110),(.ref 111),(.int (327) 0),(.int (65) 0),(.str "/claim/cut.py" 328)]),slots:=#[]}),
 (113,{cls:=(.type "function"),dict:=none,data:=(.func (d_ (ek 6 6) "TopologicalSorter.__bool__" .none (.str "cpy313.graphlib" 194) (.ref 112))),slots:=#[]}),
 (119,{cls:=(.type "code"),dict:=none,data:=(.fields #[(.str "done" 330),(.str "TopologicalSorter.done" 331),(.str "/claim/cut.py" 332),(.int (68) 0),(.int (1) 0),(.int (0) 0),(.int (0) 0),(.int (7) 0),(.ref 114),(.bool true),(.int (181) 0),(.ref 115),.none,(.ref 116),(.ref 117),(.ref 118),(.int (341) 0),(.int (68) 0),(.str "/claim/cut.py" 342)]),slots:=#[]}),
 (120,{cls:=(.type "function"),dict:=none,data:=(.func (d_ (ek 6 7) "TopologicalSorter.done" .none (.str "cpy313.graphlib" 194) (.ref 119))),slots:=#[]}),
 (126,{cls:=(.type "code"),dict:=none,data:=(.fields #[(.str "_find_cycle" 344),(.str "TopologicalSorter._find_cycle" 345),(.str "/claim/cut.py" 346),(.int (91) 0),(.int (1) 0),(.int (0) 0),(.int (0) 0),(.int (3) 0),(.ref 121),(.bool true),(.int (181) 0),(.ref 122),.none,(.ref 123),(.ref 124),(.ref 125),(.int (354) 0),(.int (91) 0),(.str "/claim/cut.py" 355)]),slots:=#[]}),
 (127,{cls:=(.type "function"),dict:=none,data:=(.func (d_ (ek 6 8) "TopologicalSorter._find_cycle" .none (.str "cpy313.graphlib" 194) (.ref 126))),slots:=#[]}),
 (133,{cls:=(.type "code"),dict:=none,data:=(.fields #[(.str "static_order" 357),(.str "TopologicalSorter.static_order" 358),(.str "/claim/cut.py" 359),(.int (120) 0),(.int (1) 0),(.int (0) 0),(.int (0) 0),(.int (3) 0),(.ref 128),(.bool true),(.int (181) 0),(.ref 129),.none,(.ref 130),(.ref 131),(.ref 132),(.int (361) 0),(.int (120) 0),(.str "/claim/cut.py" 362)]),slots:=#[]}),
 (134,{cls:=(.type "function"),dict:=none,data:=(.func (d_ (ek 6 9) "TopologicalSorter.static_order" .none (.str "cpy313.graphlib" 194) (.ref 133))),slots:=#[]}),
 (136,{cls:=(.type "dict"),dict:=none,data:=(.dict #[⟨PyData.keyHash P "__module__",(.str "__module__" 264),(.str "cpy313.graphlib" 194)⟩,⟨PyData.keyHash P "__firstlineno__",(.str "__firstlineno__" 268),(.int (16) 267)⟩,⟨PyData.keyHash P "__init__",(.str "__init__" 278),(.ref 73)⟩,⟨PyData.keyHash P "_get_nodeinfo",(.str "_get_nodeinfo" 287),(.ref 80)⟩,⟨PyData.keyHash P "add",(.str "add" 299),(.ref 87)⟩,⟨PyData.keyHash P "prepare",(.str "prepare" 305),(.ref 92)⟩,⟨PyData.keyHash P "get_ready",(.str "get_ready" 315),(.ref 99)⟩,⟨PyData.keyHash P "is_active",(.str "is_active" 322),(.ref 106)⟩,⟨PyData.keyHash P "__bool__",(.str "__bool__" 329),(.ref 113)⟩,⟨PyData.keyHash P "done",(.str "done" 343),(.ref 120)⟩,⟨PyData.keyHash P "_find_cycle",(.str "_find_cycle" 356),(.ref 127)⟩,⟨PyData.keyHash P "static_order",(.str "static_order" 363),(.ref 134)⟩,⟨PyData.keyHash P "__static_attributes__",(.str "__static_attributes__" 368),(.ref 135)⟩,⟨PyData.keyHash P "__dict__",(.str "__dict__" 370),(.ref 138)⟩,⟨PyData.keyHash P "__weakref__",(.str "__weakref__" 372),(.ref 139)⟩,⟨PyData.keyHash P "__doc__",(.str "__doc__" 373),.none⟩] 4),slots:=#[]}),
 (137,{cls:=(.type "type"),dict:=none,data:=(.cls {name:="TopologicalSorter",bases:=[(.type "object")],mro:=[(.ref 137),(.type "object")],ns:=136,qualname:="TopologicalSorter",hasDict:=true,slotNames:=[]}),slots:=#[none,none,some (.str "TopologicalSorter" 257),some (.str "TopologicalSorter" 265),some (.builtin "object.__new__"),some (.bool true)]}),
 (138,{cls:=(.type "getset_descriptor"),dict:=none,data:=(.fields #[(.str "__dict__" 369),(.ref 137),(.builtin "function.__dict__"),(.builtin "function.__dict__#set")]),slots:=#[]}),
 (139,{cls:=(.type "getset_descriptor"),dict:=none,data:=(.fields #[(.str "__weakref__" 371),(.ref 137),(.builtin "ExceptionGroup.__weakref__"),.none]),slots:=#[]}),
 (213,{cls:=(.type "code"),dict:=none,data:=(.fields #[(.str "fspath" 465),(.str "fspath" 466),(.str "/claim/cut.py" 467),(.int (153) 0),(.int (1) 0),(.int (0) 0),(.int (0) 0),(.int (3) 0),(.ref 208),(.bool true),(.int (181) 0),(.ref 209),.none,(.ref 210),(.ref 211),(.ref 212),(.int (472) 0),(.int (153) 0),(.str "/claim/cut.py" 473)]),slots:=#[]}),
 (214,{cls:=(.type "function"),dict:=none,data:=(.func (d_ (bH 15) "fspath" .none (.str "os" 463) (.ref 213))),slots:=#[]}),
 (227,{cls:=(.type "code"),dict:=none,data:=(.fields #[(.str "splitroot" 490),(.str "splitroot" 491),(.str "/claim/cut.py" 492),(.int (182) 0),(.int (1) 0),(.int (0) 0),(.int (0) 0),(.int (3) 0),(.ref 222),(.bool true),(.int (181) 0),(.ref 223),.none,(.ref 224),(.ref 225),(.ref 226),(.int (496) 0),(.int (182) 0),(.str "/claim/cut.py" 497)]),slots:=#[]}),
 (228,{cls:=(.type "function"),dict:=none,data:=(.func (d_ (bH 19) "splitroot" .none (.str "cpy313.posixpath" 488) (.ref 227))),slots:=#[]}),
 (234,{cls:=(.type "code"),dict:=none,data:=(.fields #[(.str "normpath" 499),(.str "normpath" 500),(.str "/claim/cut.py" 501),(.int (196) 0),(.int (1) 0),(.int (0) 0),(.int (0) 0),(.int (3) 0),(.ref 229),(.bool true),(.int (181) 0),(.ref 230),.none,(.ref 231),(.ref 232),(.ref 233),(.int (511) 0),(.int (196) 0),(.str "/claim/cut.py" 512)]),slots:=#[]}),
 (235,{cls:=(.type "function"),dict:=none,data:=(.func (d_ (bH 20) "normpath" .none (.str "cpy313.posixpath" 488) (.ref 234))),slots:=#[]}),
 (239,{cls:=(.type "code"),dict:=none,data:=(.fields #[(.str "commonpath" 514),(.str "commonpath" 515),(.str "/claim/cut.py" 516),(.int (221) 0),(.int (1) 0),(.int (0) 0),(.int (0) 0),(.int (3) 0),(.ref 236),(.bool true),(.int (181) 0),(.ref 237),.none,.none,.none,(.ref 238),(.int (517) 0),(.int (221) 0),(.str "/claim/cut.py" 518)]),slots:=#[]}),
 (240,{cls:=(.type "function"),dict:=none,data:=(.func (d_ (bH 21) "commonpath" .none (.str "cpy313.posixpath" 488) (.ref 239))),slots:=#[]}),
 (246,{cls:=(.type "code"),dict:=none,data:=(.fields #[(.str "_law_ends" 522),(.str "_law_ends" 523),(.str "/claim/cut.py" 524),(.int (251) 0),(.int (1) 0),(.int (0) 0),(.int (0) 0),(.int (3) 0),(.ref 241),(.bool true),(.int (181) 0),(.ref 242),.none,(.ref 243),(.ref 244),(.ref 245),(.int (529) 0),(.int (251) 0),(.str "/claim/cut.py" 530)]),slots:=#[]}),
 (247,{cls:=(.type "function"),dict:=none,data:=(.func (d_ (bH 23) "_law_ends" .none (.str "law_pd0029_01" 520) (.ref 246))),slots:=#[]}),
 (253,{cls:=(.type "code"),dict:=none,data:=(.fields #[(.str "_law_spelled" 532),(.str "_law_spelled" 533),(.str "/claim/cut.py" 534),(.int (258) 0),(.int (2) 0),(.int (0) 0),(.int (0) 0),(.int (3) 0),(.ref 248),(.bool true),(.int (181) 0),(.ref 249),.none,(.ref 250),(.ref 251),(.ref 252),(.int (539) 0),(.int (258) 0),(.str "/claim/cut.py" 540)]),slots:=#[]}),
 (254,{cls:=(.type "function"),dict:=none,data:=(.func (d_ (bH 24) "_law_spelled" .none (.str "law_pd0029_01" 520) (.ref 253))),slots:=#[]}),
 (258,{cls:=(.type "code"),dict:=none,data:=(.fields #[(.str "_law_moves" 542),(.str "_law_moves" 543),(.str "/claim/cut.py" 544),(.int (262) 0),(.int (1) 0),(.int (0) 0),(.int (0) 0),(.int (3) 0),(.ref 255),(.bool true),(.int (181) 0),(.ref 256),.none,.none,.none,(.ref 257),(.int (545) 0),(.int (262) 0),(.str "/claim/cut.py" 546)]),slots:=#[]}),
 (259,{cls:=(.type "function"),dict:=none,data:=(.func (d_ (bH 25) "_law_moves" .none (.str "law_pd0029_01" 520) (.ref 258))),slots:=#[]}),
 (265,{cls:=(.type "code"),dict:=none,data:=(.fields #[(.str "_law_meets" 548),(.str "_law_meets" 549),(.str "/claim/cut.py" 550),(.int (271) 0),(.int (2) 0),(.int (0) 0),(.int (0) 0),(.int (3) 0),(.ref 260),(.bool true),(.int (181) 0),(.ref 261),.none,(.ref 262),(.ref 263),(.ref 264),(.int (553) 0),(.int (271) 0),(.str "/claim/cut.py" 554)]),slots:=#[]}),
 (266,{cls:=(.type "function"),dict:=none,data:=(.func (d_ (bH 26) "_law_meets" .none (.str "law_pd0029_01" 520) (.ref 265))),slots:=#[]}),
 (270,{cls:=(.type "code"),dict:=none,data:=(.fields #[(.str "_law_shared" 556),(.str "_law_shared" 557),(.str "/claim/cut.py" 558),(.int (273) 0),(.int (1) 0),(.int (0) 0),(.int (0) 0),(.int (3) 0),(.ref 267),(.bool true),(.int (181) 0),(.ref 268),.none,.none,.none,(.ref 269),(.int (559) 0),(.int (273) 0),(.str "/claim/cut.py" 560)]),slots:=#[]}),
 (271,{cls:=(.type "function"),dict:=none,data:=(.func (d_ (bH 27) "_law_shared" .none (.str "law_pd0029_01" 520) (.ref 270))),slots:=#[]}),
 (277,{cls:=(.type "code"),dict:=none,data:=(.fields #[(.str "_law_ways" 562),(.str "_law_ways" 563),(.str "/claim/cut.py" 564),(.int (280) 0),(.int (1) 0),(.int (0) 0),(.int (0) 0),(.int (3) 0),(.ref 272),(.bool true),(.int (181) 0),(.ref 273),.none,(.ref 274),(.ref 275),(.ref 276),(.int (574) 0),(.int (280) 0),(.str "/claim/cut.py" 575)]),slots:=#[]}),
 (278,{cls:=(.type "function"),dict:=none,data:=(.func (d_ (bH 28) "_law_ways" .none (.str "law_pd0029_01" 520) (.ref 277))),slots:=#[]}),
 (282,{cls:=(.type "code"),dict:=none,data:=(.fields #[(.str "_law_told" 577),(.str "_law_told" 578),(.str "/claim/cut.py" 579),(.int (295) 0),(.int (2) 0),(.int (0) 0),(.int (0) 0),(.int (3) 0),(.ref 279),(.bool true),(.int (181) 0),(.ref 280),.none,.none,.none,(.ref 281),(.int (580) 0),(.int (295) 0),(.str "/claim/cut.py" 581)]),slots:=#[]}),
 (283,{cls:=(.type "function"),dict:=none,data:=(.func (d_ (bH 29) "_law_told" .none (.str "law_pd0029_01" 520) (.ref 282))),slots:=#[]}),
 (287,{cls:=(.type "code"),dict:=none,data:=(.fields #[(.str "_law_ring" 583),(.str "_law_ring" 584),(.str "/claim/cut.py" 585),(.int (302) 0),(.int (1) 0),(.int (0) 0),(.int (0) 0),(.int (3) 0),(.ref 284),(.bool true),(.int (181) 0),(.ref 285),.none,.none,.none,(.ref 286),(.int (586) 0),(.int (302) 0),(.str "/claim/cut.py" 587)]),slots:=#[]}),
 (288,{cls:=(.type "function"),dict:=none,data:=(.func (d_ (bH 30) "_law_ring" .none (.str "law_pd0029_01" 520) (.ref 287))),slots:=#[]}),
 (294,{cls:=(.type "code"),dict:=none,data:=(.fields #[(.str "_law_prepared" 589),(.str "_law_prepared" 590),(.str "/claim/cut.py" 591),(.int (315) 0),(.int (1) 0),(.int (0) 0),(.int (0) 0),(.int (3) 0),(.ref 289),(.bool true),(.int (181) 0),(.ref 290),.none,(.ref 291),(.ref 292),(.ref 293),(.int (593) 0),(.int (315) 0),(.str "/claim/cut.py" 594)]),slots:=#[]}),
 (295,{cls:=(.type "function"),dict:=none,data:=(.func (d_ (bH 31) "_law_prepared" .none (.str "law_pd0029_01" 520) (.ref 294))),slots:=#[]}),
 (299,{cls:=(.type "code"),dict:=none,data:=(.fields #[(.str "_law_rounds" 596),(.str "_law_rounds" 597),(.str "/claim/cut.py" 598),(.int (320) 0),(.int (3) 0),(.int (0) 0),(.int (0) 0),(.int (3) 0),(.ref 296),(.bool true),(.int (181) 0),(.ref 297),.none,.none,.none,(.ref 298),(.int (599) 0),(.int (320) 0),(.str "/claim/cut.py" 600)]),slots:=#[]}),
 (300,{cls:=(.type "function"),dict:=none,data:=(.func (d_ (bH 32) "_law_rounds" .none (.str "law_pd0029_01" 520) (.ref 299))),slots:=#[]}),
 (304,{cls:=(.type "code"),dict:=none,data:=(.fields #[(.str "_law_moved" 602),(.str "_law_moved" 603),(.str "/claim/cut.py" 604),(.int (339) 0),(.int (2) 0),(.int (0) 0),(.int (0) 0),(.int (3) 0),(.ref 301),(.bool true),(.int (181) 0),(.ref 302),.none,.none,.none,(.ref 303),(.int (605) 0),(.int (339) 0),(.str "/claim/cut.py" 606)]),slots:=#[]}),
 (305,{cls:=(.type "function"),dict:=none,data:=(.func (d_ (bH 33) "_law_moved" .none (.str "law_pd0029_01" 520) (.ref 304))),slots:=#[]}),
 (309,{cls:=(.type "code"),dict:=none,data:=(.fields #[(.str "law" 608),(.str "law" 609),(.str "/claim/cut.py" 610),(.int (356) 0),(.int (1) 0),(.int (0) 0),(.int (0) 0),(.int (3) 0),(.ref 306),(.bool true),(.int (181) 0),(.ref 307),.none,.none,.none,(.ref 308),(.int (611) 0),(.int (356) 0),(.str "/claim/cut.py" 612)]),slots:=#[]}),
 (310,{cls:=(.type "function"),dict:=none,data:=(.func (d_ (bH 34) "law" .none (.str "law_pd0029_01" 520) (.ref 309))),slots:=#[]})]
@[elab_as_elim] theorem U {α:Sort _} {a b:α} {P:α→Prop} (h:a=b) (k:P b):P a:=h▸k
@[elab_as_elim] theorem ZB {α:Sort _} {a b:α} {P:α→Prop} (h:b=a) (k:P b):P a:=h▸k
section
section
variable {a b c d e f n:Nat}{x y z:Int}
theorem I2 (h:a<b):min a b+(0+1+1)+(b-(a+1))=b+1:=by
 rw[Er (fN h)];exact(Nat.succ_add (a+1) _).trans (cQ Nat.succ (Nat.add_sub_cancel' h))
theorem RS (h:a≤2+2*b):a≤2+2*(b+1):=Ev h (bX (2+2*b) 2)
theorem NW (h:a≤2+2*b) (e:c=2):a+c≤2+2*(b+1):=by subst e;exact nk h 2
theorem afs (h:a≤4):2+2*a≤10:=jQ (vo 2 h) 2
theorem ry (h:a=2+b):0<a:=h▸Nat.add_pos_left (by decide) b
theorem Nk (h:0<a):(0:Int)<a:=Int.natCast_pos.2 h
theorem JK (h:0<a):x.fmod a<a:=Int.fmod_lt_of_pos _ (Nk h)
theorem CP (h:0<a):0≤x.fmod a:=OZ _ (Nk h)
theorem Lp (h:x<a) (e:x=b):b<a:=GU.1 (e▸h)
theorem rK (h:0<a):(x.fmod a).toNat<a:=Lp (JK h) (Int.toNat_of_nonneg (CP h)).symm
theorem we (h:0<a):¬(a:Int)=0:=fun e=>iE h (Int.natCast_eq_zero.1 e)
theorem acE (h:a=2+b) (g:b≤4):a≤1000:=h▸Ev (jQ g 2) (by decide)
theorem Rv (h:a≤1000000):(a:Int).natAbs<1073741824:=f9 h (by decide)
theorem K8 (h:a≤10) (e:b=2):a+b≤1000000:=e▸Ev (nk h 2) (by decide)
theorem Yj (h:b≤1000):min a b+(0+1+1)≤1000000:=Ev (nk (Ev (AU a b) h) _) (by decide)
theorem aeC (h:a<b) (g:b≤1000):min a b+(0+1+1)+(b-(a+1))≤1000000:=Ev (bT (I2 h)) (Ev (gw g) (by decide))
theorem yQ (h:a-b=c+1):b<a:=Nat.lt_of_sub_eq_succ h
theorem LS (h:a<b):b-a=b-a-1+1:=(Nat.sub_add_cancel (Nat.sub_pos_of_lt h)).symm
theorem C7 (h:a+60*(b+1)<9000) (g:c≤60):a+c+60*b<9000:=f9 (Ev (nk (jQ g a) _) (bT (by rw[Ej,Cg,uF 60]))) h
theorem YK (h:a+60*c<9000) (g:b≤c):a+60*b<9000:=f9 (jQ (vo 60 g) a) h
theorem Yx (h:a+c<d) (g:b≤c):a+b<d:=f9 (jQ g a) h
theorem CF (h:a+60*b<9000) (g:c≤900):a+c<9900:=Nat.add_lt_add_of_lt_of_le (f9 (bX ..) h) g
theorem Ut (h:a+(b+1)=c):a+1+b=c:=(xy a b).trans h
theorem oZ (h:a+(b+1)≤c):a+1+b≤c:=Ev (bT (xy a b)) h
theorem HP (h:a≤300) (g:b≤a*1000):b+(a-1)*1≤700000:=Ev (mw (Ev g (Af _ h)) (Ev (bT (Nat.mul_one _)) (Ev (Eu ..) h))) (by decide)
theorem Hs (h:a≤300) (g:b≤a*1000):b+a*1≤1000000:=Ev (mw (Ev g (Af _ h)) (Ev (bT (Nat.mul_one _)) h)) (by decide)
theorem KX (h:a≤700000) (e:b=1):b+a≤1000000:=e▸Ev (jQ h 1) (by decide)
theorem SM (h:a≤b) (g:b≤1000):a≤1000000:=Ev (Ev h g) (by decide)
theorem Ht:((-1:Int)+((a+(0+1):Nat):Int)).toNat=a:=by lia
theorem TU (h:x≤1000001) (g: -1000001≤x): -(2^63:Int)≤x∧x<2^63:=⟨qx (by decide) g,Hj h (by decide)⟩
theorem qv (h:a≤1000000):(a:Int)<2^63:=Hj (uM.2 h) (by decide)
theorem Ml (h0:0≤x) (h:x.toNat<a):x<a:=(Int.toNat_lt h0).1 h
theorem OR (h0:0≤x) (g:a≤1000000) (h:x.toNat<a):x<2^63:=Int.lt_trans (Ml h0 h) (qv g)
theorem Zx (h: -(a:Int)≤x) (g:a≤1000000): -(2^63:Int)≤x:=qx (Int.neg_le_neg (Int.le_of_lt (qv g))) h
theorem XI (h:a≤b) (g:b≤300) (k:c≤a*1000):c+(a-1)*1≤700000:=HP (Ev h g) k
theorem XU (h:a≤b) (g:b≤300) (k:c≤a*1000):c+a*1≤1000000:=Hs (Ev h g) k
theorem Oj (h:a≤b-1) (g:0<b):a+1≤b:=Nat.add_le_of_le_sub g h
theorem Li (h:0<a∧a≤1+b):0<a+(0+1)∧a+(0+1)≤1+(b+1):=⟨Nat.succ_pos a,gw h.2⟩
theorem QH (h:0<a∧a≤1+b):0<a∧a≤1+(b+1):=⟨h.1,pC h.2⟩
theorem j7 (h:a=b) (g:b≤c) (k:c≤d):a≤d:=h▸Ev g k
theorem f7 (h:a≤b) (g:b≤c) (k:c≤d):a≤d:=Ev h (Ev g k)
theorem VK (h:a+(d+1)≤b+1+c) (g:b+c≤900):a≤1000:=Ev (bX a (d+1)) (Ev h (Ev (bT (Nat.succ_add b c)) (Ev (gw g) (by decide))))
theorem aeh (h:a≤500+(b-c)) (g:b≤100):a≤600:=Ev h (jQ (Ev (Eu ..) g) 500)
theorem JT (h:a≤e+1) (g:e+(b+1)≤c):a+b≤c:=Ev (nk h b) (oZ g)
theorem afb (h:b+1≤a):500+(a-(b+1))+1≤500+(a-b):=jQ (bT (Nat.sub_add_cancel (Nat.sub_pos_of_lt h))) 500
theorem Rm (i:a≤d+c) (e:d=f) (g:f≤b+1):a≤b+(c+1):=by
 subst e;exact Ev i (Ev (nk g c) (bT (xy b c)))
theorem Y0 (h:a≤b):a+b*11≤b*12:=Ev (nk h _) (bT (by rw[uF,←Ej]))
theorem S5 (h:a+c≤d*12) (g:d≤10) (k:b≤10):a+b≤900:=Ev (mw (Ev (bX a c) (Ev h (Af 12 g))) k) (by decide)
theorem T9 (h:d+(b+1)*11≤c) (g:a≤d+1+e) (k:e≤10):a+b*11≤c:=by
 refine Ev (nk (Ev g (jQ k _)) _) ?_;show d+11+b*11≤c;rw[Cg,uF 11,←Nat.succ_mul];exact h
theorem adl (h:a+(c+1)*10≤d) (k:b≤10):a+b+c*10≤d:=by
 refine Ev (nk (jQ k a) _) ?_;rw[Cg,uF 10,←Nat.succ_mul];exact h
theorem afn (h:a<b) (g:b≤1000000):(a:Int)<2^63-1:=Int.lt_of_lt_of_le (GU.2 (fU h g)) (by decide)
theorem Ii: -((a+1:Nat):Int)≤-1:=Int.neg_le_neg (uM.2 (gw (fz a)))
theorem dL (h:a<b) (g:b≤1000):(a:Int)<2^63:=qv (Ev (fN h) (Ev g (by decide)))
theorem abr:a≤(((a+1:Nat):Int)-1).toNat:=by rw[Int.natCast_succ,Int.add_sub_cancel];exact aI _
theorem Kr (h:a≤3) (g:b≤3*c):a+b≤3*(c+1):=by rw[Ej,uF];exact mw g h
theorem L6 (h:e+f≤c+n) (k:n≤500) (g:c+500*(d+1)≤500+500*b):e+f+500*d≤500+500*b:=by
 refine Ev (nk (Ev h (jQ k c)) _) ?_;rw[Cg,uF 500 (500*d),←Ej];exact g
theorem YE (h:e+f≤c+n) (k:n≤500) (g:c+500*(d+1)≤500+500*b) (i:b≤100):e≤1000000:=f7 (Ev (bX ..) (bX ..)) (L6 h k g) (Ev (jQ (vo 500 i) 500) (by decide))
theorem LG (h:c≤64) (g:a+60*d<9000):a+1+min b c<9900:=f9 (jQ (Ev (AU b c) h) _) (CF (c:=65) g (by decide))
theorem iu:x<y→x≤y∧y≤y:=fun h=>⟨Int.le_of_lt h,CS _⟩
theorem dT (h:¬x<y):x≤x∧y≤x:=⟨CS _,Int.le_of_not_gt h⟩
theorem dV (h:a=b+1):(a:Int)-1=b:=by rw[h,Int.natCast_succ,Int.add_sub_cancel]
theorem Ox {α} [BEq α] [LawfulBEq α]:∀{l m:List α},l.Nodup→(∀x∈l,x∈m)→l.length≤m.length
 |[],m,_,_=>fz _
 |a::l,m,h,hs=>by
  rw[dm]at h;have ha:=hs a (.head _);have:=Ox (m:=m.erase a) h.2 fun x hx=>(List.mem_erase_of_ne (fun q=>h.1 (by subst q;exact hx))).mpr (hs x (.tail _ hx));rw[Sg ha]at this;exact Oj this (Qv ha)
end
end
theorem sJ {Uf UF aj aC:Prop} (h0:Uf) (h1:UF) (h2:aj) (h3:aC):Uf∧UF∧aj∧aC:=⟨h0,h1,h2,h3⟩
theorem Cs {Uf UF aj aC aT:Prop} (h0:Uf) (h1:UF) (h2:aj) (h3:aC) (h4:aT):Uf∧UF∧aj∧aC∧aT:=⟨h0,h1,h2,h3,h4⟩
theorem PJ {Uf UF aj aC aT cG dP:Prop} (h0:Uf) (h1:UF) (h2:aj) (h3:aC) (h4:aT) (h5:cG) (h6:dP):Uf∧UF∧aj∧aC∧aT∧cG∧dP:=⟨h0,h1,h2,h3,h4,h5,h6⟩
theorem gg {T0:Sort _} {Uf UF aj:T0→Prop} (a:T0) (h0:Uf a) (h1:UF a) (h2:aj a):∃a,Uf a∧UF a∧aj a:=⟨a,h0,h1,h2⟩
theorem tG {T0:Sort _} {Uf UF aj aC:T0→Prop} (a:T0) (h0:Uf a) (h1:UF a) (h2:aj a) (h3:aC a):∃a,Uf a∧UF a∧aj a∧aC a:=⟨a,h0,h1,h2,h3⟩
theorem B6 {T0:Sort _} {Uf UF aj aC aT:T0→Prop} (a:T0) (h0:Uf a) (h1:UF a) (h2:aj a) (h3:aC a) (h4:aT a):∃a,Uf a∧UF a∧aj a∧aC a∧aT a:=⟨a,h0,h1,h2,h3,h4⟩
theorem pB {T0:Sort _} {aY:Sort _} {Uf UF:T0→aY→Prop} (a:T0) (b:aY) (h0:Uf a b) (h1:UF a b):∃a b,Uf a b∧UF a b:=⟨a,b,h0,h1⟩
theorem sR {T0:Sort _} {aY:Sort _} {Uf UF aj:T0→aY→Prop} (a:T0) (b:aY) (h0:Uf a b) (h1:UF a b) (h2:aj a b):∃a b,Uf a b∧UF a b∧aj a b:=⟨a,b,h0,h1,h2⟩
theorem ju {T0:Sort _} {aY:Sort _} {Uf UF aj aC:T0→aY→Prop} (a:T0) (b:aY) (h0:Uf a b) (h1:UF a b) (h2:aj a b) (h3:aC a b):∃a b,Uf a b∧UF a b∧aj a b∧aC a b:=⟨a,b,h0,h1,h2,h3⟩
theorem zm {T0:Sort _} {aY:Sort _} {Uf UF aj aC aT:T0→aY→Prop} (a:T0) (b:aY) (h0:Uf a b) (h1:UF a b) (h2:aj a b) (h3:aC a b) (h4:aT a b):∃a b,Uf a b∧UF a b∧aj a b∧aC a b∧aT a b:=⟨a,b,h0,h1,h2,h3,h4⟩
theorem yw {T0:Sort _} {aY:Sort _} {Uf UF aj aC aT cG:T0→aY→Prop} (a:T0) (b:aY) (h0:Uf a b) (h1:UF a b) (h2:aj a b) (h3:aC a b) (h4:aT a b) (h5:cG a b):∃a b,Uf a b∧UF a b∧aj a b∧aC a b∧aT a b∧cG a b:=⟨a,b,h0,h1,h2,h3,h4,h5⟩
theorem tR {T0:Sort _} {aY:Sort _} {ck:Sort _} {Uf UF aj:T0→aY→ck→Prop} (a:T0) (b:aY) (c:ck) (h0:Uf a b c) (h1:UF a b c) (h2:aj a b c):∃a b c,Uf a b c∧UF a b c∧aj a b c:=⟨a,b,c,h0,h1,h2⟩
theorem I8 {T0:Sort _} {aY:Sort _} {ck:Sort _} {Uf UF aj aC:T0→aY→ck→Prop} (a:T0) (b:aY) (c:ck) (h0:Uf a b c) (h1:UF a b c) (h2:aj a b c) (h3:aC a b c):∃a b c,Uf a b c∧UF a b c∧aj a b c∧aC a b c:=⟨a,b,c,h0,h1,h2,h3⟩
theorem F9 {T0:Sort _} {aY:Sort _} {ck:Sort _} {Uf UF aj aC aT:T0→aY→ck→Prop} (a:T0) (b:aY) (c:ck) (h0:Uf a b c) (h1:UF a b c) (h2:aj a b c) (h3:aC a b c) (h4:aT a b c):∃a b c,Uf a b c∧UF a b c∧aj a b c∧aC a b c∧aT a b c:=⟨a,b,c,h0,h1,h2,h3,h4⟩
theorem Qm {T0:Sort _} {aY:Sort _} {ck:Sort _} {Uf UF aj aC aT cG:T0→aY→ck→Prop} (a:T0) (b:aY) (c:ck) (h0:Uf a b c) (h1:UF a b c) (h2:aj a b c) (h3:aC a b c) (h4:aT a b c) (h5:cG a b c):∃a b c,Uf a b c∧UF a b c∧aj a b c∧aC a b c∧aT a b c∧cG a b c:=⟨a,b,c,h0,h1,h2,h3,h4,h5⟩
theorem O9 {T0:Sort _} {aY:Sort _} {ck:Sort _} {fP:Sort _} {Uf UF:T0→aY→ck→fP→Prop} (a:T0) (b:aY) (c:ck) (d:fP) (h0:Uf a b c d) (h1:UF a b c d):∃a b c d,Uf a b c d∧UF a b c d:=⟨a,b,c,d,h0,h1⟩
theorem aaY {T0:Sort _} {aY:Sort _} {ck:Sort _} {fP:Sort _} {Uf UF aj:T0→aY→ck→fP→Prop} (a:T0) (b:aY) (c:ck) (d:fP) (h0:Uf a b c d) (h1:UF a b c d) (h2:aj a b c d):∃a b c d,Uf a b c d∧UF a b c d∧aj a b c d:=⟨a,b,c,d,h0,h1,h2⟩
noncomputable abbrev TW:=Addr→Option Obj
inductive D where
 |val (v:Value)
 |int (i:Int)
 |str (s:Str)
 |list (l:List D)
 |tup (l:List D)
mutual
inductive aR (Z:TW):Value→D→Prop
 |val (v:Value):aR Z v (.val v)
 |int (i:Int) (t:Tok):aR Z (.int i t) (.int i)
 |str (s:Str) (t:Tok):aR Z (.str s t) (.str s)
 |list {a:Addr} {H:Array Value} {n:Nat} {l:List D}:Z a=some {cls:=.type "list",data:=.seq H n}→au Z H.toList l→aR Z (.ref a) (.list l)
 |tup {a:Addr} {H:Array Value} {n:Nat} {l:List D}:Z a=some {cls:=.type "tuple",data:=.seq H n}→au Z H.toList l→aR Z (.ref a) (.tup l)
inductive au (Z:TW):List Value→List D→Prop
 |nil:au Z [] []
 |cons {v:Value} {d:D} {H:List Value} {ds:List D}:aR Z v d→au Z H ds→au Z (v::H) (d::ds)
end
theorem Wc (h:aR Z v (.val w)):w=v:=by cases h;rfl
theorem JH (h:au Z v []):v=[]:=by cases h;rfl
@[elab_as_elim] theorem aR.v {Z:TW} {v w:Value} {P:Value→Prop} (h:aR Z v (.val w)) (k:P w):P v:=Wc h▸k
@[elab_as_elim] theorem aR.i {Z:TW} {v:Value} {i:Int} {P:Value→Prop} (h:aR Z v (.int i)) (k:∀t,P (.int i t)):P v:=by cases h;exact k _
@[elab_as_elim] theorem aR.s {Z:TW} {v:Value} {x:Str} {P:Value→Prop} (h:aR Z v (.str x)) (k:∀t,P (.str x t)):P v:=by cases h;exact k _
@[elab_as_elim] theorem aR.l {Z:TW} {v:Value} {l:List D} {P:Value→Prop} (h:aR Z v (.list l)) (k:∀{a:Addr} {H:Array Value} {n:Nat},Z a=some {cls:=.type "list",data:=.seq H n}→au Z H.toList l→P (.ref a)):P v:=by cases h;exact k ‹_› ‹_›
@[elab_as_elim] theorem aR.t {Z:TW} {v:Value} {l:List D} {P:Value→Prop} (h:aR Z v (.tup l)) (k:∀{a:Addr} {H:Array Value} {n:Nat},Z a=some {cls:=.type "tuple",data:=.seq H n}→au Z H.toList l→P (.ref a)):P v:=by cases h;exact k ‹_› ‹_›
@[elab_as_elim] theorem au.n {P:List Value→Prop} (h:au Z v []) (k:P []):P v:=JH h▸k
@[elab_as_elim] theorem au.c {P:List Value→Prop} (h:au Z v (d::l)) (k:∀{a:Value} {b:List Value},aR Z a d→au Z b l→P (a::b)):P v:=by cases h;exact k ‹_› ‹_›
theorem au.x {P:Prop} (h:au Z [] (d::l)):P:=nomatch h
noncomputable def fS (Z Z':TW):Prop:=∀a o,Z a=some o→Z' a=some o
theorem fS.refl (Z):fS Z Z:=fun J J h=>h
theorem fS.trans (x:fS Z Z') (y:fS Z' eU):fS Z eU:=fun a o h=>y a o (x a o h)
theorem aR.mono {Z Z':TW} (le:fS Z Z') {v:Value} {d:D} (h:aR Z v d):aR Z' v d:=
 aR.rec (motive_1:=fun v d J=>aR Z' v d) (motive_2:=fun v d J=>au Z' v d) .val .int .str (fun h J i=>.list (le _ _ h) i) (fun h J i=>.tup (le _ _ h) i) .nil (fun J J a b=>.cons a b) h
theorem au.ind {P:List Value→List D→Prop} (h0:P [] []) (h1:∀{v d H ds},aR Z v d→au Z H ds→P H ds→P (v::H) (d::ds)) (h:au Z H ds):P H ds:=
 au.rec (motive_1:=fun J J J=>True) (motive_2:=fun v d J=>P v d) (fun J=>⟨⟩) (fun J J=>⟨⟩) (fun J J=>⟨⟩) (fun J J J=>⟨⟩) (fun J J J=>⟨⟩) h0 (fun a b J c=>h1 a b c) h
theorem au.mono (le:fS Z Z') (h:au Z H ds):au Z' H ds:=
 h.ind .nil fun a J b=>.cons (a.mono le) b
theorem au.length (h:au Z H ds):H.length=ds.length:=
 h.ind (P:=fun H ds=>H.length=ds.length) rfl fun J J b=>cQ (fun x=>x+1) b
theorem au.append (h:au Z H ds) (h':au Z oY D6):au Z (H++oY) (ds++D6):=
 h.ind (P:=fun H ds=>au Z (H++oY) (ds++D6)) h' fun a J b=>.cons a b
theorem au.get (h:au Z H ds):∀{i:Nat} {d:D},ds[i]?=some d→∃v,H[i]?=some v∧aR Z v d:=by
 refine h.ind (P:=fun H ds=>∀{i:Nat} {d:D},ds[i]?=some d→∃v,H[i]?=some v∧aR Z v d) ?_ ?_
 ·intro i d h;simp at h
 ·intro v cz H ds s5 _ ih i d h;obtain _|i:=i
  ·simp at h;exact⟨_,rfl,h▸s5⟩
  ·exact ih (i:=i) h
noncomputable def Sub (Z:TW) (h:Heap):Prop:=∀a o,Z a=some o→h.get? a=some o∧o.cls≠ .type "frame"
theorem Sub.get (x:Sub Z h) (e:Z a=some o):h.get? a=some o:=(x a o e).1
noncomputable def i8 (o o':Obj):Prop:=o'=o∨(o.cls= .type "frame"∧∃bV,o'={o with slots:=bV})
theorem i8.refl (o):i8 o o:=.inl rfl
theorem i8.data (x:i8 o o'):o'.data=o.data:=by
 rcases x with rfl|⟨_,bV,rfl⟩<;>rfl
theorem i8.cls (x:i8 o o'):o'.cls=o.cls:=by
 rcases x with rfl|⟨_,bV,rfl⟩<;>rfl
theorem i8.eq (x:i8 o o') (h:o.cls≠ .type "frame"):o'=o:=by
 obtain rfl|⟨e,_⟩:=x
 ·rfl
 ·exact absurd e h
theorem i8.trans (x:i8 o o') (y:i8 o' pM):i8 o pM:=by
 obtain rfl|⟨e,bV,rfl⟩:=x
 ·exact y
 ·obtain rfl|⟨_,Z7,rfl⟩:=y
  ·exact .inr ⟨e,bV,rfl⟩
  ·exact .inr ⟨e,Z7,rfl⟩
noncomputable def kc (o:Obj):Prop:=(∃es ep,o.data= .dict es ep)∧o.cls= .type "frame"
theorem kc.qP (h:kc o) (H):o.data≠ .fields H:=by
 refine Op h fun aH J=>?_;refine fL aH fun es ep e=>?_;refine U e ?_;simp
theorem i8.Ci (q:i8 o o') (h:kc o):kc o':=by
 refine Op h fun aH hc=>?_;refine fL aH fun es ep e=>?_;exact⟨⟨es,ep,q.data.trans e⟩,q.cls.trans hc⟩
noncomputable def BH (h:Heap) (l:List Env):Prop:=∀b∈l.filterMap (fun x=>x.frame),∃o,h.get? b=some o∧kc o
noncomputable def gD (h h':Heap):Prop:=h.objs.size≤h'.objs.size∧∀a o,h.get? a=some o→∃o',h'.get? a=some o'∧i8 o o'
theorem gD.refl (h):gD h h:=⟨aI _,fun J o e=>⟨o,e,.refl o⟩⟩
theorem gD.trans (x:gD h h') (y:gD h' h''):gD h h'':=
 ⟨Ev x.1 y.1,fun a o e=>wS (x.2 a o e) fun o' e' s=>wS (y.2 a o' e') fun pM yZ s'=>⟨pM,yZ,s.trans s'⟩⟩
theorem gD.push (h) (o):gD h (h.push o):=⟨by rw[eX];exact bX _ _,fun a o' e=>⟨o',bY o e,.refl _⟩⟩
theorem gD.sub (x:gD h h') (y:Sub Z h):Sub Z h':=fun a o e=>by
 refine Op (y a o e) fun e1 e2=>?_;refine wS (x.2 a o e1) fun o' e' s=>?_;rw[s.eq e2]at e';exact⟨e',e2⟩
theorem gD.ns (x:gD h h') (y:h.Ns a m):h'.Ns a m:=by
 refine dW y fun o es ep xz hd r=>?_;refine wS (x.2 a o xz) fun o' e' s=>?_;exact tR o' es ep e' (s.data.trans hd) r
theorem gD.cell (x:gD h h') (y:h.IsCell a v):h'.IsCell a v:=by
 refine wS y fun o xz hd=>?_;refine wS (x.2 a o xz) fun o' e' s=>?_;exact⟨o',e',s.data.trans hd⟩
theorem gD.frames (x:gD h h') (y:h.FunFrames base l):h'.FunFrames base l:=
 y.of_keeps fun b o e J=>wS (x.2 b o e) fun o' e' s=>⟨o',e',s.data⟩
noncomputable def qQ (h:Heap) (Z Z':TW):Prop:=fS Z Z'∧∀a o,Z' a=some o→Z a=some o∨h.objs.size≤a
theorem qQ.refl (h) (Z):qQ h Z Z:=⟨.refl Z,fun J J e=>.inl e⟩
theorem qQ.trans (x:qQ h Z Z') (g:h.objs.size≤h'.objs.size) (y:qQ h' Z' eU):qQ h Z eU:=
 ⟨x.1.trans y.1,fun a o e=>by
  obtain e|e:=y.2 a o e
  ·exact x.2 a o e
  ·exact .inr (Ev g e)⟩
structure ah where
 p:Program
 w:World
 H0:Heap
 hd:Bool:=false
 T:Nat:=0
 fr:Option Addr:=none
noncomputable abbrev ah.M (c:ah):Model:=model c.p c.w
structure aD (c:ah) (s:Shared) (Z:TW) (s':Shared) (Z':TW):Prop where
 grow:gD s.heap s'.heap
 top:c.H0.StaysIn s'.heap
 ext:qQ s.heap Z Z'
 sub:Sub Z' s'.heap
 tok:s.toks≤s'.toks
 rest:∃h t,s'={s with heap:=h,toks:=t}
theorem aD.le (x:aD c s Z s' Z'):fS Z Z':=x.ext.1
theorem aD.refl (top:c.H0.StaysIn s.heap) (sub:Sub Z s.heap):aD c s Z s Z:=⟨.refl _,top,.refl ..,sub,aI _,⟨s.heap,s.toks,rfl⟩⟩
theorem aD.trans (x:aD c s Z s' Z') (y:aD c s' Z' s'' eU):aD c s Z s'' eU:=by
 refine⟨x.grow.trans y.grow,y.top,x.ext.trans x.grow.1 y.ext,y.sub,Ev x.tok y.tok,?_⟩;refine fL (x.rest) fun h t s4=>?_;subst s4;refine fL (y.rest) fun h' t' s4=>?_;subst s4;exact⟨h',t',rfl⟩
theorem aD.toks (x:aD c s Z s' Z') (FS:s'.toks≤t):aD c s Z {s' with toks:=t} Z':=by
 refine⟨x.grow,x.top,x.ext,x.sub,Ev x.tok FS,?_⟩;refine fL (x.rest) fun h t' s4=>?_;subst s4;exact⟨h,t,rfl⟩
noncomputable def TW.put (Z:TW) (a:Addr) (o:Obj):TW:=fun b=>if b=a then some o else Z b
theorem aD.push (top:c.H0.StaysIn s.heap) (sub:Sub Z s.heap) (o) (hf:o.isFreed=false) (hc:o.cls≠ .type "frame"):
 aD c s Z {s with heap:=s.heap.push o} (Z.put s.heap.objs.size o):=by
 have new:Z s.heap.objs.size=none:=by
  induction q:Z s.heap.objs.size with
  |none=>rfl
  |some o'=>exact absurd (cJ (sub.get q)) (yG _)
 refine⟨.push ..,fun a o' e=>bY _ (top a o' e),⟨fun a o' e=>?_,fun a o' e=>?_⟩,fun a o' e=>?_,aI _,⟨_,_,rfl⟩⟩
 ·unfold TW.put;by_cases h:a=s.heap.objs.size
  ·subst h;rw[new]at e;cases e
  ·exact U (Tk h) e
 ·unfold TW.put at e;by_cases h:a=s.heap.objs.size
  ·exact .inr (bT h.symm)
  ·rw[Tk h]at e;exact .inl e
 ·unfold TW.put at e;by_cases h:a=s.heap.objs.size
  ·subst h;rw[ak rfl]at e;cases e;exact⟨d7 _ hf,hc⟩
  ·rw[Tk h]at e;exact⟨bY _ (sub.get e),(sub a o' e).2⟩
theorem TW.ai (Z:TW) (a:Addr) (o:Obj):Z.put a o a=some o:=ak rfl
inductive cZ|loc|aM|gC|bz
 deriving DecidableEq
structure iF where
 name:Str
 kind:cZ
 val:Option D
noncomputable abbrev XV:=List iF
noncomputable def gB (h:Heap) (n:Str) (x:Value):Prop:=∃x8 l7,h.Ns mainGlobals x8∧h.Ns builtinsNs l7∧(x8 n=some x∨(x8 n=none∧l7 n=some x))
noncomputable def jY (c:ah) (h:Heap) (V:Env) (n:Str) (x:Value):cZ→Prop
 | .loc=>V.kindOf n=some .local∧∃m,h.Ns V.locals m∧m n=some x
 | .aM| .gC=>V.kindOf n=some .cell∧∃a,V.cells.lookup n=some a∧h.IsCell a (some x)
 | .bz=>V.kindOf n=some .globalImplicit∧V.globals=mainGlobals∧V.builtins=builtinsNs∧gB c.H0 n x
theorem jY.grow (g:gD h h') (bO:jY c h V n x k):jY c h' V n x k:=by
 obtain _|_|_|_:=k
 ·exact⟨bO.1,bO.2.imp fun J y=>⟨g.ns y.1,y.2⟩⟩
 ·exact⟨bO.1,bO.2.imp fun J y=>⟨y.1,g.cell y.2⟩⟩
 ·exact⟨bO.1,bO.2.imp fun J y=>⟨y.1,g.cell y.2⟩⟩
 ·exact bO
noncomputable def Fz (c:ah) (Z:TW) (h:Heap) (V:Env) (v:iF):Prop:=∀d,v.val=some d→∃x,aR Z x d∧jY c h V v.name x v.kind
inductive iz where
 |list (l:List D)
 |dict (l:List (Str×D))
 |set (l:List Str)
 |inst (C dx:Addr) (l:List (Option D))
 |attrs (l:List (Str×D))
 |raw (o:Obj)
 |any
noncomputable abbrev B:=Addr→Option iz
noncomputable def B.put (Y:B) (a:Addr) (x:Option iz):B:=fun b=>if b=a then x else Y b
theorem B.ai (Y:B) (a:Addr) (x:Option iz):Y.put a x a=x:=ak rfl
theorem B.aa (Y:B) (x:Option iz) (h:b≠a):Y.put a x b=Y b:=Tk h
noncomputable def qa (c:ah) (Z:TW) (o:Obj) (l:List (Str×D)):Prop:=∃kvs:List (Str×Value),o.IsDictOf (strKind c.p c.w) kvs∧kvs.map Prod.fst=l.map Prod.fst∧au Z (kvs.map Prod.snd) (l.map Prod.snd)
theorem qa.cls (h:qa c Z o l):o.cls= .type "dict" :=h.elim fun J y=>y.1.elim fun J z=>z.elim fun J w=>w.1.1
inductive ie (Z:TW):List (Option Value)→List (Option D)→Prop
 |nil:ie Z [] []
 |some {v:Value} {d:D} {H:List (Option Value)} {ds:List (Option D)}:aR Z v d→ie Z H ds→ie Z (some v::H) (some d::ds)
 |none {H:List (Option Value)} {ds:List (Option D)}:ie Z H ds→ie Z (none::H) (none::ds)
theorem ie.mono (le:fS Z Z') (h:ie Z H ds):ie Z' H ds:=
 h.rec (motive:=fun H ds J=>ie Z' H ds) .nil (fun a J b=>.some (a.mono le) b) fun J b=>.none b
noncomputable def Vi (c:ah) (o:Obj) (l:List Str):Prop:=∃es ep pN,o.ExactSet∧o.data= .set es ep pN∧ElemsOf (strKind c.p c.w) es.toList∧(∀k,decide (k∈l)=true↔∃e∈es.toList,(strKind c.p c.w).is k e.2=true)∧es.size<scanBound∧pN.fits es.size=true∧es.size≤l.length
noncomputable def eV (c:ah) (Z:TW) (o:Obj):iz→Prop
 | .list l=>∃H n,o={cls:=.type "list",data:=.seq H n}∧au Z H.toList l
 | .dict l=>qa c Z o l
 | .set l=>Vi c o l
 | .inst C dx l=>∃bV,o={cls:=.ref C,dict:=some dx,data:=.plain,slots:=bV}∧ie Z bV.toList l
 | .attrs l=>∃(kvs:List (Str×Tok×Value)) (n:Nat),o={cls:=.type "dict",data:=.dict (kvs.map fun x=>(⟨PyData.keyHash c.w.params x.1,.str x.1 x.2.1,x.2.2⟩:DictEntry)).toArray n}∧kvs.map Prod.fst=l.map Prod.fst∧au Z (kvs.map (fun x=>x.2.2)) (l.map Prod.snd)
 | .raw o'=>o=o'∧o.cls≠ .type "frame"
 | .any=>∃es ep,o.data= .dict es ep∧StrKeys es
theorem eV.mono (le:fS Z Z') (h:eV Cn Z o c):eV Cn Z' o c:=by
 obtain l|l|l|⟨a,b,l⟩|l|r|_:=c
 ·exact vZ (fun J=>vZ fun J y=>⟨y.1,y.2.mono le⟩) h
 ·exact vZ (fun J y=>⟨y.1,y.2.1,y.2.2.mono le⟩) h
 ·exact h
 ·exact vZ (fun J y=>⟨y.1,y.2.mono le⟩) h
 ·exact vZ (fun J=>vZ fun J y=>⟨y.1,y.2.1,y.2.2.mono le⟩) h
 ·exact h
 ·exact h
theorem eV.same (q:i8 o o') (h:eV Cn Z o c):eV Cn Z o' c:=by
 obtain l|l|l|⟨a,b,l⟩|l|r|_:=c
 ·have e:=h;refine eO e fun J J e J=>?_;refine U (q.eq (by refine U e ?_;simp)) ?_;exact h
 ·refine U (q.eq (by refine U (qa.cls h) ?_;simp)) ?_;exact h
 ·have e:=h;refine Bp e fun J J J e J=>?_;refine U (q.eq (by refine U e.1 ?_;simp)) ?_;exact h
 ·have e:=h;refine wS e fun J e J=>?_;refine U (q.eq (by refine U e ?_;simp)) ?_;exact h
 ·have e:=h;refine eO e fun J J e J=>?_;refine U (q.eq (by refine U e ?_;simp)) ?_;exact h
 ·exact U (q.eq h.2) h
 ·exact eO h fun es ep h1 h2=>⟨es,ep,q.data.trans h1,h2⟩
theorem eV.M7 (n:c≠ .any) (h:eV Cn Z o c):o.cls≠ .type "frame" :=by
 obtain l|l|l|⟨a,b,l⟩|l|r|_:=c
 ·refine eO h fun J J e J=>?_;refine U e ?_;simp
 ·refine U (qa.cls h) ?_;simp
 ·refine Bp h fun J J J e J=>?_;refine U e.1 ?_;simp
 ·refine wS h fun J e J=>?_;refine U e ?_;simp
 ·refine eO h fun J J e J=>?_;refine U e ?_;simp
 ·exact h.2
 ·exact absurd rfl n
noncomputable def lT (Y:B) (h:Heap) (a:Addr):Prop:=Y a=none∧a<h.objs.size
structure bB (c:ah) (Z:TW) (h:Heap) (V:Env) (O:XV) (Y:B):Prop where
 fn:V.scope.kind= .function
 top:c.H0.StaysIn h
 sub:Sub Z h
 vars:∀v∈O,Fz c Z h V v
 cells:∀a cl,Y a=some cl→(∃o,h.get? a=some o∧eV c Z o cl)∧Z a=none∧c.H0.get? a=none
 own:lT Y h V.locals∧∀n a,V.cells.lookup n=some a→lT Y h a
 glob:V.globals=mainGlobals∧V.builtins=builtinsNs∧c.H0.get? sysModules≠none∧∀L,c.fr=some L→V.frame=some L
structure aO (c:ah) (Y:B) (s:Shared) (Z:TW) (I:B) (s':Shared) (Z':TW):Prop where
 size:s.heap.objs.size≤s'.heap.objs.size
 keep:∀a o,Y a=none→s.heap.get? a=some o→∃o',s'.heap.get? a=some o'∧i8 o o'
 fields:∀b o,s.heap.get? b=some o→kc o→∃o',s'.heap.get? b=some o'∧kc o'
 top:c.H0.StaysIn s'.heap
 le:fS Z Z'
 ext:∀a o,Z' a=some o→Z a=some o∨Y a≠none∨s.heap.objs.size≤a
 sub:Sub Z' s'.heap
 jz:∀a,I a≠none→Y a≠none∨s.heap.objs.size≤a
 cells:∀a cl,I a=some cl→(∃o,s'.heap.get? a=some o∧eV c Z' o cl)∧Z' a=none∧c.H0.get? a=none
 tok:s.toks≤s'.toks
 rest:∃h t,s'={s with heap:=h,toks:=t}
theorem uC {h:Heap} {a:Addr} (ha:h.objs.size≤a):h.get? a=none:=by
 induction q:h.get? a with
 |none=>rfl
 |some o=>exact absurd (cJ q) (eL.mpr ha)
theorem gR (x:Sub Z h) (ha:h.objs.size≤a):Z a=none:=by
 induction q:Z a with
 |none=>rfl
 |some o=>exact absurd (cJ (x.get q)) (eL.mpr ha)
theorem mY {c:ah} {h:Heap} (top:c.H0.StaysIn h) {a:Addr} (ha:h.objs.size≤a):c.H0.get? a=none:=by
 induction q:c.H0.get? a with
 |none=>rfl
 |some o=>exact absurd (cJ (top _ _ q)) (eL.mpr ha)
theorem bB.lt (x:bB c Z h V O Y) (ha:Y a≠none):a<h.objs.size:=by
 refine aP (n8.mp ha) fun cl e=>?_;refine Op (x.cells a cl e) fun aH J=>?_;refine wS aH fun o xz J=>?_;exact cJ xz
theorem bB.fresh (x:bB c Z h V O Y) (ha:h.objs.size≤a):Y a=none:=by
 induction q:Y a with
 |none=>rfl
 |some cl=>exact absurd (x.lt (a:=a) (by refine U q ?_;simp)) (eL.mpr ha)
noncomputable def gy (c:ah) (Z:TW) (h:Heap) (Y:B):Prop:=∀a cl,Y a=some cl→(∃o,h.get? a=some o∧eV c Z o cl)∧Z a=none∧c.H0.get? a=none
theorem aD.pR (x:aD c s Z s' Z') (r:gy c Z s.heap Y):aO c Y s Z Y s' Z':=
 ⟨x.grow.1,fun a o J e=>x.grow.2 a o e,fun b o e h=>wS (x.grow.2 b o e) fun o' e' q=>⟨o',e',q.Ci h⟩,x.top,x.le,fun a o e=>(x.ext.2 a o e).imp id .inr,x.sub,fun a h=>.inl h,fun a cl e=>by
  refine b5 (r a cl e) fun aH hz h0=>?_;refine wS aH fun o xz hc=>?_;refine wS (x.grow.2 _ _ xz) fun o' e' q=>?_;refine⟨⟨o',e',(hc.same q).mono x.le⟩,?_,h0⟩
  induction n9:Z' a with
  |none=>rfl
  |some f5=>
   obtain e|e:=x.ext.2 a f5 n9
   ·rw[hz]at e;cases e
   ·exact absurd (cJ xz) (eL.mpr e),
  x.tok,x.rest⟩
theorem aD.after (x:aD c s Z s' Z') (r:bB c Z s.heap V O Y):aO c Y s Z Y s' Z':=x.pR r.cells
theorem aO.trans (x:aO c Y s Z I s' Z') (y:aO c I s' Z' gW s'' eU):aO c Y s Z gW s'' eU:=by
 refine⟨Ev x.size y.size,fun a o ha e=>?_,fun b o e h=>wS (x.fields b o e h) fun o' e' h'=>y.fields b o' e' h',y.top,x.le.trans y.le,fun a o e=>?_,y.sub,fun a h=>?_,y.cells,Ev x.tok y.tok,?_⟩
 ·refine wS (x.keep a o ha e) fun o' e' q=>?_;have:I a=none:=by
   induction n9:I a with
   |none=>rfl
   |some cl=>
    rcases x.jz a (by refine U n9 ?_;simp)with h|h
    ·exact absurd ha h
    ·exact absurd (cJ e) (eL.mpr h)
  refine wS (y.keep a o' this e') fun pM yZ q'=>?_;exact⟨pM,yZ,q.trans q'⟩
 ·obtain h|h|h:=y.ext a o e
  ·exact x.ext a o h
  ·exact .inr (x.jz a h)
  ·exact .inr (.inr (Ev x.size h))
 ·obtain h|h:=y.jz a h
  ·exact x.jz a h
  ·exact .inr (Ev x.size h)
 ·refine fL (x.rest) fun h t s4=>?_;subst s4;refine fL (y.rest) fun h' t' s4=>?_;subst s4;exact⟨h',t',rfl⟩
theorem aO.ns (x:aO c Y s Z I s' Z') (ha:Y a=none) (y:s.heap.Ns a m):s'.heap.Ns a m:=by
 refine dW y fun o es ep xz hd r=>?_;refine wS (x.keep a o ha xz) fun o' e' s=>?_;exact tR o' es ep e' (s.data.trans hd) r
theorem aO.cell (x:aO c Y s Z I s' Z') (ha:Y a=none) (y:s.heap.IsCell a v):s'.heap.IsCell a v:=by
 refine wS y fun o xz hd=>?_;refine wS (x.keep a o ha xz) fun o' e' s=>?_;exact⟨o',e',s.data.trans hd⟩
theorem Iq {h:Heap} {a:Addr} {v:Option Value} (y:h.IsCell a v):a<h.objs.size:=wS y fun J xz J=>cJ xz
theorem aO.ael (x:aO c Y s Z I s' Z') (own:lT Y s.heap V.locals∧∀n a,V.cells.lookup n=some a→lT Y s.heap a) (bO:jY c s.heap V n v k):jY c s'.heap V n v k:=by
 obtain _|_|_|_:=k
 ·exact⟨bO.1,bO.2.imp fun J y=>⟨x.ns own.1.1 y.1,y.2⟩⟩
 ·exact⟨bO.1,bO.2.imp fun J y=>⟨y.1,x.cell (own.2 _ _ y.1).1 y.2⟩⟩
 ·exact⟨bO.1,bO.2.imp fun J y=>⟨y.1,x.cell (own.2 _ _ y.1).1 y.2⟩⟩
 ·exact bO
theorem aO.out (t:aO c Y s Z I s' Z') (h:lT Y s.heap a):lT I s'.heap a:=by
 refine⟨?_,fU h.2 t.size⟩
 induction q:I a with
 |none=>rfl
 |some cl=>
  rcases t.jz _ (by refine U q ?_;simp)with h'|h'
  ·exact absurd h.1 h'
  ·exact absurd h.2 (eL.mpr h')
theorem bB.step (x:bB c Z s.heap V O Y) (t:aD c s Z s' Z'):bB c Z' s'.heap V O Y:=by
 refine⟨x.fn,t.top,t.sub,fun v s5 d hd=>?_,(t.after x).cells,⟨(t.after x).out x.own.1,fun n a e=>(t.after x).out (x.own.2 n a e)⟩,x.glob⟩;refine wS (x.vars v s5 d hd) fun y h l=>?_;exact⟨y,h.mono t.le,l.grow t.grow⟩
theorem bB.after (x:bB c Z s.heap V O Y) (t:aO c Y s Z I s' Z'):bB c Z' s'.heap V O I:=by
 refine⟨x.fn,t.top,t.sub,fun v s5 d hd=>?_,t.cells,⟨t.out x.own.1,fun n a e=>t.out (x.own.2 n a e)⟩,x.glob⟩;refine wS (x.vars v s5 d hd) fun y h l=>?_;exact⟨y,h.mono t.le,t.ael x.own l⟩
theorem bB.start (x:bB c Z s.heap V O Y):aD c s Z s Z:=.refl x.top x.sub
structure Ok (c:ah) (k:Nat) (A:Around) (s:Shared):Prop where
 depth:A.depth+k<900
 units:A.units+60*k<9000
 frames:∃l,A.frames=some l∧s.heap.FunFrames c.H0 l∧BH s.heap l∧∀L,c.fr=some L→∃qX l',l=qX::l'∧qX.frame=some L
 tok:c.T<s.toks
 hand:c.hd=false→A.handled=none
theorem Ok.grow (x:Ok c k A s) (g:gD s.heap s'.heap) (t:s.toks≤s'.toks):Ok c k A s':=⟨x.depth,x.units,d9 x.frames fun l a b d lk=>⟨l,a,g.frames b,fun f hf=>wS (d f hf) fun o e i=>wS (g.2 f o e) fun o' e' q=>⟨o',e',q.Ci i⟩,lk⟩,fU x.tok t,x.hand⟩
theorem Ok.step (x:Ok c k A s) (t:aD c s Z s' Z'):Ok c k A s':=x.grow t.grow t.tok
theorem Ok.less (x:Ok c k A s) (hk:k'≤k):Ok c k' A s:=⟨by have:=x.depth;exact Yx ‹_› ‹_›,by have:=x.units;exact YK ‹_› ‹_›,x.frames,x.tok,x.hand⟩
noncomputable def f8 (c:ah) (k:Nat) (O:XV) (Y:B) (e:Expr) (d:D):Prop:=
 ∀(A:Around) (V:Env) (s:Shared) (Z:TW),Ok c k A s→bB c Z s.heap V O Y→∀(Q:Value→Shared→Prop) (E:Value→Shared→Prop),
  (∀v s' Z',aD c s Z s' Z'→aR Z' v d→Q v s')→wpAny c.M A (eval e V) Q E s
theorem ae5 (top:c.H0.StaysIn s.heap) (hk:V.scope.kind= .function) (bO:jY c s.heap V n x k) (h:Q x s):wpAny M A (loadName V n) Q E s:=by
 obtain _|_|_|_:=k
 ·exact bO.2.elim fun m y=>wpAny_loadName_local hk bO.1 y.1 y.2 h
 ·exact bO.2.elim fun m y=>wpAny_loadName_cell hk bO.1 y.1 y.2 h
 ·exact bO.2.elim fun m y=>wpAny_loadName_cell hk bO.1 y.1 y.2 h
 ·have hx:wpAny M A (loadGlobal V n) Q E s:=
   bO.2.2.2.elim fun x8 y=>y.elim fun l7 z=>z.2.2.elim (fun s5=>Calls.loadGlobal_global (bO.2.1▸z.1.keeps top) s5 h)
    fun s5=>Calls.loadGlobal_builtin (bO.2.1▸z.1.keeps top) s5.1 (bO.2.2.1▸z.2.1.keeps top) s5.2 h
  unfold loadName;simp only[Env.blockKind,hk,bO.1,ScopeKind.isAnnotationScope,Bool.false_and,j3,jA];exact hx
theorem f8.name (hm:⟨n,vk,some d⟩∈O) (hd:(n==("__debug__" :Str))=false:=by decide+kernel):f8 c k O Y (.Name n pos) d:=by
 intro A V s Z ok r Q E h;refine wS (r.vars _ hm d rfl) fun x t l=>?_;exact wpAny_Name (ae5 r.top r.fn l (h x s Z r.start t)) hd
noncomputable abbrev ah.re (c:ah) (hd:Bool) (T:Nat):ah:={c with hd:=hd,T:=T}
theorem aD.nv (x:aD (c.re hd T) s Z s' Z'):aD c s Z s' Z':=⟨x.grow,x.top,x.ext,x.sub,x.tok,x.rest⟩
theorem eV.re (h:eV c Z o cl):eV (c.re hd T) Z o cl:=h
theorem eV.nv (h:eV (c.re hd T) Z o cl):eV c Z o cl:=h
theorem jY.re (bO:jY c h V n x k):jY (c.re hd T) h V n x k:=bO
theorem jY.nv (bO:jY (c.re hd T) h V n x k):jY c h V n x k:=bO
theorem bB.re (x:bB c Z h V O Y):bB (c.re hd T) Z h V O Y:=
 ⟨x.fn,x.top,x.sub,fun v s5 d hd=>wS (x.vars v s5 d hd) fun y t l=>⟨y,t,l.re⟩,fun a cl e=>let⟨⟨o,xz,hc⟩,r⟩:=x.cells a cl e;⟨⟨o,xz,hc.re⟩,r⟩,x.own,x.glob⟩
theorem bB.nv (x:bB (c.re hd T) Z h V O Y):bB c Z h V O Y:=
 ⟨x.fn,x.top,x.sub,fun v s5 d hd=>wS (x.vars v s5 d hd) fun y t l=>⟨y,t,l.nv⟩,fun a cl e=>let⟨⟨o,xz,hc⟩,r⟩:=x.cells a cl e;⟨⟨o,xz,hc.nv⟩,r⟩,x.own,x.glob⟩
noncomputable abbrev ah.at (c:ah) (L:Addr):ah:={c with fr:=some L}
theorem eV.to (h:eV c Z o cl):eV (c.at L) Z o cl:=h
theorem eV.off (h:eV (c.at L) Z o cl):eV c Z o cl:=h
theorem DB (kf p r m):bindL kf (p::r) m=bindL kf r (if kf p.1=some .local then fun y=>if y=p.1 then some p.2 else m y else m):=rfl
theorem B5 (kf p r m):bindC kf (p::r) m=bindC kf r (if kf p.1=some .local then m else fun y=>if y=p.1 then some p.2 else m y):=rfl
theorem CA (n p r wP):cellsFrom n (p::r) wP=if p.2== .cell then cellsFrom (n+1) r ((p.1,n)::wP)else cellsFrom n r wP:=rfl
theorem Ux (n wP):cellsFrom n [] wP=wP:=rfl
section
noncomputable abbrev gk (c:ah) (s:Shared) (Z:TW) (d:D) (Q:Value→Shared→Prop):Prop:=∀v s' Z',aD c s Z s' Z'→aR Z' v d→Q v s'
theorem gk.of (g:gk c s Z d Q) (t:aD c s Z s₁ aB):gk c s₁ aB d Q:=fun v s' Z' t' h=>g v s' Z' (t.trans t') h
section
variable {c:ah} {k:Nat} {O:XV} {Y:B}
theorem f8.str:f8 c k O Y (.Constant (.str x) n pos) (.str x):=by
 intro A V s Z ok r Q E h;exact Jt (h _ _ Z (r.start.toks (b9 _)) (.str _ _))
theorem f8.int:f8 c k O Y (.Constant (.int i) n pos) (.int i):=by
 intro A V s Z ok r Q E h;exact wpAny_Constant_int (h _ _ Z (r.start.toks (b9 _)) (.int _ _))
theorem f8.none:f8 c k O Y (.Constant .none n pos) (.val .none):=by
 intro A V s Z ok r Q E h;exact On (h _ _ Z r.start (.val _))
theorem f8.bool:f8 c k O Y (.Constant (.bool b) n pos) (.val (.bool b)):=by
 intro A V s Z ok r Q E h;exact On (h _ _ Z r.start (.val _))
noncomputable def Rs (c:ah) (k:Nat) (O:XV) (Y:B) (t:Value→Value→Sem Value) (d₁ d₂ d:D):Prop:=
 ∀(A:Around) (V:Env) (s:Shared) (Z:TW) (bk bL:Value),Ok c k A s→bB c Z s.heap V O Y→aR Z bk d₁→aR Z bL d₂→∀(Q E:Value→Shared→Prop),gk c s Z d Q→wpAny c.M A (t bk bL) Q E s
theorem f8.two (hl:f8 c k O Y l d₁) (hr:f8 c k O Y r d₂) (xz:Rs c k O Y t d₁ d₂ d)
 (ok:Ok c k A s) (x:bB c Z s.heap V O Y) (h:gk c s Z d Q):
 wpAny c.M A (eval l V) (fun a s₁=>wpAny c.M A (eval r V) (fun b s₂=>wpAny c.M A (t a b) Q E s₂) E s₁) E s:=
 hl A V s Z ok x _ E fun bk s₁ aB EQ h₁=>hr A V s₁ aB (ok.step EQ) (x.step EQ) _ E fun bL s₂ bA t₂ h₂=>
  xz A V s₂ bA bk bL ((ok.step EQ).step t₂) ((x.step EQ).step t₂) (h₁.mono t₂.le) h₂ Q E ((h.of EQ).of t₂)
theorem f8.bin (hl:f8 c k O Y l d₁) (hr:f8 c k O Y r d₂) (xz:Rs c k O Y (binaryOp op) d₁ d₂ d):f8 c k O Y (.BinOp l op r pos) d:=
 fun A V s Z ok x Q E h=>wpAny_BinOp (f8.two hl hr xz ok x h)
theorem f8.cmp (hl:f8 c k O Y l d₁) (hr:f8 c k O Y r d₂) (xz:Rs c k O Y (compareOp op) d₁ d₂ d) (hm:behindInMarks op r=false:=by with_unfolding_all rfl):f8 c k O Y (.Compare l [op] [r] pos) d:=
 fun A V s Z ok x Q E h=>wpAny_Compare1 (f8.two hl hr xz ok x h) hm
noncomputable def dB (c:ah) (k:Nat) (O:XV) (Y:B) (d:D) (b:Bool):Prop:=
 ∀(A:Around) (V:Env) (s:Shared) (Z:TW) (v:Value),Ok c k A s→bB c Z s.heap V O Y→aR Z v d→∀(Q:Bool→Shared→Prop) (E:Value→Shared→Prop),(∀s' Z',aD c s Z s' Z'→Q b s')→wpAny c.M A (truthy v) Q E s
noncomputable def az (c:ah) (k:Nat) (O:XV) (Y:B) (e:Expr) (b:Bool):Prop:=
 ∀(A:Around) (V:Env) (s:Shared) (Z:TW),Ok c k A s→bB c Z s.heap V O Y→∀(Q:Bool→Shared→Prop) (E:Value→Shared→Prop),
  (∀s' Z',aD c s Z s' Z'→Q b s')→wpAny c.M A (isTrue e V (eval e V)) Q E s
theorem az.plain (he:f8 c k O Y e d) (FS:dB c k O Y d b)
 (hi:∀V whole,isTrue e V whole=(do let v←whole;standAt e.pos;holding [v] (truthy v)):=by intros;rfl):az c k O Y e b:=by
 intro A V s Z ok r Q E h;rw[hi];refine u8 (he A V s Z ok r _ E fun v s₁ aB EQ h₁=>u8 (gb (b4 ?_)));exact FS A V s₁ aB v (ok.step EQ) (r.step EQ) h₁ Q E fun s' Z' t'=>h s' Z' (EQ.trans t')
theorem az.cmp (hl:f8 c k O Y l d₁) (hr:f8 c k O Y r d₂) (xz:Rs c k O Y (compareOp op) d₁ d₂ (.val (.bool b))) (hm:behindInMarks op r=false:=by with_unfolding_all rfl):az c k O Y (.Compare l [op] [r] pos) b:=
 fun A V s Z ok x Q E h=>Ic (f8.two hl hr (t:=fun a b=>compareOp op a b) xz ok x (Q:=fun v aG=>wpAny c.M A (truthy v) Q E aG) fun v s' Z' t s5=>by
  refine s5.v ?_;exact yE (h s' Z' t)) hm
theorem az.not (he:az c k O Y e b):az c k O Y (.UnaryOp .Not e pos) (!b):=
 fun A V s Z ok x Q E h=>isTrue_not (he A V s Z ok x _ E fun s' Z' t=>h s' Z' t)
theorem az.OP:az c k O Y (.BoolOp .And [] pos) true:=fun J J s Z J x J J h=>isTrue_and_nil (h s Z x.start)
theorem az.zu:az c k O Y (.BoolOp .Or [] pos) false:=fun J J s Z J x J J h=>isTrue_or_nil (h s Z x.start)
theorem az.yl (he:az c k O Y e b) (hr:b=true→az c k O Y (.BoolOp .And es pos) b'):az c k O Y (.BoolOp .And (e::es) pos) (b&&b'):=by
 intro A V s Z ok x Q E h;show wpAny c.M A (allTrue .And (e::es) V) Q E s;refine u8 (m:=isTrue e V (eval e V)) (he A V s Z ok x _ E fun s' Z' t=>?_)
 induction b with
 |false=>exact On (h s' Z' t)
 |true=>exact hr rfl A V s' Z' (ok.step t) (x.step t) Q E fun s'' eU t'=>h s'' eU (t.trans t')
theorem az.q4 (he:az c k O Y e b) (hr:b=false→az c k O Y (.BoolOp .Or es pos) b'):az c k O Y (.BoolOp .Or (e::es) pos) (b||b'):=by
 intro A V s Z ok x Q E h;show wpAny c.M A (allTrue .Or (e::es) V) Q E s;refine u8 (m:=isTrue e V (eval e V)) (he A V s Z ok x _ E fun s' Z' t=>?_)
 induction b with
 |true=>exact On (h s' Z' t)
 |false=>exact hr rfl A V s' Z' (ok.step t) (x.step t) Q E fun s'' eU t'=>h s'' eU (t.trans t')
theorem f8.Dy (h₁:f8 c k O Y lH d₁) (FS:dB c k O Y d₁ b) (No:b=true→d=d₁) (M2:b=false→f8 c k O Y nW d):f8 c k O Y (.BoolOp .Or [lH,nW] pos) d:=by
 intro A V s Z ok x Q E h;show wpAny c.M A (do
  let v←eval lH V
  standAt pos
  let t←holding [v] (truthy v)
  match BoolOp.Or,t with
  | .And,false| .Or,true=>pure v
  |_,_=>eval nW V) Q E s
 refine u8 (h₁ A V s Z ok x _ E fun v s₁ aB EQ s5=>u8 (gb (u8 (b4 ?_))));refine FS A V s₁ aB v (ok.step EQ) (x.step EQ) s5 _ E fun s₂ bA t₂=>?_
 induction b with
 |true=>exact On (h v s₂ bA (EQ.trans t₂) ((No rfl)▸s5.mono t₂.le))
 |false=>exact M2 rfl A V s₂ bA ((ok.step EQ).step t₂) ((x.step EQ).step t₂) Q E ((gk.of (c:=c) h EQ).of t₂)
theorem f8.Jj (FS:az c k O Y e b) (No:b=true→f8 c k O Y lH d) (M2:b=false→f8 c k O Y nW d):f8 c k O Y (.IfExp e lH nW pos) d:=by
 intro A V s Z ok x Q E h;show wpAny c.M A (do if←isTrue e V (eval e V)then eval lH V else eval nW V) Q E s;refine u8 (FS A V s Z ok x _ E fun s₁ aB EQ=>?_)
 induction b with
 |true=>exact No rfl A V s₁ aB (ok.step EQ) (x.step EQ) Q E (gk.of (c:=c) h EQ)
 |false=>exact M2 rfl A V s₁ aB (ok.step EQ) (x.step EQ) Q E (gk.of (c:=c) h EQ)
noncomputable def iA (c:ah) (k:Nat) (O:XV) (Y:B) (es:List Expr) (ds:List D):Prop:=
 ∀(A:Around) (V:Env) (s:Shared) (Z:TW) (pos:Pos),Ok c k A s→bB c Z s.heap V O Y→∀(Q:List Value→Shared→Prop) (E:Value→Shared→Prop),
  (∀H s' Z',aD c s Z s' Z'→au Z' H ds→Q H s')→wpAny c.M A (spliced (backTo pos (starEach es V))) Q E s
theorem iA.nil:iA c k O Y [] []:=fun J J s Z J J x J J h=>wN (h [] s Z x.start .nil)
theorem iA.cons (he:f8 c k O Y e d) (hr:iA c k O Y es ds)
 (hs:∀V,starEach (e::es) V=(false,eval e V)::starEach es V:=by intro;rfl):iA c k O Y (e::es) (d::ds):=by
 intro A V s Z pos ok x Q E h;rw[hs];show wpAny c.M A (spliced ((false,eval e V)::backTo pos (starEach es V))) Q E s;refine vC (he A V s Z ok x _ E fun v s₁ aB EQ s5=>hr A V s₁ aB pos (ok.step EQ) (x.step EQ) _ E fun H s₂ bA t₂ bf=>?_);exact h _ s₂ bA (EQ.trans t₂) (.cons (s5.mono t₂.le) bf)
theorem aaQ (x:Sub Z h) (t:aR Z v (.list l)):∃a H,v= .ref a∧h.IsList a H.toArray∧au Z H l∧∃n,h.get? a=some {cls:=.type "list",data:=.seq H.toArray n}:=by
 refine t.l fun h hl=>?_;exact⟨_,_,rfl,⟨_,x.get h,rfl,_,by exact U AE rfl⟩,hl,_,by refine U AE ?_;exact x.get h⟩
theorem abF (top:c.H0.StaysIn s.heap) (sub:Sub Z s.heap) (h:au Z H ds) (hz:ds.length≤sizeLine) (g:gk c s Z (.list ds) Q):
 wpAny c.M A (newList H) Q E s:=by
 refine iS (g _ _ _ (aD.push top sub _ rfl (by simp)) (.list (TW.ai ..) ?_)) (by show H.toArray.size≤sizeLine;refine U jL (U h.length ?_);exact hz);exact h.mono (aD.push top sub _ rfl (by simp)).le
theorem DM (top:c.H0.StaysIn s.heap) (sub:Sub Z s.heap) (h:au Z H ds) (hz:ds.length≤sizeLine) (g:gk c s Z (.tup ds) Q):
 wpAny c.M A (newTuple H) Q E s:=by
 refine iS (g _ _ _ (aD.push top sub _ rfl (by simp)) (.tup (TW.ai ..) ?_)) (by show H.toArray.size≤sizeLine;refine U jL (U h.length ?_);exact hz);exact h.mono (aD.push top sub _ rfl (by simp)).le
theorem f8.list (he:iA c k O Y es ds) (hz:ds.length≤1000:=by decide):f8 c k O Y (.List es pos) (.list ds):=by
 intro A V s Z ok x Q E h;refine List_ (he A V s Z pos ok x _ E fun H s₁ aB EQ s5=>abF EQ.top EQ.sub s5 (by refine U cV ?_;exact Ev ‹_› (by decide)) (gk.of (c:=c) h EQ))
theorem f8.tuple (he:iA c k O Y es ds) (hz:ds.length≤1000:=by decide):f8 c k O Y (.Tuple es n pos) (.tup ds):=by
 intro A V s Z ok x Q E h;refine Tuple_ (he A V s Z pos ok x _ E fun H s₁ aB EQ s5=>DM EQ.top EQ.sub s5 (by refine U cV ?_;lia) (gk.of (c:=c) h EQ))
noncomputable def cu (c:ah) (k:Nat) (f:Value) (ds:List D) (d:D):Prop:=
 ∀(A:Around) (s:Shared) (Z:TW) (H:List Value),Ok c k A s→c.H0.StaysIn s.heap→Sub Z s.heap→au Z H ds→∀(Q E:Value→Shared→Prop),gk c s Z d Q→wpAny c.M A (call f H) Q E s
noncomputable def qs (c:ah) (f:Value):Prop:=(∀a,f≠ .ref a)∨∃a o fd,f= .ref a∧c.H0.get? a=some o∧o.data= .func fd
theorem aaJ (hf:qs c f) (top:c.H0.StaysIn s.heap) (h:∀dM,dM= .frame∨dM= .machine→Q dM s):wpAny c.M A (keeperOf f) Q E s:=by
 obtain hf|⟨a,o,fd,rfl,xz,hd⟩:=hf
 ·unfold keeperOf
  induction f with
  |ref a=>exact absurd rfl (hf a)
  |_=>exact On (h _ (.inr rfl))
 ·unfold keeperOf;refine u8 (lK (top _ _ xz) ?_);exact U hd (On (h _ (.inl rfl)))
theorem l6 (hf:qs c f)
 (h:wpAny c.M A (evalArgs f true args []) (fun a s₁=>c.H0.StaysIn s₁.heap∧wpAny c.M A (call f (first++a.pos) a.kw) Q E s₁) E s):wpAny c.M A (callWith pos f first args []) Q E s:=by
 delta callWith;refine u8 (b4 (d8 h (fun a s₁ h₁=>u8 (gb ?_)) fun J J x=>x));have tail:∀{t:Sem Value},wpAny c.M A t Q E s₁→wpAny c.M A (t>>=fun r=>holding [r] point>>=fun J=>pure r) Q E s₁:=
  fun FS=>u8 (d8 FS (fun r s₂ hr=>u8 (b4 (zv (On hr)))) fun J J x=>x)
 have mk:∀m,wpAny c.M A (callMarked m f (first++a.pos) a.kw) Q E s₁:=fun m=>by unfold callMarked;exact Calls.wpAny_keep h₁.2
 refine u8 (aaJ hf h₁.1 fun dM hk=>?_);have op:∀H,wpAny c.M A (operate H (call f (first++a.pos) a.kw)) Q E s₁:=fun H Γ p uu=>by rw[Sem.wp_operate];exact h₁.2 Γ p uu
 cases hs:(args.any Prod.fst||([]:List (Option Str×Sem Value)).any (fun x=>x.1.isNone))with
 |false=>
  obtain rfl|rfl:=hk
  ·show wpAny c.M A (if args.length+2*([]:List (Option Str×Sem Value)).length>30 then(call f (first++a.pos) a.kw>>=fun r=>holding [r] point>>=fun J=>pure r)else(callMarked plainCall f (first++a.pos) a.kw>>=fun r=>holding [r] point>>=fun J=>pure r)) Q E s₁;split
   ·exact tail h₁.2
   ·exact tail (mk _)
  ·exact tail h₁.2
 |true=>
  obtain rfl|rfl:=hk
  ·exact tail (mk _)
  ·exact tail (op _)
theorem nQ (he:iA c k O Y es ds) (ok:Ok c k A s) (x:bB c Z s.heap V O Y)
 (hs:∀V,(starEach es V).all (fun y=>!y.1)=true) (h:∀H s' Z',aD c s Z s' Z'→au Z' H ds→Q ⟨H,[]⟩ s'):wpAny c.M A (evalArgs f true (backTo pos (starEach es V)) []) Q E s:=by
 have hp:=he A V s Z pos ok x (fun H s'=>Q ⟨H,[]⟩ s') E h;have hs:=hs V;revert hp hs;rcases Ch:starEach es V with _|⟨y,r⟩
 ·intro hp _;unfold evalArgs;show wpAny c.M A (spliced []>>=_) Q E s;refine u8 (d8 hp (fun H s' h'=>?_) fun J J x=>x);refine u8 (On ?_);exact b4 (u8 (On (u8 (On (On h')))))
 ·obtain⟨b,t⟩:=y;intro hp hs;obtain _|_:=b
  ·exact yN hp
  ·simp at hs
end
end
section
set_option tactic.hygienic true
structure cB (s s':Shared):Prop where
 toks:s.toks≤s'.toks
 size:s.heap.objs.size≤s'.heap.objs.size
theorem cB.refl (s):cB s s:=⟨aI _,aI _⟩
theorem cB.trans (x:cB s s') (y:cB s' s''):cB s s'':=⟨Ev x.toks y.toks,Ev x.size y.size⟩
theorem cB.update (x:cB {s with heap:=s.heap.update a f} s'):cB s s':=⟨x.toks,by have:=x.size;rw[zN]at this;exact this⟩
theorem cB.push (x:cB {s with heap:=s.heap.push o} s'):cB s s':=⟨x.toks,by have:=x.size;rw[eX]at this;exact g9 this⟩
theorem cB.fresh (x:cB {s with toks:=s.toks+1} s'):cB s s':=⟨g9 x.toks,x.size⟩
theorem cB.same (x:cB s₁ s') (h:s₁.heap=s.heap) (t:s₁.toks=s.toks):cB s s':=⟨t▸x.toks,h▸x.size⟩
theorem OQ (h:Runs M Γ p t fs s e s'):cB s s':=by
 induction h
 all_goals first
  |exact cB.refl _
  |assumption
  |exact cB.update ‹_›
  |exact cB.push ‹_›
  |exact cB.fresh ‹_›
  |(rename_i ih;exact cB.same ih rfl rfl)
  |exact cB.trans ‹_› ‹_›
  |(rename_i h1 h2;exact cB.trans (cB.same h1 rfl rfl) (cB.same h2 rfl rfl))
theorem aer (h:Returns M Γ p s r s'):cB s s':=OQ h
theorem Ym (h:Wakes M Γ p g r s res s'):cB s s':=by
 unfold Wakes at h;split at h<;>(try split at h)<;>first|exact h.elim|(obtain⟨rfl,rfl⟩:=h;first|exact cB.refl _|exact cB.same (cB.refl _) rfl rfl)|(refine jJ h fun e s₁ hr J J s4=>?_;subst s4;exact cB.trans (cB.same (OQ hr) rfl rfl) (cB.same (cB.refl _) rfl rfl))
theorem aaL {α:Type} (t:Sem α) {Q:α→Pos→Shared→Prop} {E:Value→Pos→Shared→Prop}:
 ∀{p:Pos} {s:Shared},cB s₀ s→Sem.wp M Γ t (fun a c_ s'=>cB s₀ s'→Q a c_ s') E p s→Sem.wp M Γ t Q E p s:=by
 induction t with
 |pure a=>intro p s M2 h;exact h M2
 |raise e=>intro p s M2 h;exact h
 |unsupported|finish|yield|fork|await|register=>intro p s M2 h;exact h
 |rule _ k ih|«at» _ k ih|loadIfAlive _ k ih|point _ k ih|ask k ih|os _ _ k ih|handled _ k ih|newGen _ k ih|stack k ih|thread k ih=>intro p s M2 h;exact ih _ (M2.trans (cB.same (cB.refl _) rfl rfl)) h
 |alloc o k ih=>intro p s M2 h;exact ih _ (M2.trans (cB.push (cB.refl _))) h
 |fresh k ih=>intro p s M2 h;exact ih _ (M2.trans (cB.fresh (cB.refl _))) h
 |load a _ k ih|genState a k ih=>intro p s M2 h;refine wS h fun o xz h=>?_;exact⟨o,xz,ih _ M2 h⟩
 |update a _ f k ih=>intro p s M2 h;exact⟨h.1,ih _ (M2.trans (cB.update (cB.refl _))) h.2⟩
 |choose _ _ k ih=>intro p s M2 h;exact⟨h.1,ih _ (M2.trans (cB.same (cB.refl _) rfl rfl)) h.2⟩
 |call c h g l k ih=>intro p s M2 ⟨r,s',hr,h⟩;exact pB r s' hr (ih r (M2.trans (aer hr)) h)
 |resume g r l k ih=>intro p s M2 ⟨res,s',hw,h⟩;exact pB res s' hw (ih _ (M2.trans (Ym hw)) h)
theorem h_ {α:Type} {t:Sem α} {Q:α→Shared→Prop} {E:Value→Shared→Prop} (h:wpAny M A t (fun a s'=>cB s s'→Q a s') E s):wpAny M A t Q E s:=
 fun Γ p uu=>aaL t (cB.refl _) (h Γ p uu)
end
section
section
variable {c:ah} {k:Nat} {O:XV} {Y:B}
theorem kR (g:gk c s Z d Q) (top:c.H0.StaysIn s.heap) (sub:Sub Z s.heap) (h:aR Z v d):Q v s:=g v s Z (.refl top sub) h
theorem gV (g:gk c s Z d Q) (top:c.H0.StaysIn s.heap) (sub:Sub Z s.heap) (h:aR Z v d) (FS:s.toks≤t):Q v {s with toks:=t}:=
 g v _ Z ((aD.refl top sub).toks FS) h
theorem Rs.qH (hz:x.length+y.length≤1000000):Rs c k O Y (binaryOp .Add) (.str x) (.str y) (.str (x++y)):=by
 intro A V s Z bk bL ok r h₁ h₂ Q E g;have top:=r.top;have sub:=r.sub;refine h₁.s fun J=>?_;refine h₂.s fun J=>?_;exact h_ (add_str (fun t' tk FS=>gV g top sub (.str _ _) FS.toks) (by refine U cV ?_;exact Ev ‹_› (by decide)))
theorem Rs.eqStr:Rs c k O Y (compareOp .Eq) (.str x) (.str y) (.val (.bool (x==y))):=by
 intro A V s Z bk bL ok r h₁ h₂ Q E g;have top:=r.top;have sub:=r.sub;refine h₁.s fun J=>?_;refine h₂.s fun J=>?_;exact eq_str (kR g top sub (.val _))
theorem Rs.qj:Rs c k O Y (compareOp .NotEq) (.str x) (.str y) (.val (.bool (x !=y))):=by
 intro A V s Z bk bL ok r h₁ h₂ Q E g;have top:=r.top;have sub:=r.sub;refine h₁.s fun J=>?_;refine h₂.s fun J=>?_;exact ne_str (kR g top sub (.val _))
theorem Rs.addInt:Rs c k O Y (binaryOp .Add) (.int a) (.int b) (.int (a+b)):=by
 intro A V s Z bk bL ok r h₁ h₂ Q E g;have top:=r.top;have sub:=r.sub;refine h₁.i fun J=>?_;refine h₂.i fun J=>?_;exact add_int (gV g top sub (.int _ _) (b9 _))
theorem Rs.PF:Rs c k O Y (binaryOp .Sub) (.int a) (.int b) (.int (a-b)):=by
 intro A V s Z bk bL ok r h₁ h₂ Q E g;have top:=r.top;have sub:=r.sub;refine h₁.i fun J=>?_;refine h₂.i fun J=>?_;exact sub_int (gV g top sub (.int _ _) (b9 _))
theorem Rs.RQ (hm:IntMulOk a b):Rs c k O Y (binaryOp .Mult) (.int a) (.int b) (.int (a*b)):=by
 intro A V s Z bk bL ok r h₁ h₂ Q E g;have top:=r.top;have sub:=r.sub;refine h₁.i fun J=>?_;refine h₂.i fun J=>?_;exact mul_int (gV g top sub (.int _ _) (b9 _)) hm
theorem Rs.uN (hb:b≠0):Rs c k O Y (binaryOp .Mod) (.int a) (.int b) (.int (a.fmod b)):=by
 intro A V s Z bk bL ok r h₁ h₂ Q E g;have top:=r.top;have sub:=r.sub;refine h₁.i fun J=>?_;refine h₂.i fun J=>?_;exact mod_int' hb (gV g top sub (.int _ _) (b9 _))
theorem Rs.divInt (hb:b≠0) (hp:Builtin.divisionGoesByPylong a b=false):Rs c k O Y (binaryOp .FloorDiv) (.int a) (.int b) (.int (a.fdiv b)):=by
 intro A V s Z bk bL ok r h₁ h₂ Q E g;have top:=r.top;have sub:=r.sub;refine h₁.i fun J=>?_;refine h₂.i fun J=>?_;exact floordiv_int hb (gV g top sub (.int _ _) (b9 _)) (.inl hp)
theorem Rs.PU:Rs c k O Y (compareOp .Eq) (.int a) (.int b) (.val (.bool (a==b))):=by
 intro A V s Z bk bL ok r h₁ h₂ Q E g;have top:=r.top;have sub:=r.sub;refine h₁.i fun J=>?_;refine h₂.i fun J=>?_;exact eq_int (kR g top sub (.val _))
theorem Rs.adH:Rs c k O Y (compareOp .NotEq) (.int a) (.int b) (.val (.bool (a !=b))):=by
 intro A V s Z bk bL ok r h₁ h₂ Q E g;have top:=r.top;have sub:=r.sub;refine h₁.i fun J=>?_;refine h₂.i fun J=>?_;exact ne_int (kR g top sub (.val _))
theorem Rs.TH:Rs c k O Y (compareOp .Lt) (.int a) (.int b) (.val (.bool (decide (a<b)))):=by
 intro A V s Z bk bL ok r h₁ h₂ Q E g;have top:=r.top;have sub:=r.sub;refine h₁.i fun J=>?_;refine h₂.i fun J=>?_;exact lt_int (kR g top sub (.val _))
theorem dB.bool:dB c k O Y (.val (.bool b)) b:=by
 intro A V s Z v ok r h Q E g;have top:=r.top;have sub:=r.sub;exact h.v (yE (g s Z (.refl top sub)))
theorem dB.none:dB c k O Y (.val .none) false:=by
 intro A V s Z v ok r h Q E g;have top:=r.top;have sub:=r.sub;exact h.v (truthy_none (g s Z (.refl top sub)))
theorem dB.str (hz:x.length≤1000000):dB c k O Y (.str x) (x.length !=0):=by
 intro A V s Z v ok r h Q E g;have top:=r.top;have sub:=r.sub;refine h.s fun J=>?_;refine PySem.P.truthy_str (Int.not_le.2 (qv ‹_›)) ?_;have e:((x.length:Int) !=0)=(x.length !=0):=by
  rw[qb];simp
 exact U e (g _ Z ((aD.refl top sub).toks (bX _ 2)))
theorem dB.list (hz:l.length≤1000000):dB c k O Y (.list l) (!l.isEmpty):=by
 intro A V s Z v ok r h Q E g;have top:=r.top;have sub:=r.sub;refine jJ (aaQ sub h) fun a H s4 hl FS J=>?_;subst s4;have e:(!H.toArray.isEmpty)=(!l.isEmpty):=by
  have h1:=FS.length;cases H<;>cases l<;>simp_all
 refine Jq hl (by refine U jL (U FS.length ?_);exact qv ‹_›) ?_;exact U e (g _ Z ((aD.refl top sub).toks (bX _ 2)))
end
end
section
noncomputable def b8 (c:ah) (k:Nat) (O:XV) (Y:B) (f:Value) (ds:List D) (d:D):Prop:=
 ∀(A:Around) (V:Env) (s:Shared) (Z:TW) (H:List Value),Ok c k A s→bB c Z s.heap V O Y→au Z H ds→∀(Q E:Value→Shared→Prop),gk c s Z d Q→wpAny c.M A (call f H) Q E s
theorem cu.r (h:cu c k f ds d):b8 c k O Y f ds d:=fun A V s Z H ok r t Q E g=>h A s Z H ok r.top r.sub t Q E g
theorem cu.less (h:cu c k f ds d) (hk:k≤k'):cu c k' f ds d:=fun A s Z H ok=>h A s Z H (ok.less hk)
noncomputable def kL (c:ah) (O:XV) (Y:B) (d:D) (T:String):Prop:=
 ∀(s:Shared) (V:Env) (Z:TW) (v:Value),bB c Z s.heap V O Y→aR Z v d→s.TypeIs v T∧∀a,v= .ref a→∃o,s.heap.get? a=some o∧o.dict=none
section
variable {c:ah} {k:Nat} {O:XV} {Y:B}
theorem kL.str:kL c O Y (.str x) "str" :=fun s V Z v r h=>by
 refine h.s fun J=>?_;exact⟨vB _ _ _,fun J e=>(by injection e)⟩
theorem f8.call (hf:f8 c k O Y (.Name n p) (.val f)) (cl:qs c f) (ha:iA c k O Y args ds) (hc:b8 c k O Y f ds d)
 (hs:∀V,(starEach args V).all (fun y=>!y.1)=true:=by intro;rfl):f8 c k O Y (.Call (.Name n p) args [] pos) d:=by
 intro A V s Z ok r Q E g;refine rN (hf A V s Z ok r _ E fun v s₁ aB EQ s5=>?_);refine s5.v ?_;show wpAny c.M A (callWith pos f [] (backTo pos (starEach args V)) []) Q E s₁;refine l6 cl (nQ ha (ok.step EQ) (r.step EQ) hs fun H s₂ bA t₂ bf=>⟨t₂.top,?_⟩);exact hc A V s₂ bA H ((ok.step EQ).step t₂) ((r.step EQ).step t₂) bf Q E ((gk.of (c:=c) g EQ).of t₂)
theorem f8.nq {o:Expr} {name:Str} {c9 pos:Pos} {args:List Expr} {ds:List D} {d₀ d:D} {T id:String} (xz:f8 c k O Y o d₀) (hT:kL c O Y d₀ T) (jP:PlainAttrs T) (slot:Slot T name id)
 (Ak:typeOf (.builtin id)=pure (.type "method_descriptor")) (ha:iA c k O Y args ds) (hc:b8 c k O Y (.builtin id) (d₀::ds) d)
 (fO:∀V,attributeBase o name V (eval o V)=eval o V:=by intro;rfl)
 (hs:∀V,(starEach args V).all (fun y=>!y.1)=true:=by intro;rfl)
 (ua:∀V,((backTo pos (starEach args V)).all (fun x=>!x.1)&&(backToKw pos (keywordEach [] V)).all (fun x=>x.1.isSome)
  &&decide (args.length+([]:List Keyword).length+(if([]:List Keyword).isEmpty then 0 else 1)<30))=true:=by intro;rfl)
 (f6:(c9.endLine==pos.line)=true:=by rfl):f8 c k O Y (.Call (.Attribute o name c9) args [] pos) d:=by
 intro A V s Z ok r Q E g;refine zK (fO V) (ua V) f6 (xz A V s Z ok r _ E fun v s₁ aB EQ s5=>?_);refine Op (hT s₁ V aB v (r.step EQ) s5) fun h1 h2=>?_;refine yw T id jP slot Ak h1 h2 ?_;refine l6 (c:=c) (f:=.builtin id) (first:=[v]) (.inl fun a e=>(by injection e)) (nQ ha (ok.step EQ) (r.step EQ) hs fun H s₂ bA t₂ bf=>⟨t₂.top,?_⟩);exact hc A V s₂ bA (v::H) ((ok.step EQ).step t₂) ((r.step EQ).step t₂) (.cons (s5.mono t₂.le) bf) Q E ((gk.of (c:=c) g EQ).of t₂)
theorem iN (h:au Z H [d]):∃v,H=[v]∧aR Z v d:=by
 refine h.c fun h₁ h=>?_;refine h.n ?_;exact⟨_,rfl,h₁⟩
theorem nA (h:au Z H [d₁,d₂]):∃bk bL,H=[bk,bL]∧aR Z bk d₁∧aR Z bL d₂:=by
 refine h.c fun h₁ h=>?_;refine wS (iN h) fun v s4 h₂=>?_;subst s4;exact sR _ _ rfl h₁ h₂
theorem cu.startswith:cu c k (.builtin "str.startswith") [.str x,.str y] (.val (.bool (Txt.startswith x y))):=by
 intro A s Z H ok top sub h Q E g;refine fJ (nA h) fun J J s4 h₁ h₂=>?_;subst s4;refine h₁.s fun J=>?_;refine h₂.s fun J=>?_;exact SC.startswith (kR g top sub (.val _))
theorem f8.startswith (xz:f8 c k O Y o (.str x)) (he:f8 c k O Y e (.str y))
 (fO:∀V,attributeBase o "startswith" V (eval o V)=eval o V:=by intro;rfl) (hs:∀V,starEach [e] V=[(false,eval e V)]:=by intro;rfl)
 (f6:(c9.endLine==pos.line)=true:=by rfl):f8 c k O Y (.Call (.Attribute o "startswith" c9) [e] [] pos) (.val (.bool (Txt.startswith x y))):=
 f8.nq xz .str Bu F.slot_str_startswith F.type_str_startswith (.cons he .nil hs) cu.startswith.r fO (fun V=>by rw[hs];rfl) (fun V=>by rw[hs];rfl) f6
end
end
section
section
variable {M:Model} {A:Around} {E:Value→Shared→Prop} {s:Shared}
theorem Vn (Γ) (p) {m} (M2:s.heap.Ns a m) (name) (v) (Q:Unit→Pos→Shared→Prop) (E:Value→Pos→Shared→Prop)
 (qF:∀h',h'.Ns a (fun x=>if x=name then some v else m x)→Heap.SameBut a s.heap h'→(∀o,s.heap.get? a=some o→∃o',h'.get? a=some o'∧o'.cls=o.cls)→
  Q () p {s with heap:=h',toks:=s.toks+1}):Sem.wp M Γ (nsSet a name v) Q E p s:=by
 refine t_ M2 fun o es ep xz hd hk hm=>?_;simp only[nsSet,strHash,Sem.wp_bind',Sem.wp_cmd_ask,Sem.wp_pure',Sem.wp_cmd_mkText];rw[Sem.wp_loadPart_of M Γ E p {s with toks:=s.toks+1} (o:=o) _ xz];have za:es.any (fun x=>x.refKey)=false:=by
  rw[Array.any_eq_false'];intro e he;refine fL (hk e he) fun n t h=>?_;simp[DictEntry.refKey,h]
 simp only[hd,aRefKeyMayBeTheName_eq,aRefKeyMayBeTheNameByArray,za,HC,j3,jA,Sem.wp_cmd_updatePart];refine⟨by refine U xz ?_;rfl,qF _ ?_ (nh ..) ?_⟩
 ·obtain⟨c,d,Zj,bV⟩:=o;subst hd;rcases hi:es.findIdx? (fun x=>x.key.isStr name)with _|i
  ·refine I8 _ _ (ep+1) (kZ _ xz (by simp only[sM,Obj.putNameByArray,hi];rfl)) (by simp only[sM,Obj.putNameByArray,hi];rfl) (hk.push _ _ _ _) (fun x=>?_);show _=if x=name then some v else m x
   rw[←hm];exact findBy_push (fun n v=>v.isStr n) es name x _ _ v (fun y=>by
    show(name==y)=decide (y=name);by_cases h:y=name
    ·subst h;simp
    ·have:¬name=y:=fun e=>h e.symm;simp[h,this]) hi
  ·refine I8 _ _ ep (kZ _ xz (by simp only[sM,Obj.putNameByArray,hi];rfl)) (by simp only[sM,Obj.putNameByArray,hi];rfl) (hk.modify _ _) (fun x=>?_);show _=if x=name then some v else m x
   rw[←hm];exact findBy_modify (fun n v=>v.isStr n) Value.isStr_inj es name x v i hi
 ·intro o' bK;rw[xz]at bK;obtain rfl:=bh bK;obtain⟨c,d,Zj,bV⟩:=o;subst hd;rcases hi:es.findIdx? (fun x=>x.key.isStr name)with _|i
  ·exact⟨_,kZ _ xz (by simp only[sM,Obj.putNameByArray,hi];rfl),by simp only[sM,Obj.putNameByArray,hi]⟩
  ·exact⟨_,kZ _ xz (by simp only[sM,Obj.putNameByArray,hi];rfl),by simp only[sM,Obj.putNameByArray,hi]⟩
theorem Qp {m} (hl:V.kindOf name=some .local)
 (M2:s.heap.Ns V.locals m)
 (h:∀h',h'.Ns V.locals (fun x=>if x=name then some v else m x)→Heap.SameBut V.locals s.heap h'→(∀o,s.heap.get? V.locals=some o→∃o',h'.get? V.locals=some o'∧o'.cls=o.cls)→
  Q () {s with heap:=h',toks:=s.toks+1})
 (hp:(V.scope.kind== .class||(V.scope.kind== .module&&V.locals !=V.globals))=false:=by rfl):wpAny M A (storeName V name v) Q E s:=by
 rw[storeName_local hl hp];exact fun Γ p J=>Vn Γ p M2 name v _ _ h
end
structure vd (s₀:Shared) (L:Addr) (m:Str→Option Value) (cs:List (Str×Addr)) (oN:Str→Option Value) (s:Shared):Prop where
 to:InCallC s₀ L m cs oN s
 fr:∃o,s.heap.get? L=some o∧o.cls= .type "frame"
section
variable {M:Model} {A:Around} {E:Value→Shared→Prop} {s₀ s:Shared} {m oN:Str→Option Value} {V:Env}
theorem VS (y:vd s₀ V.locals m V.cells oN s) (hk:V.scope.kind= .function) (hl:V.kindOf n=some .local)
 (h:∀s',vd s₀ V.locals (fun y=>if y=n then some v else m y) V.cells oN s'→Q () s'):wpAny M A (storeName V n v) Q E s:=by
 obtain⟨x,o,xz,hc⟩:=y;refine Qp hl x.toInCall.ns (fun h' g7 dc eT=>h _ ⟨⟨⟨?_,g7,fun b o e=>?_,x.toInCall.fresh⟩,fun k c hc=>?_,x.apart,x.above⟩,?_⟩) (by refine U hk ?_;rfl)
 ·refine fL (x.toInCall.same) fun h₁ tk s4=>?_;subst s4;exact⟨h',_,rfl⟩
 ·exact dc.extBut b o (fE (fU (cJ e) x.toInCall.fresh)) (x.toInCall.keep b o e)
 ·exact(x.cell k c hc).sameBut dc (iE (x.above k c (mem_of_lookup hc)))
 ·refine wS (eT o xz) fun o' e' q=>?_;exact⟨o',e',q.trans hc⟩
theorem UI (y:vd s₀ V.locals m V.cells oN s) (hk:V.scope.kind= .function) (hl:V.kindOf n=some .cell)
 (hc:V.cells.lookup n=some c)
 (h:∀s',vd s₀ V.locals m V.cells (fun y=>if y=n then some v else oN y) s'→Q () s'):wpAny M A (storeName V n v) Q E s:=by
 obtain⟨x,o,xz,eT⟩:=y;have xo:=x.above n c (mem_of_lookup hc);refine wpAny_storeName_cell hk hl hc (x.cell n c hc) fun h' jf dc=>h _ ⟨⟨⟨?_,x.toInCall.ns.sameBut dc (fE xo),fun b o e=>?_,x.toInCall.fresh⟩,fun k n7 hk'=>?_,x.apart,x.above⟩,⟨o,(dc.2 _ (fE xo)).trans xz,eT⟩⟩
 ·refine fL (x.toInCall.same) fun h₁ tk s4=>?_;subst s4;exact⟨h',_,rfl⟩
 ·exact dc.extBut b o (fE (Nat.lt_trans (fU (cJ e) x.toInCall.fresh) xo)) (x.toInCall.keep b o e)
 ·by_cases GB:k=n
  ·subst GB;rw[hc]at hk';obtain rfl:=bh hk';simpa using jf
  ·exact U (Tk GB) ((x.cell k n7 hk').sameBut dc fun e=>GB (CX x.apart (mem_of_lookup hk') (e▸mem_of_lookup hc)))
theorem JI (f:Str×Value→PUnit→Sem (ForInStep PUnit)) (hf:∀n v u,f (n,v) u=(do storeName V n v;pure (.yield ⟨⟩))) (hk:V.scope.kind= .function):
 ∀(binds) (m oN:Str→Option Value) (s) (Q:PUnit→Shared→Prop),vd s₀ V.locals m V.cells oN s→
  (∀x∈binds,V.kindOf x.1=some .local∨(V.kindOf x.1=some .cell∧(V.cells.lookup x.1).isSome=true))→
  (∀s',vd s₀ V.locals (bindL V.kindOf binds m) V.cells (bindC V.kindOf binds oN) s'→Q ⟨⟩ s')→wpAny M A (forIn binds ⟨⟩ f) Q E s
 |[],m,oN,s,Q,x,_,h=>by refine U BW ?_;exact On (h s x)
 |(n,v)::r,m,oN,s,Q,x,vJ,h=>by
  rw[pI,hf];have hr:∀y∈r,V.kindOf y.1=some .local∨(V.kindOf y.1=some .cell∧(V.cells.lookup y.1).isSome=true):=fun y No=>vJ y (List.mem_cons_of_mem _ No);obtain hl|⟨hl,hc⟩:=vJ (n,v) CQ
  ·refine u8 (u8 (VS x hk hl fun s' mG=>On (JI f hf hk r _ _ s' Q mG hr fun s'' Ft=>h s'' ?_)));rw[DB,B5];refine U (ak hl) (U (ak hl) ?_);exact Ft
  ·obtain⟨c,hc⟩:=xO.mp hc;have hnl:¬V.kindOf n=some .local:=by refine U hl ?_;decide
   refine u8 (u8 (UI x hk hl hc fun s' mG=>On (JI f hf hk r _ _ s' Q mG hr fun s'' Ft=>h s'' ?_)));rw[DB,B5];refine U (Tk hnl) (U (Tk hnl) ?_);exact Ft
theorem Pu {scope:Scope} {globals:Addr} {binds:List (Str×Value)} {qual:Str} {func:Option Addr} {code:Value} {builtins:Addr} {Q:Env→Shared→Prop}
 (hk:scope.kind= .function)
 (vJ:∀x∈binds,scope.names.lookup x.1=some .local∨(scope.names.lookup x.1=some .cell∧((cellsFrom (s.heap.objs.size+1) scope.names []).lookup x.1).isSome=true))
 (qF:∀V,V=newEnv scope s.heap.objs.size globals (cellsFrom (s.heap.objs.size+1) scope.names []) qual func code none builtins→
  ∀s',vd s V.locals (bindL V.kindOf binds fun J=>none) V.cells (bindC V.kindOf binds fun J=>none) s'→Q V s'):
 wpAny M A (newFunctionEnv scope globals [] binds qual func code none builtins) Q E s:=by
 simp only[newFunctionEnv,Option.isSome_none,j3,jA];refine u8 (wpAny_alloc ?_);refine u8 (wpAny_layCells _ (fun name kind cells=>by cases H7:kind==NameKind.cell<;>simp[H7]) _ _ _ _ ?_);have ok:=cellsFrom_ok scope.names (s.heap.push {cls:=.type "frame",data:=.dict #[]}) (s.heap.objs.size+1) [] ⟨fun J J hm=>(nomatch hm),List.Pairwise.nil⟩ (by rw[eX];exact aI _);rw[eX]at ok;refine U (show({s with heap:=s.heap.push {cls:=.type "frame",data:=.dict #[]}}:Shared).heap.objs.size=s.heap.objs.size+1 from eX ..) ?_;refine u8 (JI (s₀:=s) (V:=newEnv scope s.heap.objs.size globals (cellsFrom (s.heap.objs.size+1) scope.names []) qual func code none builtins)
  _ (fun J J J=>rfl) hk binds (fun J=>none) (fun J=>none) _ _
  ⟨⟨⟨⟨_,_,rfl⟩,(Heap.Ns.new s.heap (.type "frame")).keeps (wu _ _),fun b o e=>wu _ _ b o (bY _ e),aI _⟩,
   fun n c hc=>(ok.empty n c (mem_of_lookup hc)).1,ok.apart,fun n c hm=>(ok.empty n c hm).2⟩,⟨_,wu _ _ _ _ (d7 _ rfl),rfl⟩⟩
  vJ fun s' x=>On (qF _ rfl s' x))
end
end
@[elab_as_elim] theorem bD {α:Type _} {a b:α} {l:List α} {P:α→Prop} (h:a∈b::l) (k:P b) (k':a∈l→P a):P a:=by
 obtain rfl|h:=a_.mp h
 ·exact k
 ·exact k' h
theorem r4 {α:Type _} {a b:α} {l:List α} {P:Prop} (h:a∈b::l) (k:a=b→P) (k':a∈l→P):P:=(a_.mp h).elim k k'
theorem jg {α:Type} {P:List α→Prop} (h:∀a,P [a]) (H:List α) (e:H.length=1):P H:=by
 obtain _|⟨a,_|⟨b,r⟩⟩:=H
 ·injection e
 ·exact h a
 ·injection e with e;exact absurd e (Nat.succ_ne_zero r.length)
theorem sD {α:Type} {P:List α→Prop} (h:∀a b,P [a,b]) (H:List α) (e:H.length=2):P H:=by
 obtain _|⟨a,r⟩:=H
 ·injection e
 ·injection e with e;exact jg (P:=fun r=>P (a::r)) (h a) r e
theorem Km {α:Type} {P:List α→Prop} (h:∀a b d,P [a,b,d]) (H:List α) (e:H.length=3):P H:=by
 obtain _|⟨a,r⟩:=H
 ·injection e
 ·injection e with e;exact sD (P:=fun r=>P (a::r)) (h a) r e
theorem acf {α:Type} {P:List α→Prop} (h:∀a b d e,P [a,b,d,e]) (H:List α) (e:H.length=4):P H:=by
 obtain _|⟨a,r⟩:=H
 ·injection e
 ·injection e with e;exact Km (P:=fun r=>P (a::r)) (h a) r e
section
structure kO (s s':Shared):Prop where
 frames:∀b o,s.heap.get? b=some o→kc o→∃o',s'.heap.get? b=some o'∧kc o'
 size:s.heap.objs.size≤s'.heap.objs.size
 tok:s.toks≤s'.toks
 rest:∃h t,s'={s with heap:=h,toks:=t}
theorem kO.refl (s):kO s s:=⟨fun J o e h=>⟨o,e,h⟩,aI _,aI _,⟨_,_,rfl⟩⟩
theorem kO.trans (x:kO s s') (y:kO s' s''):kO s s'':=by
 refine⟨fun b o e h=>wS (x.frames b o e h) fun o' e' h'=>y.frames b o' e' h',Ev x.size y.size,Ev x.tok y.tok,?_⟩;refine fL (x.rest) fun h t s4=>?_;subst s4;refine fL (y.rest) fun h' t' s4=>?_;subst s4;exact⟨h',t',rfl⟩
theorem aD.af (x:aD c s Z s' Z'):kO s s':=
 ⟨fun b o e h=>wS (x.grow.2 b o e) fun o' e' q=>⟨o',e',q.Ci h⟩,x.grow.1,x.tok,x.rest⟩
theorem TZ (x:kO s s') (h:BH s.heap l):BH s'.heap l:=fun b hb=>wS (h b hb) fun o e i=>x.frames b o e i
theorem LU (x:kO s s'):∀{l:List Env},BH s.heap l→s.heap.FunFrames base l→s'.heap.FunFrames base l
 |[],_,_=>trivial
 |V::l,f,⟨hk,⟨L,o,hf,M2,xz,hd⟩,hr⟩=>by
  have f1:∃o,s.heap.get? L=some o∧kc o:=f L (by refine U CW (U hf ?_);exact .head _);refine wS f1 fun bU e1 i1=>?_;refine wS (x.frames L bU e1 i1) fun o' e' h'=>?_;exact⟨hk,⟨L,o',hf,M2,e',h'.qP⟩,LU x (fun b hb=>f b (by refine U CW (U hf ?_);exact .tail _ hb)) hr⟩
theorem Ok.af (x:Ok c k A s) (m:kO s s'):Ok c k A s':=
 ⟨x.depth,x.units,d9 x.frames fun l a b d lk=>⟨l,a,LU m d b,TZ m d,lk⟩,fU x.tok m.tok,x.hand⟩
structure bx (c:ah) (bs Z:TW) (h:Heap) (V:Env) (O:XV) (Y:B):Prop where
 rd:bB c Z h V O Y
 keep:∀a o,bs a=some o→∃o',h.get? a=some o'∧i8 o o'
 names:(O.map (fun x=>x.name)).Nodup
 ns:∃m,h.Ns V.locals m
 iK:bs V.locals=none∧Z V.locals=none∧c.H0.get? V.locals=none
 locs:∀v∈O,v.kind= .loc→V.kindOf v.name=some .local
 kK:∀v∈O,v.kind= .aM→V.kindOf v.name=some .cell∧∃a x,V.cells.lookup v.name=some a∧h.IsCell a x∧bs a=none∧Z a=none∧c.H0.get? a=none∧a≠V.locals
 apart:∀v∈O,∀v'∈O,v.kind= .aM→v'.kind= .aM→v.name≠v'.name→V.cells.lookup v.name≠V.cells.lookup v'.name
 caps:∀v∈O,v.kind= .gC→∃a o x,V.cells.lookup v.name=some a∧bs a=some o∧o.data= .cell x
 mem:∀a,Y a≠none→bs a=none
theorem aO.AX (t:aO c Y s Z I s' Z') (ha:Z a=none) (hm:Y a=none) (hl:a<s.heap.objs.size):Z' a=none:=by
 induction q:Z' a with
 |none=>rfl
 |some o=>
  obtain e|e|e:=t.ext a o q
  ·rw[ha]at e;injection e
  ·exact absurd hm e
  ·exact absurd hl (eL.mpr e)
theorem bx.lt (w:bx c bs Z h V O Y) (e:bs b=some kr):b<h.objs.size:=wS (w.keep b kr e) fun J e' J=>cJ e'
theorem bx.QS (w:bx c bs Z h V O Y) (e:bs b=some kr):Y b=none:=by
 induction q:Y b with
 |none=>rfl
 |some cl=>have:=w.mem b (by refine U q ?_;simp);rw[this]at e;injection e
theorem bx.after (x:bx c bs Z s.heap V O Y) (t:aO c Y s Z I s' Z'):bx c bs Z' s'.heap V O I:=by
 refine⟨x.rd.after t,fun a o e=>?_,x.names,?_,⟨x.iK.1,?_,x.iK.2.2⟩,x.locs,fun v s5 hk=>?_,x.apart,x.caps,fun a ha=>?_⟩
 ·refine wS (x.keep a o e) fun o' e' q=>?_;refine wS (t.keep a o' (x.QS e) e') fun pM yZ q'=>?_;exact⟨pM,yZ,q.trans q'⟩
 ·refine aP (x.ns) fun m h=>?_;exact⟨m,t.ns x.rd.own.1.1 h⟩
 ·exact t.AX x.iK.2.1 x.rd.own.1.1 x.rd.own.1.2
 ·refine Op (x.kK v s5 hk) fun h1 SK=>xw SK fun a y h2 h3 h4 h5 h6=>?_;have o:=x.rd.own.2 _ _ h2;exact⟨h1,a,y,h2,t.cell o.1 h3,h4,t.AX h5 o.1 o.2,h6⟩
 ·obtain h|h:=t.jz a ha
  ·exact x.mem a h
  ·induction q:bs a with
   |none=>rfl
   |some o=>exact absurd (x.lt q) (eL.mpr h)
theorem bx.step (x:bx c base Z s.heap V O Y) (t:aD c s Z s' Z'):bx c base Z' s'.heap V O Y:=x.after (t.after x.rd)
theorem bx.re (x:bx c bs Z h V O Y):bx (c.re hd T) bs Z h V O Y:=⟨x.rd.re,x.keep,x.names,x.ns,x.iK,x.locs,x.kK,x.apart,x.caps,x.mem⟩
theorem bx.nv (x:bx (c.re hd T) bs Z h V O Y):bx c bs Z h V O Y:=⟨x.rd.nv,x.keep,x.names,x.ns,x.iK,x.locs,x.kK,x.apart,x.caps,x.mem⟩
structure e8 (Y:B) (s:Shared) (Z:TW) (I:B) (s':Shared) (Z':TW):Prop where
 af:kO s s'
 le:fS Z Z'
 ext:∀a o,Z' a=some o→Z a=some o∨Y a≠none∨s.heap.objs.size≤a
 jz:∀a,I a≠none→Y a≠none∨s.heap.objs.size≤a
theorem e8.refl (Y) (s) (Z):e8 Y s Z Y s Z:=⟨.refl s,.refl Z,fun J J h=>.inl h,fun J h=>.inl h⟩
theorem e8.trans (x:e8 Y s Z I s' Z') (y:e8 I s' Z' gW s'' eU):e8 Y s Z gW s'' eU:=by
 refine⟨x.af.trans y.af,x.le.trans y.le,fun a o e=>?_,fun a h=>?_⟩
 ·obtain h|h|h:=y.ext a o e
  ·exact x.ext a o h
  ·exact .inr (x.jz a h)
  ·exact .inr (.inr (Ev x.af.size h))
 ·obtain h|h:=y.jz a h
  ·exact x.jz a h
  ·exact .inr (Ev x.af.size h)
theorem aO.af (t:aO c Y s Z I s' Z'):kO s s':=⟨t.fields,t.size,t.tok,t.rest⟩
theorem aO.run (t:aO c Y s Z I s' Z'):e8 Y s Z I s' Z':=⟨t.af,t.le,t.ext,t.jz⟩
theorem aD.run (x:aD c s Z s' Z') (Y):e8 Y s Z Y s' Z':=⟨x.af,x.le,fun a o e=>(x.ext.2 a o e).imp id .inr,fun J h=>.inl h⟩
theorem e8.AX (t:e8 Y s Z I s' Z') (ha:Z a=none) (hm:Y a=none) (hl:a<s.heap.objs.size):Z' a=none:=by
 induction q:Z' a with
 |none=>rfl
 |some o=>
  obtain e|e|e:=t.ext a o q
  ·rw[ha]at e;injection e
  ·exact absurd hm e
  ·exact absurd hl (eL.mpr e)
theorem Ok.after (x:Ok c k A s) (t:aO c Y s Z I s' Z'):Ok c k A s':=x.af t.af
inductive fD where
 |next (O:XV) (Y:B)
 |brk (O:XV) (Y:B)
 |cont (O:XV) (Y:B)
 |ret (d:D) (O:XV) (Y:B)
noncomputable def fD.O:fD→XV
 | .next O _| .brk O _| .cont O _| .ret _ O _=>O
noncomputable def fD.Y:fD→B
 | .next _ Y| .brk _ Y| .cont _ Y| .ret _ _ Y=>Y
inductive Aq (Z:TW):Flow→fD→Prop
 |next {O:XV} {Y:B}:Aq Z .next (.next O Y)
 |brk {O:XV} {Y:B}:Aq Z .brk (.brk O Y)
 |cont {O:XV} {Y:B}:Aq Z .cont (.cont O Y)
 |ret {v:Value} {d:D} {O:XV} {Y:B}:aR Z v d→Aq Z (.ret v) (.ret d O Y)
noncomputable abbrev n5 (c:ah) (base:TW) (V:Env) (Y:B) (s:Shared) (Z:TW) (Sc:fD→Prop) (Q:Flow→Shared→Prop):Prop:=
 ∀o f s' Z',e8 Y s Z o.Y s' Z'→bx c base Z' s'.heap V o.O o.Y→Aq Z' f o→Sc o→Q f s'
theorem n5.of (x:n5 c base V Y s Z Sc Q) (m:e8 Y s Z gA s₁ aB):n5 c base V gA s₁ aB Sc Q:=
 fun o f s' Z' m' w dG h=>x o f s' Z' (m.trans m') w dG h
noncomputable def aF (c:ah) (k:Nat) (O:XV) (Y:B) (e:Expr) (Sc:D→B→Prop):Prop:=
 ∀(A:Around) (V:Env) (s:Shared) (Z:TW),Ok c k A s→bB c Z s.heap V O Y→∀(Q:Value→Shared→Prop) (E:Value→Shared→Prop),
  (∀d I v s' Z',aO c Y s Z I s' Z'→aR Z' v d→Sc d I→Q v s')→wpAny c.M A (eval e V) Q E s
theorem aF.nt (h:f8 c k O Y e d) (Ch:Sc d Y):aF c k O Y e Sc:=
 fun A V s Z ok r Q E q=>h A V s Z ok r Q E fun v s' Z' t s5=>q d Y v s' Z' (t.after r) s5 Ch
noncomputable def FM (c:ah) (k:Nat) (O:XV) (Y:B) (st:Stmt) (Sc:fD→Prop):Prop:=
 ∀(A:Around) (V:Env) (s:Shared) (base Z:TW),Ok c k A s→bx c base Z s.heap V O Y→∀(Q:Flow→Shared→Prop) (E:Value→Shared→Prop),n5 c base V Y s Z Sc Q→wpAny c.M A (exec st V) Q E s
noncomputable def wE (c:ah) (k:Nat) (O:XV) (Y:B) (JR:List Stmt) (Sc:fD→Prop):Prop:=
 ∀(A:Around) (V:Env) (s:Shared) (base Z:TW),Ok c k A s→bx c base Z s.heap V O Y→∀(Q:Flow→Shared→Prop) (E:Value→Shared→Prop),n5 c base V Y s Z Sc Q→wpAny c.M A (execs JR V) Q E s
noncomputable abbrev Zo (c:ah) (k:Nat) (rest:List Stmt) (Sc:fD→Prop):fD→Prop
 | .next O Y=>wE c k O Y rest Sc
 | .brk O Y=>Sc (.brk O Y)
 | .cont O Y=>Sc (.cont O Y)
 | .ret d O Y=>Sc (.ret d O Y)
noncomputable abbrev G7 (F:D→B→Prop):fD→Prop
 | .ret d _ Y=>F d Y
 | .next _ Y=>F (.val .none) Y
 |_=>False
noncomputable abbrev p7 (x:D):fD→Prop
 | .ret d _ _=>d=x
 | .next _ _=>x= .val .none
 |_=>False
noncomputable abbrev vg (F:D→B→Prop):fD→Prop
 | .ret d _ Y=>F d Y
 |_=>False
noncomputable abbrev ZC (bu:XV→B→Prop):fD→Prop
 | .next O Y=>bu O Y
 |_=>False
noncomputable abbrev F7 (bu:XV→B→Prop) (Sc:fD→Prop):fD→Prop
 | .next O Y=>bu O Y
 | .ret d O Y=>Sc (.ret d O Y)
 |_=>False
noncomputable abbrev FD (bu:XV→B→Prop) (Sc:fD→Prop):fD→Prop
 | .next O Y=>bu O Y
 | .cont O Y=>bu O Y
 | .brk O Y=>Sc (.next O Y)
 | .ret d O Y=>Sc (.ret d O Y)
section
variable {c:ah} {k:Nat} {O:XV} {Y:B} {Sc:fD→Prop}
theorem wE.nil (h:Sc (.next O Y)):wE c k O Y [] Sc:=fun A V s base Z ok w Q E q=>wpAny_execs_nil (q (.next O Y) .next s Z (.refl ..) w .next h)
theorem wE.cons {st:Stmt} {rest:List Stmt} (h:FM c k O Y st (Zo c k rest Sc)):wE c k O Y (st::rest) Sc:=by
 intro A V s base Z ok w Q E q;refine Dw (h A V s base Z ok w _ E fun o f s' Z' m cU dG xz=>?_)
 induction dG with
 |next=>exact xz A V s' base Z' (ok.af m.af) cU Q E (n5.of (c:=c) q m)
 |brk=>exact q _ _ s' Z' m cU .brk xz
 |cont=>exact q _ _ s' Z' m cU .cont xz
 |ret t=>exact q _ _ s' Z' m cU (.ret t) xz
theorem FM.Hv (he:aF c k O Y e fun d I=>Sc (.ret d O I)):FM c k O Y (.Return (some e) pos) Sc:=by
 intro A V s base Z ok w Q E q;exact Il (he A V s Z ok w.rd _ E fun d I v s' Z' t s5 h=>q (.ret d O I) _ s' Z' t.run (w.after t) (.ret s5) h)
theorem FM.ret (he:f8 c k O Y e d) (h:Sc (.ret d O Y)):FM c k O Y (.Return (some e) pos) Sc:=by
 exact FM.Hv (.nt he h)
theorem FM.ifs (FS:az c k O Y e b) (No:b=true→wE c k O Y t9 Sc) (M2:b=false→wE c k O Y uX Sc):FM c k O Y (.If e t9 uX pos) Sc:=by
 intro A V s base Z ok w Q E q;refine wpAny_If (FS A V s Z ok w.rd _ E fun s' Z' t=>?_)
 induction b with
 |true=>exact No rfl A V s' base Z' (ok.step t) (w.step t) Q E (n5.of (c:=c) q (t.run Y))
 |false=>exact M2 rfl A V s' base Z' (ok.step t) (w.step t) Q E (n5.of (c:=c) q (t.run Y))
theorem FM.brk (h:Sc (.brk O Y)):FM c k O Y (.Break pos) Sc:=fun A V s base Z ok w Q E q=>u8 (gb (On (q (.brk O Y) .brk s Z (.refl ..) w .brk h)))
theorem FM.cont (h:Sc (.cont O Y)):FM c k O Y (.Continue pos) Sc:=fun A V s base Z ok w Q E q=>u8 (gb (On (q (.cont O Y) .cont s Z (.refl ..) w .cont h)))
inductive dX (n:Str) (d:D):XV→XV→Prop
 |loc {o:Option D} {r:XV}:dX n d (⟨n,.loc,o⟩::r) (⟨n,.loc,some d⟩::r)
 |aM {o:Option D} {r:XV}:dX n d (⟨n,.aM,o⟩::r) (⟨n,.aM,some d⟩::r)
 |there {v:iF} {r r':XV}:dX n d r r'→dX n d (v::r) (v::r')
theorem dX.names (h:dX n d O NE):NE.map (fun x=>x.name)=O.map (fun x=>x.name):=by
 induction h with
 |loc=>rfl
 |aM=>rfl
 |there _ ih=>exact U aK (U aK (U ih rfl))
theorem dX.mem (h:dX n d O NE):∃kd o,(kd= .loc∨kd= .aM)∧⟨n,kd,o⟩∈O∧⟨n,kd,some d⟩∈NE∧∀v∈NE,v=⟨n,kd,some d⟩∨v∈O:=by
 induction h with
 |loc=>exact ju .loc _ (.inl rfl) (.head _) (.head _) (fun v s5=>(a_.mp s5).imp id (.tail _))
 |aM=>exact ju .aM _ (.inr rfl) (.head _) (.head _) (fun v s5=>(a_.mp s5).imp id (.tail _))
 |there _ ih=>
  refine jJ ih fun kd o a b e f=>?_;refine ju kd o a (.tail _ b) (.tail _ e) (fun v s5=>?_);refine bD s5 ?_ fun s5=>?_
  ·exact .inr (.head _)
  ·exact(f v s5).imp id (.tail _)
end
end
section
theorem acL {h:Heap} {a:Addr} {m m':Str→Option Value} (x:h.Ns a m) (y:h.Ns a m'):m=m':=by
 refine t_ x fun o es ep xz hd J hm=>?_;refine t_ y fun o' abn acS bK hd' J pA=>?_;rw[xz]at bK;obtain rfl:=bh bK;rw[hd]at hd';cases hd';funext n;rw[←hm,←pA]
theorem dX.kinds (h:dX n d O NE):∀v∈NE,∃u∈O,u.name=v.name∧u.kind=v.kind:=by
 refine jJ (h.mem) fun kd o J hm J hr=>?_;intro v s5;obtain rfl|s5:=hr v s5
 ·exact gg _ hm rfl rfl
 ·exact gg v s5 rfl rfl
theorem R7 {O:XV} (h:(O.map (fun x=>x.name)).Nodup) {v v':iF} (s5:v∈O) (g8:v'∈O) (e:v.name=v'.name):v=v':=by
 induction O with
 |nil=>cases s5
 |cons x r ih=>
  rw[aK,dm]at h;rcases a_.mp s5 with h1|h1<;>obtain h2|h2:=a_.mp g8
  ·exact U h1 (U h2 rfl)
  ·exact absurd (by refine ZB h1 (U e ?_);exact cA h2) h.1
  ·exact absurd (by refine ZB h2 (ZB e ?_);exact cA h1) h.1
  ·exact ih h.2 h1 h2
section
variable {c:ah} {A:Around} {E:Value→Shared→Prop} {s:Shared} {V:Env} {bs Z:TW} {O NE:XV} {Y:B} {n:Str} {d:D} {v:Value}
theorem bx.turn (w:bx c bs Z h V O Y) (eW:dX n d O NE) (av:Heap.SameBut a h h') (ha:bs a=none) (hz:Z a=none) (h0:c.H0.get? a=none) (hm:Y a=none)
 (vQ:∃m,h'.Ns V.locals m) (Fv:∀v∈O,v.kind= .aM→∀b,V.cells.lookup v.name=some b→∃x,h'.IsCell b x)
 (xJ:∀v∈NE,v.name=n→Fz c Z h' V v) (hold:∀v∈O,v.name≠n→Fz c Z h' V v):bx c bs Z h' V NE Y:=by
 have nm:(NE.map (fun x=>x.name)).Nodup:=by refine U eW.names ?_;exact w.names
 have AI:∀{b:Addr},lT Y h b→lT Y h' b:=fun{b} x=>⟨x.1,by refine U av.1 ?_;exact x.2⟩;refine⟨⟨w.rd.fn,fun b o e=>?_,fun b o e=>?_,fun v s5=>?_,fun b cl hb=>?_,⟨AI w.rd.own.1,fun n b e=>AI (w.rd.own.2 n b e)⟩,w.rd.glob⟩,fun b o e=>?_,nm,vQ,w.iK,fun v s5 hk=>?_,fun v s5 hk=>?_,fun v s5 v' g8=>?_,fun v s5 hk=>?_,w.mem⟩
 ·have:b≠a:=by rintro rfl;rw[h0]at e;injection e
  exact(av.2 b this).trans (w.rd.top b o e)
 ·have:b≠a:=by rintro rfl;rw[hz]at e;injection e
  exact⟨(av.2 b this).trans (w.rd.sub.get e),(w.rd.sub b o e).2⟩
 ·by_cases M2:v.name=n
  ·exact xJ v s5 M2
  ·refine jJ (eW.mem) fun kd o J J J hr=>?_;obtain rfl|g8:=hr v s5
   ·exact absurd rfl M2
   ·exact hold v g8 M2
 ·refine Op (w.rd.cells b cl hb) fun aH hr=>?_;refine wS aH fun o xz hc=>?_;have:b≠a:=by rintro rfl;rw[hm]at hb;injection hb
  exact⟨⟨o,(av.2 _ this).trans xz,hc⟩,hr⟩
 ·have:b≠a:=by rintro rfl;rw[ha]at e;injection e
  refine wS (w.keep b o e) fun o' e' q=>?_;exact⟨o',(av.2 b this).trans e',q⟩
 ·refine aU (eW.kinds v s5) fun u cW e1 e2=>?_;exact ZB e1 (w.locs u cW (e2.trans hk))
 ·refine aU (eW.kinds v s5) fun u cW e1 e2=>?_;refine Op (w.kK u cW (e2.trans hk)) fun h1 VR=>fJ VR fun b x h2 _ h3=>?_;refine aP (Fv u cW (e2.trans hk) b h2) fun mG hx=>?_;exact ZB e1 ⟨h1,b,mG,h2,hx,h3⟩
 ·refine aU (eW.kinds v s5) fun u cW e1 e2=>?_;refine aU (eW.kinds v' g8) fun Wy aaM ae3 Yy=>?_;refine ZB e1 (ZB ae3 (ZB e2 (ZB Yy ?_)));exact w.apart u cW Wy aaM
 ·refine aU (eW.kinds v s5) fun u cW e1 e2=>?_;exact ZB e1 (w.caps u cW (e2.trans hk))
theorem nM (w:bx c bs Z s.heap V O Y) (eW:dX n d O NE) (s5:aR Z v d) (h:∀s',kO s s'→bx c bs Z s'.heap V NE Y→Q () s'):wpAny c.M A (storeName V n v) Q E s:=by
 refine jJ (eW.mem) fun kd o hk hin Rj J=>?_;have nm:(NE.map (fun x=>x.name)).Nodup:=by refine U eW.names ?_;exact w.names
 obtain rfl|rfl:=hk
 ·have hl:=w.locs _ hin rfl;refine aP (w.ns) fun m hm=>?_;refine Qp hl hm (fun h' g7 dc eT=>h _ ⟨fun b kr e hd=>?_,?_,b9 _,⟨_,_,rfl⟩⟩ ?_) (by refine U w.rd.fn ?_;rfl)
  ·by_cases e':b=V.locals
   ·subst e';refine dW g7 fun o' es ep bK hd' J=>?_;refine wS (eT kr e) fun bU e1 g4=>?_;rw[bK]at e1;obtain rfl:=bh e1;exact gg o' bK ⟨es,ep,hd'⟩ (g4.trans hd.2)
   ·exact⟨kr,(dc.2 b e').trans e,hd⟩
  ·exact bT dc.1.symm
  ·refine w.turn eW dc w.iK.1 w.iK.2.1 w.iK.2.2 w.rd.own.1.1 ⟨_,g7⟩ (fun u cW hk b hb=>?_) (fun u cW M2=>?_) (fun u cW M2 cz hd'=>?_)
   ·refine Op (w.kK u cW hk) fun _ aeP=>EP aeP fun b' x h2 h3 _ _ _ ia=>?_;rw[hb]at h2;obtain rfl:=bh h2;exact⟨x,h3.sameBut dc ia⟩
   ·have:=R7 nm cW Rj M2;subst this;intro cz hd';obtain rfl:=bh hd';exact⟨v,s5,hl,_,g7,ak rfl⟩
   ·refine wS (w.rd.vars u cW cz hd') fun x dz gq=>?_;refine⟨x,dz,?_⟩
    induction jW:u.kind with
    |loc=>
     rw[jW]at gq;refine Op gq fun l1 Vj=>wS Vj fun nP l2 l3=>?_;rw[acL l2 hm]at l3;exact⟨l1,_,g7,by refine U (Tk M2) ?_;exact l3⟩
    |aM=>
     refine Op (w.kK u cW jW) fun _ aeg=>EP aeg fun b' mG h2 h3 _ _ _ ia=>?_;rw[jW]at gq;refine Op gq fun l1 Ur=>wS Ur fun b l2 l3=>?_;obtain rfl:=bh (l2.symm.trans h2);exact⟨l1,b,l2,l3.sameBut dc ia⟩
    |gC=>
     refine dW (w.caps u cW jW) fun b' o' J h2 h3 J=>?_;rw[jW]at gq;refine Op gq fun l1 ada=>wS ada fun b l2 l3=>?_;obtain rfl:=bh (l2.symm.trans h2);exact⟨l1,b,l2,l3.sameBut dc (by rintro rfl;rw[w.iK.1]at h3;injection h3)⟩
    |bz=>rw[jW]at gq;exact gq
 ·refine Op (w.kK _ hin rfl) fun hl WV=>EP WV fun a agK ha hc n1 b6 dS p8=>?_;refine wpAny_storeName_cell w.rd.fn hl ha hc (fun h' jf dc=>h _ ⟨fun b kr e hd=>?_,?_,aI _,⟨_,_,rfl⟩⟩ ?_)
  ·by_cases e':b=a
   ·subst e';refine wS hc fun o' bK hd'=>?_;rw[e]at bK;obtain rfl:=bh bK;refine Op hd fun aH J=>?_;refine fL aH fun es ep q=>?_;rw[q]at hd';injection hd'
   ·exact⟨kr,(dc.2 b e').trans e,hd⟩
  ·exact bT dc.1.symm
  ·refine aP (w.ns) fun m hm=>?_;refine w.turn eW dc n1 b6 dS (w.rd.own.2 _ _ ha).1 ⟨m,hm.sameBut dc (bS p8)⟩ (fun u cW hk b hb=>?_) (fun u cW M2=>?_) (fun u cW M2 cz hd'=>?_)
   ·refine Op (w.kK u cW hk) fun _ aec=>fJ aec fun b' x h2 h3 _=>?_;rw[hb]at h2;obtain rfl:=bh h2;by_cases e':b=a
    ·subst e';exact⟨_,jf⟩
    ·exact⟨x,h3.sameBut dc e'⟩
   ·have:=R7 nm cW Rj M2;subst this;intro cz hd';obtain rfl:=bh hd';exact⟨v,s5,hl,_,ha,jf⟩
   ·refine wS (w.rd.vars u cW cz hd') fun x dz gq=>?_;refine⟨x,dz,?_⟩
    induction jW:u.kind with
    |loc=>
     rw[jW]at gq;refine Op gq fun l1 T7=>wS T7 fun nP l2 l3=>?_;exact⟨l1,nP,l2.sameBut dc (bS p8),l3⟩
    |aM=>
     rw[jW]at gq;refine Op gq fun l1 TN=>wS TN fun b l2 l3=>?_;have:b≠a:=by
      rintro rfl;exact w.apart u cW _ hin jW rfl M2 (l2.trans ha.symm)
     exact⟨l1,b,l2,l3.sameBut dc this⟩
    |gC=>
     refine dW (w.caps u cW jW) fun b' o' J h2 h3 J=>?_;rw[jW]at gq;refine Op gq fun l1 acd=>wS acd fun b l2 l3=>?_;obtain rfl:=bh (l2.symm.trans h2);exact⟨l1,b,l2,l3.sameBut dc (by rintro rfl;rw[n1]at h3;injection h3)⟩
    |bz=>rw[jW]at gq;exact gq
end
section
variable {c:ah} {k:Nat} {O NE:XV} {Y:B} {Sc:fD→Prop}
theorem FM.iT (he:aF c k O Y e fun d I=>∃NE,dX n d O NE∧Sc (.next NE I))
 (hs:∀V,V.scope.kind= .function→swapsWith e (some (.Name n p)) pos.line V=pure false:=by intros;rfl):FM c k O Y (.Assign [.Name n p] e pos) Sc:=by
 intro A V s base Z ok w Q E q;refine Ah (he A V s Z ok w.rd _ E fun d I v s₁ aB t s5 Tu=>wS Tu fun NE eW h=>nM (w.after t) eW s5 fun s₂ m w₂=>?_) (hs V w.rd.fn);exact q (.next NE I) .next s₂ aB (t.run.trans ⟨m,.refl _,fun J J h=>.inl h,fun J h=>.inl h⟩) w₂ .next h
theorem FM.assign (he:f8 c k O Y e d) (eW:dX n d O NE) (h:Sc (.next NE Y))
 (hs:∀V,V.scope.kind= .function→swapsWith e (some (.Name n p)) pos.line V=pure false:=by intros;rfl):FM c k O Y (.Assign [.Name n p] e pos) Sc:=
 FM.iT (.nt he ⟨NE,eW,h⟩) hs
end
end
theorem af3:∀{m:Str→Option Value},n∉bs.map Prod.fst→bindL kf bs m n=m n:=by
 induction bs with
 |nil=>intro _ _;rfl
 |cons p r ih=>
  intro m h;rw[aK,a_,pT]at h;rw[DB,ih h.2];split
  ·exact Tk h.1
  ·rfl
theorem SS:∀{m:Str→Option Value},n∉bs.map Prod.fst→bindC kf bs m n=m n:=by
 induction bs with
 |nil=>intro _ _;rfl
 |cons p r ih=>
  intro m h;rw[aK,a_,pT]at h;rw[B5,ih h.2];split
  ·rfl
  ·exact Tk h.1
theorem Oh:∀{m:Str→Option Value},(bs.map Prod.fst).Nodup→(n,v)∈bs→kf n=some .local→bindL kf bs m n=some v:=by
 induction bs with
 |nil=>intro _ _ hm;exact(eF hm).elim
 |cons p r ih=>
  intro m M2 hm hk;rw[aK,dm]at M2;refine r4 hm (fun e=>?_) fun hm=>ih M2.2 hm hk;subst e;rw[DB,af3 M2.1,ak hk,ak rfl]
theorem MP:∀{m:Str→Option Value},(bs.map Prod.fst).Nodup→(n,v)∈bs→kf n≠some .local→bindC kf bs m n=some v:=by
 induction bs with
 |nil=>intro _ _ hm;exact(eF hm).elim
 |cons p r ih=>
  intro m M2 hm hk;rw[aK,dm]at M2;refine r4 hm (fun e=>?_) fun hm=>ih M2.2 hm hk;subst e;rw[B5,SS M2.1,Tk hk,ak rfl]
theorem Fi:∀{L:Nat} {wP:List (Str×Addr)},((∃a,(n,a)∈wP)∨(n,NameKind.cell)∈names)→∃a,(n,a)∈cellsFrom L names wP:=by
 induction names with
 |nil=>intro _ _ h;exact h.elim id fun h=>(eF h).elim
 |cons p r ih=>
  intro L wP h;rw[CA];split
  ·refine ih (h.elim (fun h=>.inl (h.imp fun a h=>.tail _ h)) fun h=>?_);refine r4 h (fun e=>?_) fun h=>.inr h;exact ZB e (.inl ⟨L,.head _⟩)
  ·rename_i hk;refine ih (h.elim .inl fun h=>?_);refine r4 h (fun e=>?_) fun h=>.inr h;rw[←e]at hk;exact absurd rfl hk
theorem JB {α:Type} {l:List (Str×α)} {a:α}:(n,a)∈l→∃b,l.lookup n=some b:=by
 induction l with
 |nil=>intro h;exact(eF h).elim
 |cons p r ih=>
  intro h;refine U lD ?_
  induction hb:n==p.1 with
  |true=>exact⟨_,rfl⟩
  |false=>
   refine r4 h (fun e=>?_) fun h=>ih h;rw[←e,sX]at hb;injection hb
noncomputable def vars (ps:List (Str×cZ)) (ds:List D) (ls:List (Str×cZ)) (gs:List (Str×Value)):XV:=
 (ps.zip ds).map (fun x=>⟨x.1.1,x.1.2,some x.2⟩)++(ls.map (fun x=>⟨x.1,x.2,none⟩)++gs.map (fun x=>⟨x.1,.bz,some (.val x.2)⟩))
theorem L7 {α:Type} {ps:List α} (bO:au Z H ds):∀{x:α} {d:D},(x,d)∈ps.zip ds→∃v,(x,v)∈ps.zip H∧aR Z v d:=by
 refine bO.ind (P:=fun H ds=>∀{ps:List α} {x:α} {d:D},(x,d)∈ps.zip ds→∃v,(x,v)∈ps.zip H∧aR Z v d) ?_ ?_
 ·intro ps x d h;rw[List.zip_nil_right]at h;exact(eF h).elim
 ·intro v d H ds s5 _ ih ps x cz h;obtain _|⟨p,ps⟩:=ps
  ·exact(eF h).elim
  ·refine r4 h (fun e=>?_) fun h=>(ih h).imp fun v y=>⟨.tail _ y.1,y.2⟩;refine Op (Prod.mk.inj e) fun e1 e2=>?_;refine U e1 (U e2 ?_);exact⟨_,.head _,s5⟩
structure Ez (c:ah) (f:Addr) (fd:FuncData) (body:List Stmt):Prop where
 obj:∃o,c.H0.get? f=some o∧o.data= .func fd
 body:fd.body= .stmts body
 lim:c.H0.NoLimit
 low:c.H0.get? sysModules≠none
 code:c.H0.CodeRec fd.code fd.qualname
 closure:fd.closure=[]
 globals:fd.globals=mainGlobals
 builtins:fd.builtins=builtinsNs
 co:fd.scope.isCoroutine=false
 gen:fd.scope.isGenerator=false
 kind:fd.scope.kind= .function
noncomputable def cD (c:ah) (k:Nat) (f:Value) (ds:List D) (Y:B) (Sc:D→B→Prop):Prop:=
 ∀(A:Around) (s:Shared) (Z:TW) (H:List Value),Ok c k A s→c.H0.StaysIn s.heap→Sub Z s.heap→au Z H ds→gy c Z s.heap Y→∀(Q E:Value→Shared→Prop),
  (∀d I v s' Z',aO c Y s Z I s' Z'→aR Z' v d→Sc d I→Q v s')→wpAny c.M A (call f H) Q E s
noncomputable def eS (c:ah) (k:Nat) (f:Value) (ds:List D) (Y:B) (Sc:D→B→Prop):Prop:=
 ∀(A:Around) (s:Shared) (Z:TW) (H:List Value),Ok c k A s→c.H0.StaysIn s.heap→Sub Z s.heap→au Z H ds→gy c Z s.heap Y→∀(R:Result→Shared→Prop),
  (∀d I v s' Z',aO c Y s Z I s' Z'→aR Z' v d→Sc d I→R (.ok (.ret v)) s')→codeAny c.M A (.call f ⟨H,[]⟩) R s
theorem eS.pm (h:eS c k f ds Y Sc):cD c k f ds Y Sc:=
 fun A s Z H ok top sub bf mo Q E g=>oM (h A s Z H ok top sub bf mo _ g)
noncomputable def lX (c:ah) (fd:FuncData) (ps:List (Str×cZ)) (ds D6:List D):Prop:=
 ∀(A:Around) (s:Shared) (Z:TW) (H:List Value),c.H0.StaysIn s.heap→Sub Z s.heap→au Z H ds→∀(Q:List (Str×Value)→Shared→Prop) (E:Value→Shared→Prop),
  (∀oY s' Z',aD c s Z s' Z'→au Z' oY D6→Q ((ps.map Prod.fst).zip oY) s')→wpAny c.M A (bindArgs fd ⟨H,[]⟩) Q E s
theorem lX.plain (dI:ds.length=ps.length) (h:∀H:List Value,H.length=ps.length→bindArgs fd ⟨H,[]⟩=pure ((ps.map Prod.fst).zip H)):lX c fd ps ds ds:=by
 intro A s Z H top sub bf Q E q;exact U (h H (bf.length.trans dI)) (On (q H s Z (.refl top sub) bf))
theorem eS.def (eY:Ez c f fd body)
 (m9:lX c fd ps ds₀ ds) (dI:ds.length=ps.length)
 (kinds:∀x∈ps++ls,(x.2= .loc∧fd.scope.names.lookup x.1=some .local)∨(x.2= .aM∧fd.scope.names.lookup x.1=some .cell))
 (gl:∀x∈gs,fd.scope.names.lookup x.1=some .globalImplicit∧gB c.H0 x.1 x.2)
 (nd:((ps++ls).map Prod.fst++gs.map Prod.fst).Nodup)
 (ow:∀L,wE (c.at L) k (vars ps ds ls gs) Y body (G7 Sc)):eS c (k+1) (.ref f) ds₀ Y Sc:=by
 intro A s₀ jH Ey Ai kE rF IX JC R Ni;refine wS (eY.obj) fun o xz hd=>?_;refine codeAny_call_function (fU (f9 (bX ..) Ai.depth) (by decide)) (kE _ _ xz) hd eY.co eY.gen eY.body (eY.code.keeps kE) ?_;refine U eY.closure (U eY.globals (U eY.builtins ?_));refine m9 _ s₀ jH Ey kE rF IX _ _ fun H s Z EQ bf=>?_;have ok:=Ai.step EQ;have top:=EQ.top;have sub:=EQ.sub;have o9:=EQ.pR JC;have mo:gy c Z s.heap Y:=o9.cells;have cM:H.length=ps.length:=bf.length.trans dI;have zY:((ps.map Prod.fst).zip H).map Prod.fst=ps.map Prod.fst:=by
  rw[List.map_fst_zip];rw[cj];exact bT (uw ‹_›)
 have bn:(((ps.map Prod.fst).zip H).map Prod.fst).Nodup:=by
  refine U zY ?_;rw[gK,j6]at nd;exact(kq.mp nd).1
 have qR:∀{L:Nat} {n:Str},fd.scope.names.lookup n=some .cell→∃a,(cellsFrom L fd.scope.names []).lookup n=some a:=fun h=>by
  obtain⟨a,ha⟩:=Fi (wP:=[]) (.inr (mem_of_lookup h));exact JB ha
 have kd:∀x∈(ps.map Prod.fst).zip H,fd.scope.names.lookup x.1=some .local∨(fd.scope.names.lookup x.1=some .cell∧((cellsFrom (s.heap.objs.size+1) fd.scope.names []).lookup x.1).isSome=true):=fun x hx=>by
  have:x.1∈ps.map Prod.fst:=by refine ZB zY ?_;exact cA hx
  refine wS (ao.mp this) fun p hp e=>?_;rcases kinds p (iX _ hp)with⟨_,h⟩|⟨_,h⟩
  ·exact .inl (e▸h)
  ·refine .inr ⟨e▸h,?_⟩;refine aP (qR (L:=s.heap.objs.size+1) (e▸h)) fun a ha=>?_;refine U ha ?_;rfl
 refine h_ (Pu eY.kind kd fun V he s' zk hup=>?_);subst he;have x:=zk.to;have htk:=hup.toks;refine⟨(eY.lim.keeps top).keeps x.toInCall.keep,codeAny_func ?_⟩;have Fl:s.heap.get? s.heap.objs.size=none:=uC (aI _);have Aw:∀{a:Addr},s.heap.objs.size≤a→Z a=none:=gR sub;have vj:∀{a:Addr},s.heap.objs.size≤a→c.H0.get? a=none:=mY top;have mN:∀{a:Addr},s.heap.objs.size≤a→Y a=none:=fun{a} h=>by
  rcases q:Y a with _|cl
  ·rfl
  ·refine Op (mo a cl q) fun YR _=>?_;obtain⟨o',e',_⟩:=YR;exact absurd (cJ e') (eL.mpr h)
 have Jw:∀{a:Addr} {o':Obj},(if(Y a).isSome then none else s.heap.get? a)=some o'→Y a=none∧s.heap.get? a=some o':=fun{a o'} e=>by
  rcases q:Y a with _|cl
  ·rw[q]at e;exact⟨rfl,e⟩
  ·rw[q]at e;cases e
 have qW:s.heap.objs.size<s'.heap.objs.size:=x.toInCall.ns.lt;have HT:c.H0.StaysIn s'.heap:=fun b o' e=>x.toInCall.keep b o' (top b o' e);have Aj:Sub Z s'.heap:=fun b o' e=>⟨x.toInCall.keep b o' (sub.get e),(sub b o' e).2⟩;have w:bx (c.at s.heap.objs.size) (fun a=>if(Y a).isSome then none else s.heap.get? a) Z s'.heap (newEnv fd.scope s.heap.objs.size mainGlobals (cellsFrom (s.heap.objs.size+1) fd.scope.names []) (fd.qualname++".<locals>.") (some f) fd.code none builtinsNs) (vars ps ds ls gs) Y:=by
  have qC:∀v∈vars ps ds ls gs,(v.kind= .loc∧fd.scope.names.lookup v.name=some .local)∨(v.kind= .aM∧fd.scope.names.lookup v.name=some .cell)∨(v.kind= .bz∧fd.scope.names.lookup v.name=some .globalImplicit):=fun v s5=>by
   obtain s5|s5:=b_.mp s5
   ·refine wS (ao.mp s5) fun q Ch s4=>?_;subst s4;have:=BI (a:=q.1) (b:=q.2) Ch;rcases kinds q.1 (iX _ this.1)with h|h
    ·exact .inl h
    ·exact .inr (.inl h)
   ·obtain s5|s5:=b_.mp s5
    ·refine wS (ao.mp s5) fun q Ch s4=>?_;subst s4;rcases kinds q (m5 _ Ch)with h|h
     ·exact .inl h
     ·exact .inr (.inl h)
    ·refine wS (ao.mp s5) fun q Ch s4=>?_;subst s4;exact .inr (.inr ⟨rfl,(gl q Ch).1⟩)
  refine⟨⟨eY.kind,HT,Aj,fun v s5 cz hd'=>?_,fun a cl e=>?_,⟨⟨mN (aI _),qW⟩,fun n a e=>⟨mN (fN (x.above _ _ (mem_of_lookup e))),Iq (x.cell _ a e)⟩⟩,rfl,rfl,eY.low,fun L e=>e⟩,fun a o' e=>⟨o',x.toInCall.keep a o' (Jw e).2,.refl _⟩,?_,⟨_,x.toInCall.ns⟩,⟨?_,Aw (aI _),vj (aI _)⟩,fun v s5 hk=>?_,fun v s5 hk=>?_,fun v s5 v' g8 hk hk' bg=>?_,fun v s5 hk=>?_,fun a ha=>?_⟩
  ·obtain s5|s5:=b_.mp s5
   ·refine wS (ao.mp s5) fun Xp Ch WD=>?_;obtain⟨q,YD⟩:=Xp;subst WD;obtain rfl:=bh hd';refine wS (L7 bf Ch) fun v hz FS=>?_;have hin:(q.1,v)∈(ps.map Prod.fst).zip H:=by
     have:∀(l:List (Str×cZ)) (H:List Value),(q,v)∈l.zip H→(q.1,v)∈(l.map Prod.fst).zip H:=fun l=>by
      induction l with
      |nil=>intro H h;simp at h
      |cons y l ih=>
       intro H h;obtain _|⟨z,H⟩:=H
       ·simp at h
       ·rw[p6]at h;refine U aK (U p6 ?_);obtain e|h:=a_.mp h
        ·cases e;exact .head _
        ·exact .tail _ (ih H h)
     exact this ps H hz
    refine⟨v,FS,?_⟩;rcases kinds q (iX _ (BI Ch).1)with⟨hk,h⟩|⟨hk,h⟩
    ·show jY _ _ _ _ _ q.2;exact U hk ⟨h,_,x.toInCall.ns,Oh bn hin h⟩
    ·show jY _ _ _ _ _ q.2;refine U hk ?_;refine aP (qR (L:=s.heap.objs.size+1) h) fun a ha=>?_;refine⟨h,a,ha,?_⟩;have:=x.cell q.1 a ha;rw[MP bn hin (by show fd.scope.names.lookup q.1≠_;refine U h ?_;simp)]at this;exact this
   ·obtain s5|s5:=b_.mp s5
    ·refine wS (ao.mp s5) fun q Ch s4=>?_;subst s4;cases hd'
    ·refine wS (ao.mp s5) fun q Ch s4=>?_;subst s4;obtain rfl:=bh hd';exact B6 _ (.val _) ((gl q Ch).1) rfl rfl ((gl q Ch).2)
  ·refine Op (mo a cl e) fun Xw hr=>?_;obtain⟨o',e',hc⟩:=Xw;exact⟨⟨o',x.toInCall.keep _ _ e',hc.to⟩,hr⟩
  ·have e:(vars ps ds ls gs).map (fun x=>x.name)=(ps++ls).map Prod.fst++gs.map Prod.fst:=by
    have h1:∀(ps:List (Str×cZ)) (ds:List D),ds.length=ps.length→(((ps.zip ds).map (fun x=>(⟨x.1.1,x.1.2,some x.2⟩:iF))).map (fun x=>x.name))=ps.map Prod.fst:=fun l=>by
     induction l with
     |nil=>intro ds _;rfl
     |cons y l ih=>
      intro ds h;obtain _|⟨z,ds⟩:=ds
      ·simp at h
      ·simp only[p6,aK];exact ZB (ih ds (by simpa using h)) rfl
    rw[vars,gK,h1 ps ds dI,gK,cO,cO,gK,j6];rfl
   exact U e nd
  ·show(if _ then none else s.heap.get? s.heap.objs.size)=none;refine U Fl ?_;split<;>rfl
  ·rcases qC v s5 with⟨_,h⟩|⟨h,_⟩|⟨h,_⟩
   ·exact h
   ·rw[hk]at h;cases h
   ·rw[hk]at h;cases h
  ·rcases qC v s5 with⟨h,_⟩|⟨_,h⟩|⟨h,_⟩
   ·rw[hk]at h;cases h
   ·refine aP (qR (L:=s.heap.objs.size+1) h) fun a ha=>?_;have ab:s.heap.objs.size<a:=x.above _ _ (mem_of_lookup ha);exact⟨h,a,_,ha,x.cell _ a ha,by show(if _ then none else s.heap.get? a)=none;refine U (uC (fN ab)) ?_;split<;>rfl,Aw (fN ab),vj (fN ab),iE ab⟩
   ·rw[hk]at h;cases h
  ·rcases qC v s5 with⟨h,_⟩|⟨_,h⟩|⟨h,_⟩
   ·rw[hk]at h;cases h
   ·refine aP (qR (L:=s.heap.objs.size+1) h) fun a ha=>?_;intro e;exact bg (CX x.apart (mem_of_lookup ha) (mem_of_lookup (e▸ha)))
   ·rw[hk]at h;cases h
  ·rcases qC v s5 with⟨h,_⟩|⟨h,_⟩|⟨h,_⟩<;>(rw[hk]at h;cases h)
  ·rcases q:Y a with _|cl
   ·exact absurd q ha
   ·rfl
 have ok':Ok (c.at s.heap.objs.size) k (A.deeper (newEnv fd.scope s.heap.objs.size mainGlobals (cellsFrom (s.heap.objs.size+1) fd.scope.names []) (fd.qualname++".<locals>.") (some f) fd.code none builtinsNs)) s':=by
  refine d9 (ok.frames) fun l hl hf ku J=>?_;refine⟨?_,?_,⟨newEnv fd.scope s.heap.objs.size mainGlobals (cellsFrom (s.heap.objs.size+1) fd.scope.names []) (fd.qualname++".<locals>.") (some f) fd.code none builtinsNs::l,?_,⟨?_,?_,?_⟩,fun b hb=>?_,fun L e=>⟨_,_,rfl,e⟩⟩,fU ok.tok htk,ok.hand⟩
  ·show A.depth+1+k<900;have:=ok.depth;exact oZ ‹_›
  ·show A.units+3+60*k<9000;have:=ok.units;exact C7 ‹_› (by decide)
  ·show A.frames.map _=_;refine U hl ?_;rfl
  ·show fd.scope.kind≠ .module;refine U eY.kind ?_;simp
  ·refine dW (x.toInCall.ns) fun o' es ep h1 h2 J=>?_;exact ju _ o' rfl (vj (aI _)) h1 (fun H=>by refine U h2 ?_;simp)
  ·exact hf.of_keeps fun b o' e J=>⟨o',x.toInCall.keep b o' e,rfl⟩
  ·refine bD hb ?_ fun hb=>?_
   ·refine wS (zk.fr) fun bU e1 g4=>?_;refine dW (x.toInCall.ns) fun o' es ep h1 h2 J=>?_;rw[h1]at e1;obtain rfl:=bh e1;exact gg _ h1 ⟨es,ep,h2⟩ g4
   ·refine wS (ku b hb) fun o' e' i=>?_;exact⟨o',x.toInCall.keep b o' e',i⟩
 refine ow _ _ _ s' _ Z ok' w _ _ fun f5 dG s'' eU run jO UT bK=>?_;have aq:aO c Y s Z f5.Y s'' eU:=by
  refine⟨Ev (fN qW) run.af.size,fun a o' ha e=>jO.keep a o' (by show(if _ then none else s.heap.get? a)=_;refine U ha ?_;exact e),fun b o' e h=>run.af.frames b o' (x.toInCall.keep b o' e) h,jO.rd.top,run.le,fun a o' e=>?_,jO.rd.sub,fun a h=>?_,fun a cl e=>let⟨⟨o,xz,hc⟩,r⟩:=jO.rd.cells a cl e;⟨⟨o,xz,hc.off⟩,r⟩,Ev htk run.af.tok,?_⟩
  ·obtain e|e|e:=run.ext a o' e
   ·exact .inl e
   ·exact .inr (.inl e)
   ·exact .inr (.inr (Ev (fN qW) e))
  ·obtain e|e:=run.jz a h
   ·exact .inl e
   ·exact .inr (Ev (fN qW) e)
  ·refine fL (x.toInCall.same) fun h1 t1 s4=>?_;subst s4;refine fL (run.af.rest) fun h2 fM s4=>?_;subst s4;exact⟨_,_,rfl⟩
 induction UT with
 |ret FS=>exact Ni _ _ _ _ _ (o9.trans aq) FS bK
 |next=>exact Ni _ _ _ _ _ (o9.trans aq) (.val _) bK
 |brk=>exact bK.elim
 |cont=>exact bK.elim
theorem cD.pc (h:cD c k f ds (fun J=>none) fun cz J=>cz=d):cu c k f ds d:=by
 intro A s Z H ok top sub bf Q E g;refine h A s Z H ok top sub bf (fun a cl e=>(by injection e)) Q E fun cz I v s' Z' aq FS e=>?_;subst e;exact g v s' Z' ⟨⟨aq.size,fun a o e=>aq.keep a o rfl e⟩,aq.top,⟨aq.le,fun a o e=>(aq.ext a o e).imp id fun h=>h.elim (fun h=>absurd rfl h) id⟩,aq.sub,aq.tok,aq.rest⟩ FS
theorem cD.less (h:cD c k f ds Y Sc) (hk:k≤k'):cD c k' f ds Y Sc:=fun A s Z H ok=>h A s Z H (ok.less hk)
theorem zh:∀(names:List (Str×NameKind)) (L) (wP),cellsFrom L names wP=cellsFrom L names []++wP
 |[],_,_=>rfl
 |(n,k)::r,L,wP=>by
  rw[CA,CA];split
  ·rw[zh r (L+1) ((n,L)::wP),zh r (L+1) [(n,L)],j6];rfl
  ·exact zh r L wP
theorem EC:∀(names:List (Str×NameKind)) (L) {n:Str} {a:Addr},(n,a)∈cellsFrom L names []→(n,NameKind.cell)∈names
 |[],_,_,_,h=>by simp[Ux]at h
 |(x,k)::r,L,n,a,h=>by
  rw[CA]at h;split at h
  ·rename_i hk;rw[zh]at h;obtain h|h:=b_.mp h
   ·exact .tail _ (EC r _ h)
   ·obtain e|h:=a_.mp h
    ·cases e;have:k= .cell:=by simpa using hk
     subst this;exact .head _
    ·cases h
  ·exact .tail _ (EC r _ h)
noncomputable def NC (scope:Scope) (cl:List (Str×Addr)) (L:Addr) (outer:Env):Env:=
 {scope:=scope,locals:=L,globals:=outer.globals,cells:=cellsFrom (L+1) scope.names []++cl,qual:=outer.qual,func:=none,code:=outer.code,frame:=outer.frame,builtins:=outer.builtins}
theorem Uo
 (h:∀h',h'.Ns s.heap.objs.size (fun J=>none)→(∀b o,s.heap.get? b=some o→h'.get? b=some o)→(∃o,h'.get? s.heap.objs.size=some o∧o.cls= .type "dict")→
  CellsOk h' (s.heap.objs.size+1) (cellsFrom (s.heap.objs.size+1) scope.names [])→Q (NC scope cl s.heap.objs.size outer) {s with heap:=h'}):
 wpAny M A (newFunctionEnv scope outer.globals cl [] outer.qual none .none (some outer)) Q E s:=by
 simp only[newFunctionEnv,Option.isSome_some,mC];refine u8 (wpAny_alloc ?_);refine u8 (wpAny_layCells _ (fun name kind cells=>by cases H7:kind==NameKind.cell<;>simp[H7]) _ _ _ _ ?_);have ok:=cellsFrom_ok scope.names (s.heap.push {cls:=.type "dict",data:=.dict #[]}) (s.heap.objs.size+1) [] ⟨fun J J hm=>(nomatch hm),List.Pairwise.nil⟩ (by rw[eX];exact aI _);rw[eX]at ok;refine U (show({s with heap:=s.heap.push {cls:=.type "dict",data:=.dict #[]}}:Shared).heap.objs.size=s.heap.objs.size+1 from eX ..) ?_;rw[zh];simp only[BW];refine u8 (On (On ?_));exact h _ ((Heap.Ns.new s.heap (.type "dict")).keeps (wu _ _)) (fun b o e=>wu _ _ b o (bY _ e)) ⟨_,wu _ _ _ _ (d7 _ rfl),rfl⟩ ok
noncomputable def m_ (V:Env):List (Str×NameKind)→List (Str×Addr)→List (Str×Addr)
 |[],wP=>wP
 |(n,k)::r,wP=>if k== .free then m_ V r ((n,(V.cells.lookup n).getD 0)::wP)else m_ V r wP
theorem FZ (V n k r wP):m_ V ((n,k)::r) wP=if k== .free then m_ V r ((n,(V.cells.lookup n).getD 0)::wP)else m_ V r wP:=rfl
theorem aeU (h:∀x∈scope.names,x.2= .free→(V.cells.lookup x.1).isSome=true):closureFor scope V=pure (m_ V scope.names []):=by
 have key:∀(names:List (Str×NameKind)) (wP:List (Str×Addr)),(∀x∈names,x.2= .free→(V.cells.lookup x.1).isSome=true)→
  (forIn names wP fun x cs=>(match x with|(name,kind)=>if kind== .free then(do let c←cellOf V name;pure (ForInStep.yield ((name,c)::cs)))else pure (ForInStep.yield cs):Sem (ForInStep (List (Str×Addr)))))=pure (m_ V names wP):=fun names=>by
  induction names with
  |nil=>intro wP _;rfl
  |cons x r ih=>
   intro wP hx;obtain⟨n,k⟩:=x;rw[pI];rw[FZ];by_cases hk:(k== .free)=true
   ·have hf:k= .free:=by simpa using hk
    refine aP (xO.mp (hx (n,k) (.head _) hf)) fun a ha=>?_;have hc:cellOf V n=pure a:=by unfold cellOf;exact U ha rfl
    simp only[hk,mC,hc,pure_bind,ha,Bh];exact ih _ fun y No=>hx y (.tail _ No)
   ·simp only[hk,j3,jA,pure_bind];exact ih _ fun y No=>hx y (.tail _ No)
 unfold closureFor;have:=key scope.names [] h;simp only[bind_pure_comp]at this⊢
 first
  |refine U this ?_;rfl
  |simp[this]
theorem Hy:∀{names:List (Str×NameKind)} {wP:List (Str×Addr)} {n:Str} {a:Addr},V.cells.lookup n=some a→((n,NameKind.free)∈names∨wP.lookup n=some a)→(m_ V names wP).lookup n=some a
 |[],wP,n,a,ha,h=>by
  obtain h|h:=h
  ·cases h
  ·exact h
 |(x,k)::r,wP,n,a,ha,h=>by
  rw[FZ];split
  ·rename_i hk;refine Hy ha ?_;by_cases e:n=x
   ·subst e;right;rw[lD,sX,ha];rfl
   ·obtain h|h:=h
    ·obtain q|h:=a_.mp h
     ·cases q;exact absurd rfl e
     ·exact .inl h
    ·right;refine U lD (U (beq_false_of_ne e) ?_);exact h
  ·rename_i hk;refine Hy ha ?_;obtain h|h:=h
   ·obtain q|h:=a_.mp h
    ·cases q;exact absurd rfl hk
    ·exact .inl h
   ·exact .inr h
theorem H6 (h:scope.names.lookup n=some k):(relabel scope V).names.lookup n=some (if(k== .free&&V.scope.kind== .function&&V.kindOf n==some .cell)=true then .cell else k):=by
 unfold relabel;show(scope.names.map _).lookup n=_;revert h
 induction scope.names with
 |nil=>intro h;cases h
 |cons x r ih=>
  obtain⟨m,j⟩:=x;intro h;refine U aK ?_
  induction hx:n==m with
  |true=>
   have e:=lR.mp hx;subst e;rw[lD,sX]at h;cases h;by_cases hc:(k== .free&&V.scope.kind== .function&&V.kindOf n==some .cell)=true
   ·simp only[hc,mC,lD,sX]
   ·simp only[hc,jA,lD,sX,j3]
  |false=>
   rw[lD,hx]at h;by_cases hc:(j== .free&&V.scope.kind== .function&&V.kindOf m==some .cell)=true
   ·simp only[hc,mC,lD,hx];exact ih h
   ·simp only[hc,jA,lD,hx,j3];exact ih h
section
noncomputable def nG (sc:Scope) (ts:List (Str×cZ)) (caps gs:List Str):Bool:=
 sc.kind== .function&&ts.all (fun x=>(x.2== .loc&&sc.names.lookup x.1==some .local)||(x.2== .aM&&sc.names.lookup x.1==some .cell))&&caps.all (fun x=>sc.names.lookup x==some .free)&&gs.all (fun x=>sc.names.lookup x==some .globalImplicit)&&
 sc.names.all (fun x=>x.2 != .free||caps.contains x.1)&&sc.names.all (fun x=>x.2 != .local||sc.names.lookup x.1==some .local)&&decide (ts.map Prod.fst++(caps++gs)).Nodup&&decide (sc.names.map Prod.fst).Nodup
structure Jv (sc:Scope) (ts:List (Str×cZ)) (caps gs:List Str):Prop where
 kind:sc.kind= .function
 Ei:∀x∈ts,(x.2= .loc∧sc.names.lookup x.1=some .local)∨(x.2= .aM∧sc.names.lookup x.1=some .cell)
 aax:∀x∈caps,sc.names.lookup x=some .free
 afl:∀x∈gs,sc.names.lookup x=some .globalImplicit
 free:∀x∈sc.names,x.2= .free→x.1∈caps
 loc:∀x∈sc.names,x.2= .local→sc.names.lookup x.1=some .local
 nodup:(ts.map Prod.fst++(caps++gs)).Nodup
 once:(sc.names.map Prod.fst).Nodup
theorem Y_ {sc:Scope} {ts:List (Str×cZ)} {caps gs:List Str} (h:nG sc ts caps gs=true):Jv sc ts caps gs:=by
 unfold nG at h;simp only[kW,j8,sV,o5,lR,zS,ze]at h;refine Op h fun aH qS=>?_;refine Op aH fun aH ia=>?_;refine Op aH fun Z0 h6=>?_;obtain⟨⟨⟨⟨h1,h2⟩,h3⟩,h4⟩,h5⟩:=Z0;exact⟨h1,h2,h3,h4,fun x hx e=>(h5 x hx).resolve_left fun n=>n e,fun x hx e=>(h6 x hx).resolve_left fun n=>n e,ia,qS⟩
noncomputable def gJ (ts:List (Str×cZ)) (os:List (Option D)) (caps:List (Str×D)) (gs:List (Str×Value)):XV:=
 (ts.zip os).map (fun x=>⟨x.1.1,x.1.2,x.2⟩)++(caps.map (fun x=>⟨x.1,.gC,some x.2⟩)++gs.map (fun x=>⟨x.1,.bz,some (.val x.2)⟩))
noncomputable def kJ (ts:List (Str×cZ)):List (Option D):=ts.map fun J=>none
theorem ZK {ts:List (Str×cZ)} {x:(Str×cZ)×Option D}:x∈ts.zip (kJ ts)→x.1∈ts∧x.2=none:=by
 induction ts with
 |nil=>intro h;exact(eF h).elim
 |cons t ts ih=>
  intro h;rw[kJ,aK,p6]at h;refine bD h ?_ fun h=>?_
  ·exact⟨.head _,rfl⟩
  ·exact⟨.tail _ (ih h).1,(ih h).2⟩
theorem Kl:∀(ts:List (Str×cZ)),((ts.zip (kJ ts)).map (fun x=>(⟨x.1.1,x.1.2,x.2⟩:iF))).map (fun x=>x.name)=ts.map Prod.fst
 |[]=>rfl
 |t::ts=>by
  rw[kJ,aK,p6,aK,aK,aK];exact cQ _ (Kl ts)
theorem Un (ts:List (Str×cZ)) (caps:List (Str×D)) (gs:List (Str×Value)):(gJ ts (kJ ts) caps gs).map (fun x=>x.name)=ts.map Prod.fst++(caps.map Prod.fst++gs.map Prod.fst):=by
 rw[gJ,gK,Kl,gK,cO,cO];rfl
theorem G1:∀{names:List (Str×NameKind)} {wP:List (Str×Addr)} {n:Str} {a:Addr},(n,a)∈m_ V names wP→(n,a)∈wP∨((n,NameKind.free)∈names∧a=(V.cells.lookup n).getD 0)
 |[],_,_,_,h=>.inl h
 |(x,kd)::r,wP,n,a,h=>by
  rw[FZ]at h;split at h
  ·rename_i hk;obtain h|⟨h,e⟩:=G1 h
   ·obtain q|h:=a_.mp h
    ·cases q;have:kd= .free:=by simpa using hk
     subst this;exact .inr ⟨.head _,rfl⟩
    ·exact .inl h
   ·exact .inr ⟨.tail _ h,e⟩
  ·obtain h|⟨h,e⟩:=G1 h
   ·exact .inl h
   ·exact .inr ⟨.tail _ h,e⟩
theorem JP {α:Type}:∀{l r:List (Str×α)} {n:Str},(l++r).lookup n=(l.lookup n).or (r.lookup n)
 |[],r,n=>rfl
 |(x,v)::l,r,n=>by
  refine U nY (U lD (U lD ?_))
  induction n==x with
  |true=>rfl
  |false=>exact JP
theorem afm {l:List (Str×NameKind)} {n:Str} {k k':NameKind}:(l.map Prod.fst).Nodup→(n,k)∈l→l.lookup n=some k'→k=k':=by
 induction l with
 |nil=>intro _ h;exact(eF h).elim
 |cons p l ih=>
  intro nd h e;rw[aK,dm]at nd;rw[lD]at e
  induction hb:n==p.1 with
  |true=>
   rw[hb]at e;obtain rfl:=bh e;refine r4 h (fun q=>?_) fun h=>?_
   ·exact ZB q rfl
   ·exact absurd (by refine ZB (lR.mp hb) ?_;exact cA (f:=Prod.fst) h) nd.1
  |false=>
   rw[hb]at e;refine r4 h (fun q=>?_) fun h=>ih nd.2 h e;rw[←q,sX]at hb;injection hb
noncomputable abbrev lO (sc:Scope) (V:Env) (L:Addr):Env:={NC sc (m_ V sc.names []) L V with scope:=relabel sc V}
section
variable {c:ah} {k:Nat} {O:XV} {Y:B} {V:Env} {s aG:Shared} {Z eB:TW} {h₄:Heap} {sc:Scope} {ts:List (Str×cZ)} {caps:List (Str×D)} {gs:List (Str×Value)}
theorem Hr (r:bB c Z s.heap V O Y) (h:∃kd,(kd=cZ.aM∨kd= .gC)∧(⟨n,kd,some d⟩:iF)∈O):∃x a,aR Z x d∧V.kindOf n=some .cell∧V.cells.lookup n=some a∧s.heap.IsCell a (some x):=by
 refine wS h fun kd hk hm=>?_;refine wS (r.vars _ hm d rfl) fun x t l=>?_;obtain rfl|rfl:=hk
 ·refine Op l fun a Yr=>wS Yr fun b e f=>?_;exact ju x b t a e f
 ·refine Op l fun a Uw=>wS Uw fun b e f=>?_;exact ju x b t a e f
theorem Q9 (r:bB c Z s.heap V O Y) (K:Jv sc ts (caps.map Prod.fst) (gs.map Prod.fst)) (fQ:∀x∈caps,∃kd,(kd=cZ.aM∨kd= .gC)∧(⟨x.1,kd,some x.2⟩:iF)∈O)
 (rA:CellsOk h₄ (L+1) (cellsFrom (L+1) sc.names [])) (e:(lO sc V L).cells.lookup n=some a):
 (L+1≤a∧h₄.IsCell a none∧(n,a)∈cellsFrom (L+1) sc.names [])∨(∃m,V.cells.lookup m=some a):=by
 have hm:=mem_of_lookup e;obtain hm|hm:=b_.mp hm
 ·refine Op (rA.empty _ _ hm) fun h1 h2=>?_;exact .inl ⟨h2,h1,hm⟩
 ·obtain h|⟨h,q⟩:=G1 hm
  ·cases h
  ·have:=K.free _ h rfl;refine wS (ao.mp this) fun x hx s4=>?_;subst s4;refine jJ (Hr r (fQ x hx)) fun J b J J e' J=>?_;rw[e']at q;exact .inr ⟨x.1,by refine U e' ?_;exact cQ some q.symm⟩
theorem bx.comp (r:bB c Z s.heap V O Y) (t:aD c s Z aG eB) (K:Jv sc ts (caps.map Prod.fst) (gs.map Prod.fst)) (fQ:∀x∈caps,∃kd,(kd=cZ.aM∨kd= .gC)∧(⟨x.1,kd,some x.2⟩:iF)∈O) (gF:∀x∈gs,gB c.H0 x.1 x.2)
 (ns:h₄.Ns aG.heap.objs.size (fun J=>none)) (dM:∀b o,aG.heap.get? b=some o→h₄.get? b=some o) (rA:CellsOk h₄ (aG.heap.objs.size+1) (cellsFrom (aG.heap.objs.size+1) sc.names []))
 (IB:∀a cl,gA a=some cl→s.heap.objs.size≤a∧a<aG.heap.objs.size∧eB a=none∧∃o,aG.heap.get? a=some o∧eV c eB o cl):
 bx c (fun a=>s.heap.get? a) eB h₄ (lO sc V aG.heap.objs.size) (gJ ts (kJ ts) caps gs) gA:=by
 have Rh:s.heap.objs.size≤aG.heap.objs.size:=t.grow.1;have aed:c.H0.StaysIn h₄:=fun b o e=>dM b o (t.top b o e);have Ip:∀{a:Addr},(a<s.heap.objs.size∨aG.heap.objs.size≤a)→gA a=none:=fun{a} h=>by
  rcases q:gA a with _|cl
  ·rfl
  ·refine b5 (IB a cl q) fun h1 h2 J=>?_;obtain h|h:=h
   ·exact absurd h (eL.mpr h1)
   ·exact absurd h2 (eL.mpr h)
 have lk:∀{n:Str} {kd:NameKind},sc.names.lookup n=some kd→kd≠ .free→(lO sc V aG.heap.objs.size).kindOf n=some kd:=fun{n kd} e bg=>by
  show(relabel sc V).names.lookup n=some kd;refine U (H6 e) ?_;have:(kd==NameKind.free)=false:=by simpa using bg
  refine U this ?_;rfl
 have Gq:∀x∈ts,x.2= .aM→∃a,(lO sc V aG.heap.objs.size).cells.lookup x.1=some a∧(x.1,a)∈cellsFrom (aG.heap.objs.size+1) sc.names []∧h₄.IsCell a none∧aG.heap.objs.size+1≤a:=fun x hx hk=>by
  have hl:sc.names.lookup x.1=some .cell:=by
   rcases K.Ei x hx with⟨h,_⟩|⟨_,h⟩
   ·rw[hk]at h;injection h
   ·exact h
  refine aP (Fi (L:=aG.heap.objs.size+1) (wP:=[]) (.inr (mem_of_lookup hl))) fun agz ZX=>?_;refine aP (JB ZX) fun a ha=>?_;have hm:=mem_of_lookup ha;refine Op (rA.empty _ _ hm) fun h1 h2=>?_;refine tG a ?_ hm h1 h2;show(cellsFrom _ _ _++m_ _ _ _).lookup x.1=some a;refine U JP (U ha ?_);rfl
 have mem:∀v∈gJ ts (kJ ts) caps gs,(∃x∈ts,v=⟨x.1,x.2,none⟩)∨(∃x∈caps,v=⟨x.1,.gC,some x.2⟩)∨(∃x∈gs,v=⟨x.1,.bz,some (.val x.2)⟩):=fun v s5=>by
  obtain s5|s5:=b_.mp s5
  ·refine wS (ao.mp s5) fun x hx s4=>?_;subst s4;refine Op (ZK hx) fun h1 h2=>?_;exact .inl ⟨x.1,h1,by exact U h2 rfl⟩
  ·obtain s5|s5:=b_.mp s5
   ·refine wS (ao.mp s5) fun x hx s4=>?_;subst s4;exact .inr (.inl ⟨x,hx,rfl⟩)
   ·refine wS (ao.mp s5) fun x hx s4=>?_;subst s4;exact .inr (.inr ⟨x,hx,rfl⟩)
 have Kg:∀x∈caps,∃a y,(lO sc V aG.heap.objs.size).cells.lookup x.1=some a∧(lO sc V aG.heap.objs.size).kindOf x.1=some .cell∧aR Z y x.2∧s.heap.IsCell a (some y):=fun x hx=>by
  refine jJ (Hr r (fQ x hx)) fun y a ty hk hl hc=>?_;have hf:=K.aax x.1 (cA hx);refine ju a y ?_ ?_ ty hc
  ·show(cellsFrom _ _ _++m_ _ _ _).lookup x.1=some a;refine U JP ?_;have M2:(cellsFrom (aG.heap.objs.size+1) sc.names []).lookup x.1=none:=by
    rcases q:(cellsFrom (aG.heap.objs.size+1) sc.names []).lookup x.1 with _|b
    ·rfl
    ·have:=afm K.once (EC _ _ (mem_of_lookup q)) hf;injection this
   exact U M2 (Hy hl (.inl (mem_of_lookup hf)))
  ·show(relabel sc V).names.lookup x.1=some .cell;refine U (H6 hf) (U r.fn (U hk ?_));rfl
 refine⟨⟨K.kind,aed,fun b o e=>⟨dM b o (t.sub.get e),(t.sub b o e).2⟩,fun v s5 d hd=>?_,fun a cl e=>?_,⟨⟨Ip (.inr (aI _)),ns.lt⟩,fun n a e=>?_⟩,r.glob⟩,fun a o e=>?_,?_,⟨_,ns⟩,⟨uC Rh,gR t.sub (aI _),mY t.top (aI _)⟩,fun v s5 hk=>?_,fun v s5 hk=>?_,fun v s5 v' g8 hk hk' bg=>?_,fun v s5 hk=>?_,fun a ha=>?_⟩
 ·rcases mem v s5 with⟨x,hx,rfl⟩|⟨x,hx,rfl⟩|⟨x,hx,rfl⟩
  ·injection hd
  ·obtain rfl:=bh hd;refine jJ (Kg x hx) fun a y h1 h2 h3 h4=>?_;refine wS h4 fun o xz F8=>?_;refine wS (t.grow.2 _ _ xz) fun o' e' q=>?_;exact⟨y,h3.mono t.le,h2,a,h1,o',dM _ _ e',q.data.trans F8⟩
  ·obtain rfl:=bh hd;exact B6 _ (.val _) (lk (K.afl x.1 (cA hx)) (by simp)) r.glob.1 r.glob.2.1 (gF x hx)
 ·refine mz (IB a cl e) fun h1 h2 h3 SH=>wS SH fun o xz hc=>?_;exact⟨⟨o,dM _ _ xz,hc⟩,h3,mY r.top h1⟩
 ·rcases Q9 r K fQ rA e with⟨h1,h2,_⟩|⟨m,h⟩
  ·exact⟨Ip (.inr (g9 h1)),Iq h2⟩
  ·have o:=r.own.2 _ _ h;refine⟨Ip (.inl o.2),?_⟩;have:=ns.lt;exact fU o.2 (Ev Rh (fN this))
 ·refine wS (t.grow.2 _ _ e) fun o' e' q=>?_;exact⟨o',dM _ _ e',q⟩
 ·rw[Un];exact K.nodup
 ·rcases mem v s5 with⟨x,hx,rfl⟩|⟨x,hx,rfl⟩|⟨x,hx,rfl⟩
  ·rcases K.Ei x hx with⟨_,h⟩|⟨h,_⟩
   ·exact lk h (by simp)
   ·rw[show x.2=cZ.loc from hk]at h;injection h
  ·injection hk
  ·injection hk
 ·rcases mem v s5 with⟨x,hx,rfl⟩|⟨x,hx,rfl⟩|⟨x,hx,rfl⟩
  ·refine d9 (Gq x hx hk) fun a h1 h2 h3 h4=>?_;refine⟨?_,a,_,h1,h3,uC (Ev ‹_› (fN ‹_›)),gR t.sub (by exact fN ‹_›),mY t.top (by exact fN ‹_›),?_⟩
   ·rcases K.Ei x hx with⟨h,_⟩|⟨_,h⟩
    ·rw[show x.2=cZ.aM from hk]at h;injection h
    ·exact lk h (by simp)
   ·exact iE h4
  ·injection hk
  ·injection hk
 ·rcases mem v s5 with⟨x,hx,rfl⟩|⟨x,hx,rfl⟩|⟨x,hx,rfl⟩
  ·rcases mem v' g8 with⟨mG,iC,rfl⟩|⟨mG,iC,rfl⟩|⟨mG,iC,rfl⟩
   ·refine aU (Gq x hx hk) fun a h1 h2 J=>?_;refine aU (Gq mG iC hk') fun jx HS U0 J=>?_;refine U h1 (U HS ?_);intro q;obtain rfl:=bh q;exact bg (CX rA.apart h2 U0)
   ·injection hk'
   ·injection hk'
  ·injection hk
  ·injection hk
 ·rcases mem v s5 with⟨x,hx,rfl⟩|⟨x,hx,rfl⟩|⟨x,hx,rfl⟩
  ·rcases K.Ei x hx with⟨h,_⟩|⟨h,_⟩<;>(rw[show x.2=cZ.gC from hk]at h;injection h)
  ·refine jJ (Kg x hx) fun a y h1 _ _ aeI=>wS aeI fun o xz F8=>?_;exact tR a o _ h1 xz F8
  ·injection hk
 ·refine aP (n8.mp ha) fun cl e=>?_;exact uC (IB a cl e).1
end
end
section
structure uY (S:List Addr) (h h':Heap):Prop where
 size:h.objs.size≤h'.objs.size
 keep:∀b o,b∉S→h.get? b=some o→∃o',h'.get? b=some o'∧i8 o o'
theorem gD.chg (x:gD h h') (S):uY S h h':=⟨x.1,fun b o J e=>x.2 b o e⟩
theorem uY.of_same (x:Heap.SameBut a h h') (ha:a∈S):uY S h h':=⟨bT x.1.symm,fun b o hb e=>⟨o,(x.2 b fun q=>hb (q▸ha)).trans e,.refl _⟩⟩
theorem uY.abM (x:Heap.ExtBut a h h') (s:h.objs.size≤h'.objs.size) (ha:a∈S):uY S h h':=⟨s,fun b o hb e=>⟨o,x b o (fun q=>hb (q▸ha)) e,.refl _⟩⟩
noncomputable abbrev cC:=List (Addr×Obj)
noncomputable def B.add (Y:B) (os:cC):B:=fun a=>match os.lookup a with
 |some o=>some (.raw o)
 |none=>Y a
theorem aav {os:cC} (nd:(os.map Prod.fst).Nodup) {p:Addr×Obj} (hp:p∈os):os.lookup p.1=some p.2:=by
 induction os with
 |nil=>cases hp
 |cons q os ih=>
  obtain⟨a,o⟩:=q;rw[aK,dm]at nd;refine bD hp ?_ fun hp=>?_
  ·rw[lD,sX]
  ·refine U lD ?_
   induction hb:p.1==a with
   |true=>exact absurd (by refine ZB (lR.mp hb) ?_;exact cA (a:=p) (f:=Prod.fst) hp) nd.1
   |false=>exact ih nd.2 hp
theorem Sp {os:cC} {a:Addr} {o:Obj} (h:os.lookup a=some o):(a,o)∈os:=by
 induction os with
 |nil=>injection h
 |cons q os ih=>
  obtain⟨b,o'⟩:=q;rw[lD]at h
  induction hb:a==b with
  |true=>rw[hb]at h;obtain rfl:=bh h;refine U (lR.mp hb) ?_;exact .head _
  |false=>rw[hb]at h;exact .tail _ (ih h)
theorem B.jF {Y:B} {os:cC} {a:Addr} (h:a∉os.map Prod.fst):Y.add os a=Y a:=by
 unfold B.add
 induction q:os.lookup a with
 |none=>rfl
 |some o=>exact absurd (cA (f:=Prod.fst) (Sp q)) h
theorem B.mW {Y:B} {os:cC} (nd:(os.map Prod.fst).Nodup) {p:Addr×Obj} (hp:p∈os):Y.add os p.1=some (.raw p.2):=by
 unfold B.add;exact U (aav nd hp) rfl
section
variable {c:ah} {bs Z Z':TW} {h h':Heap} {V:Env} {O:XV} {Y:B} {a:Addr} {cl eN:iz} {o o':Obj}
noncomputable def putL (bs:TW):List (Addr×Obj)→TW
 |[]=>bs
 |p::os=>putL (TW.put bs p.1 p.2) os
theorem FW (bs p os):putL bs (p::os)=putL (TW.put bs p.1 p.2) os:=rfl
theorem nF:∀{os:cC} {bs:TW} {a:Addr},a∉os.map Prod.fst→putL bs os a=bs a
 |[],_,_,_=>rfl
 |p::os,bs,a,h=>by
  rw[aK,a_,pT]at h;rw[FW,nF h.2];exact Tk h.1
theorem Jh {os:cC} {p:Addr×Obj} (hp:p∈os):∀{bs:TW},(os.map Prod.fst).Nodup→putL bs os p.1=some p.2:=by
 induction os with
 |nil=>cases hp
 |cons q os ih=>
  intro bs nd;rw[aK,dm]at nd;refine bD hp ?_ fun hp=>?_
  ·rw[FW,nF nd.1];exact TW.ai ..
  ·rw[FW];exact ih hp nd.2
theorem bx.afo {os:cC} (w:bx c bs Z h V O (Y.add os)) (nd:(os.map Prod.fst).Nodup) (xz:∀p∈os,h.get? p.1=some p.2) (hm:∀p∈os,Y p.1=none):bx c (putL bs os) Z h V O Y:=by
 have le:∀{a:Addr} {cl:iz},Y a=some cl→Y.add os a=some cl:=fun{a cl} e=>by
  rw[B.jF];exact e;intro hx;refine wS (ao.mp hx) fun p hp s4=>?_;subst s4;rw[hm p hp]at e;injection e
 have rP:∀{a:Addr},lT (Y.add os) h a→lT Y h a∧a∉os.map Prod.fst:=fun{a} x=>by
  have:a∉os.map Prod.fst:=fun hx=>by
   refine wS (ao.mp hx) fun p hp s4=>?_;subst s4;have:=x.1;rw[B.mW nd hp]at this;injection this
  exact⟨⟨by have:=x.1;rwa [B.jF ‹_›]at this,x.2⟩,this⟩
 refine⟨⟨w.rd.fn,w.rd.top,w.rd.sub,w.rd.vars,fun a cl e=>w.rd.cells a cl (le e),⟨(rP w.rd.own.1).1,fun n a e=>(rP (w.rd.own.2 n a e)).1⟩,w.rd.glob⟩,fun a o e=>?_,w.names,w.ns,⟨?_,w.iK.2⟩,w.locs,fun v s5 hk=>?_,w.apart,fun v s5 hk=>?_,fun a ha=>?_⟩
 ·by_cases q:a∈os.map Prod.fst
  ·refine wS (ao.mp q) fun p hp s4=>?_;subst s4;rw[Jh hp nd]at e;obtain rfl:=bh e;exact⟨_,xz p hp,.refl _⟩
  ·rw[nF q]at e;exact w.keep a o e
 ·exact U (nF (rP w.rd.own.1).2) w.iK.1
 ·refine Op (w.kK v s5 hk) fun k1 aaZ=>jJ aaZ fun b y k2 k3 vf k5=>?_;exact⟨k1,b,y,k2,k3,by refine U (nF (rP (w.rd.own.2 _ _ k2)).2) ?_;exact vf,k5⟩
 ·refine dW (w.caps v s5 hk) fun b kr y k2 k3 vf=>?_;refine tR b kr y k2 ?_ vf;exact U (nF (rP (w.rd.own.2 _ _ k2)).2) k3
 ·have hx:a∉os.map Prod.fst:=fun hx=>by
   refine wS (ao.mp hx) fun p hp s4=>?_;subst s4;exact ha (hm p hp)
  refine U (nF hx) ?_;refine aP (n8.mp ha) fun cl e=>?_;exact w.mem a (by refine U (le e) ?_;simp)
theorem bx.XE {os:cC} (w:bx c (putL bs os) Z h V O Y) (nd:(os.map Prod.fst).Nodup) (hp:∀p∈os,bs p.1=none∧Z p.1=none∧c.H0.get? p.1=none∧p.2.cls≠ .type "frame"∧∀x,p.2.data≠ .cell x)
 (hl:V.locals∉os.map Prod.fst) (hc:∀n a,V.cells.lookup n=some a→a∉os.map Prod.fst):(∀p∈os,h.get? p.1=some p.2)∧(∀p∈os,Y p.1=none)∧bx c bs Z h V O (Y.add os):=by
 have xz:∀p∈os,h.get? p.1=some p.2:=fun p eK=>by
  refine wS (w.keep p.1 p.2 (Jh eK nd)) fun bU e1 q=>?_;rw[q.eq (hp p eK).2.2.2.1]at e1;exact e1
 have hm:∀p∈os,Y p.1=none:=fun p eK=>w.QS (Jh eK nd);have rP:∀{a:Addr},lT Y h a→a∉os.map Prod.fst→lT (Y.add os) h a:=fun{a} x hx=>⟨by refine U (B.jF hx) ?_;exact x.1,x.2⟩;have l7:∀{a:Addr},bs a≠none→a∉os.map Prod.fst:=fun{a} e hx=>by
  refine wS (ao.mp hx) fun p eK s4=>?_;subst s4;exact e (hp p eK).1
 refine⟨xz,hm,⟨⟨w.rd.fn,w.rd.top,w.rd.sub,w.rd.vars,fun a cl e=>?_,⟨rP w.rd.own.1 hl,fun n a e=>rP (w.rd.own.2 n a e) (hc n a e)⟩,w.rd.glob⟩,fun a o e=>w.keep a o ?_,w.names,w.ns,⟨?_,w.iK.2⟩,w.locs,fun v s5 hk=>?_,w.apart,fun v s5 hk=>?_,fun a ha=>?_⟩⟩
 ·by_cases q:a∈os.map Prod.fst
  ·refine wS (ao.mp q) fun p eK s4=>?_;subst s4;rw[B.mW nd eK]at e;obtain rfl:=bh e;exact⟨⟨_,xz p eK,rfl,(hp p eK).2.2.2.1⟩,(hp p eK).2.1,(hp p eK).2.2.1⟩
  ·rw[B.jF q]at e;exact w.rd.cells a cl e
 ·refine U (nF (l7 (by refine U e ?_;simp))) ?_;exact e
 ·have:=w.iK.1
  rwa [nF hl]at this
 ·refine Op (w.kK v s5 hk) fun k1 VI=>jJ VI fun b y k2 k3 vf k5=>?_;exact⟨k1,b,y,k2,k3,by rwa [nF (hc _ _ k2)]at vf,k5⟩
 ·refine dW (w.caps v s5 hk) fun b kr y k2 k3 vf=>?_;exact tR b kr y k2 (by rwa [nF (hc _ _ k2)]at k3) vf
 ·by_cases q:a∈os.map Prod.fst
  ·refine wS (ao.mp q) fun p eK s4=>?_;subst s4;exact(hp p eK).1
  ·rw[B.jF q]at ha;have:=w.mem a ha
   rwa [nF q]at this
theorem aO.chg (r:gy c Z s.heap Y) (x:uY S s.heap s'.heap) (hS:∀a∈S,Y a≠none) (hf:∀a∈S,∀o,s.heap.get? a=some o→kc o→∃o',s'.heap.get? a=some o'∧kc o')
 (top:c.H0.StaysIn s'.heap) (ex:qQ s.heap Z Z') (sub:Sub Z' s'.heap) (same:∀a,a∉S→I a=Y a) (jz:∀a∈S,∀cl,I a=some cl→∃o,s'.heap.get? a=some o∧eV c Z' o cl)
 (tok:s.toks≤s'.toks) (rest:∃h t,s'={s with heap:=h,toks:=t}):aO c Y s Z I s' Z':=by
 have zn:∀{a:Addr} {o:Obj},s.heap.get? a=some o→Z a=none→Z' a=none:=fun{a o} e h=>by
  induction q:Z' a with
  |none=>rfl
  |some f5=>
   obtain e'|e':=ex.2 a f5 q
   ·rw[h]at e';injection e'
   ·exact absurd (cJ e) (eL.mpr e')
 refine⟨x.size,fun a o ha e=>x.keep a o (fun hx=>hS a hx ha) e,fun b o e h=>?_,top,ex.1,fun a o e=>(ex.2 a o e).imp id .inr,sub,fun a h=>?_,fun a cl e=>?_,tok,rest⟩
 ·by_cases q:b∈S
  ·exact hf b q o e h
  ·refine wS (x.keep b o q e) fun o' e' q'=>?_;exact⟨o',e',q'.Ci h⟩
 ·by_cases q:a∈S
  ·exact .inl (hS a q)
  ·rw[same a q]at h;exact .inl h
 ·by_cases q:a∈S
  ·refine aP (n8.mp (hS a q)) fun uL i6=>?_;refine b5 (r a uL i6) fun aH hz h0=>?_;refine wS aH fun o xz J=>?_;exact⟨jz a q cl e,zn xz hz,h0⟩
  ·rw[same a q]at e;refine b5 (r a cl e) fun aH hz h0=>?_;refine wS aH fun o xz hc=>?_;refine wS (x.keep a o q xz) fun o' e' q'=>?_;exact⟨⟨o',e',(hc.same q').mono ex.1⟩,zn xz hz,h0⟩
theorem aO.put (r:gy c Z s.heap Y) (top:c.H0.StaysIn s.heap) (sub:Sub Z s.heap) (ha:Y a≠none∧Y a≠some .any) (av:Heap.SameBut a s.heap h') (xz:h'.get? a=some o') (hf:∀H,o'.data≠ .fields H) (hc:eV c Z o' eN) (tok:s.toks≤t):aO c Y s Z (Y.put a (some eN)) {s with heap:=h',toks:=t} Z:=by
 refine aP (n8.mp ha.1) fun uL i6=>?_;refine b5 (r a uL i6) fun aH hz h0=>?_;obtain⟨XO,GO,H9⟩:=aH;refine aO.chg (S:=[a]) r (.of_same av (.head _)) (fun b hb=>by refine U (fG.mp hb) ?_;exact ha.1) (fun b hb o e h=>?_) (fun b o e=>?_) (.refl ..) (fun b o e=>?_) (fun b hb=>Tk (fun q=>hb (by refine U q ?_;exact .head _))) (fun b hb cl e=>?_) tok ⟨_,_,rfl⟩
 ·rw[fG.mp hb,GO]at e;obtain rfl:=bh e;exact absurd h.2 (H9.M7 (by rintro rfl;exact ha.2 i6))
 ·exact(av.2 b (by rintro rfl;rw[h0]at e;injection e)).trans (top b o e)
 ·exact⟨(av.2 b (by rintro rfl;rw[hz]at e;injection e)).trans (sub.get e),(sub b o e).2⟩
 ·rw[fG.mp hb]at e⊢;rw[B.ai]at e;obtain rfl:=bh e;exact⟨o',xz,hc⟩
theorem aO.new (r:gy c Z s.heap Y) (top:c.H0.StaysIn s.heap) (sub:Sub Z s.heap) (hf:o.isFreed=false) (hc:eV c Z o cl) (tok:s.toks≤t):aO c Y s Z (Y.put s.heap.objs.size (some cl)) {s with heap:=s.heap.push o,toks:=t} Z:=by
 have M2:Y s.heap.objs.size=none:=by
  induction q:Y s.heap.objs.size with
  |none=>rfl
  |some cl=>
   refine Op (r _ cl q) fun aH J=>?_;refine wS aH fun o' e' J=>?_;exact absurd (cJ e') (yG _)
 refine⟨by rw[eX];exact bX _ _,fun a o' J e=>⟨o',bY _ e,.refl _⟩,fun b o' e h=>⟨o',bY _ e,h⟩,fun b o' e=>bY _ (top b o' e),.refl _,fun J J e=>.inl e,fun b o' e=>⟨bY _ (sub.get e),(sub b o' e).2⟩,fun a h=>?_,fun a eN e=>?_,tok,⟨_,_,rfl⟩⟩
 ·by_cases q:a=s.heap.objs.size
  ·exact .inr (bT q.symm)
  ·rw[B.aa _ _ q]at h;exact .inl h
 ·by_cases q:a=s.heap.objs.size
  ·subst q;rw[B.ai]at e;obtain rfl:=bh e;exact⟨⟨o,d7 _ hf,hc⟩,gR sub (aI _),mY top (aI _)⟩
  ·rw[B.aa _ _ q]at e;refine Op (r a eN e) fun aH h2=>?_;refine wS aH fun o' e' h'=>?_;exact⟨⟨o',bY _ e',h'⟩,h2⟩
theorem gy.fresh (r:gy c Z h Y) (ha:h.objs.size≤a):Y a=none:=by
 induction q:Y a with
 |none=>rfl
 |some cl=>
  refine Op (r _ cl q) fun aH J=>?_;refine wS aH fun o' e' J=>?_;exact absurd (cJ e') (eL.mpr ha)
end
end
structure dN (c:ah) (S:List Addr) (s s':Shared) (Z Z':TW):Prop where
 chg:uY S s.heap s'.heap
 top:c.H0.StaysIn s'.heap
 ext:qQ s.heap Z Z'
 sub:Sub Z' s'.heap
 up:cB s s'
 fld:∀b o,s.heap.get? b=some o→kc o→∃o',s'.heap.get? b=some o'∧kc o'
 rest:∃h t,s'={s with heap:=h,toks:=t}
noncomputable def gc (h:Heap) (os:cC):Prop:=∀p∈os,h.get? p.1=some p.2
noncomputable def Rows (os:cC):Prop:=(os.map Prod.fst).Nodup∧∀p∈os,p.2.cls≠ .type "frame"∧∀x,p.2.data≠ .cell x
theorem dN.af {c:ah} {os:cC} {s s':Shared} {Z Z':TW} (x:dN c (os.map Prod.fst) s s' Z Z') (xz:gc s.heap os) (hr:Rows os):kO s s':=
 ⟨fun b kr e hb=>x.fld b kr e hb,x.up.size,x.up.toks,x.rest⟩
structure qO (c:ah) (J:TW→List D→Addr→cC→Prop) (Src:B→Prop) (oW:Expr→Prop:=fun K=>True):Prop where
 mono:∀{Z Z':TW} {l:List D} {it:Addr} {os:cC},fS Z Z'→J Z l it os→J Z' l it os
 rows:∀{Z:TW} {l:List D} {it:Addr} {os:cC},J Z l it os→Rows os
 iter:∀{A:Around} {s:Shared} {Z:TW} {it:Addr} {os:cC} {l:List D} {Q:Value→Shared→Prop} {E:Value→Shared→Prop},gc s.heap os→J Z l it os→Q (.ref it) s→wpAny c.M A (pyIter (.ref it)) Q E s
 go:∀{A:Around} {s:Shared} {Z:TW} {it:Addr} {os:cC} {l:List D} {v:Value} {br:Expr} {Q:Unit→Shared→Prop} {E:Value→Shared→Prop},oW br→Sub Z s.heap→c.H0.StaysIn s.heap→(∀p∈os,Z p.1=none∧c.H0.get? p.1=none)→gc s.heap os→J Z l it os→
  (∀s' bw,dN c (os.map Prod.fst) s s' Z Z→bw.map Prod.fst=os.map Prod.fst→gc s'.heap bw→J Z l it bw→Q () s')→wpAny c.M A (letOwnedTupleGo br (.ref it) v) Q E s
 next:∀{A:Around} {V:Env} {s:Shared} {Z:TW} {O:XV} {Y:B} {it:Addr} {os:cC} {d:D} {l:List D} {Q:Option Value→Shared→Prop} {E:Value→Shared→Prop},A.handled=none→bB c Z s.heap V O Y→Src Y→(∀p∈os,Z p.1=none∧c.H0.get? p.1=none)→gc s.heap os→J Z (d::l) it os→
  (∀v s' Z' bw,dN c (os.map Prod.fst) s s' Z Z'→bw.map Prod.fst=os.map Prod.fst→gc s'.heap bw→J Z' l it bw→aR Z' v d→Q (some v) s')→wpAny c.M A (pyNext (.ref it)) Q E s
 fin:∀{A:Around} {V:Env} {s:Shared} {Z:TW} {O:XV} {Y:B} {it:Addr} {os:cC} {Q:Option Value→Shared→Prop} {E:Value→Shared→Prop},A.handled=none→bB c Z s.heap V O Y→Src Y→(∀p∈os,Z p.1=none∧c.H0.get? p.1=none)→gc s.heap os→J Z [] it os→
  (∀s' Z',dN c (os.map Prod.fst) s s' Z Z'→Q none s')→wpAny c.M A (pyNext (.ref it)) Q E s
structure jX (c:ah) (J:TW→List D→Addr→cC→Prop) (Src:B→Prop) (oW:Expr→Prop:=fun K=>True):Prop where
 mono:∀{Z Z':TW} {l:List D} {it:Addr} {os:cC},fS Z Z'→J Z l it os→J Z' l it os
 rows:∀{Z:TW} {l:List D} {it:Addr} {os:cC},J Z l it os→Rows os
 iter:∀{A:Around} {s:Shared} {Z:TW} {it:Addr} {os:cC} {l:List D} {Q:Value→Shared→Prop} {E:Value→Shared→Prop},gc s.heap os→J Z l it os→Q (.ref it) s→wpAny c.M A (pyIter (.ref it)) Q E s
 next:∀{A:Around} {V:Env} {s:Shared} {Z:TW} {O:XV} {Y:B} {it:Addr} {os:cC} {d:D} {l:List D} {Q:Option Value→Shared→Prop} {E:Value→Shared→Prop},A.handled=none→bB c Z s.heap V O Y→Src Y→(∀p∈os,Z p.1=none∧c.H0.get? p.1=none)→gc s.heap os→J Z (d::l) it os→
  (∀v s' Z' bw,dN c (os.map Prod.fst) s s' Z Z'→bw.map Prod.fst=os.map Prod.fst→gc s'.heap bw→Rows bw→aR Z' v d→
   (∀{NV:Around} {br:Expr} {wB:Unit→Shared→Prop} {mD:Value→Shared→Prop},oW br→(∀p∈bw,Z' p.1=none∧c.H0.get? p.1=none)→
    (∀s'' xK,dN c (bw.map Prod.fst) s' s'' Z' Z'→xK.map Prod.fst=bw.map Prod.fst→gc s''.heap xK→J Z' l it xK→wB () s'')→wpAny c.M NV (letOwnedTupleGo br (.ref it) v) wB mD s')→Q (some v) s')→wpAny c.M A (pyNext (.ref it)) Q E s
 fin:∀{A:Around} {V:Env} {s:Shared} {Z:TW} {O:XV} {Y:B} {it:Addr} {os:cC} {Q:Option Value→Shared→Prop} {E:Value→Shared→Prop},A.handled=none→bB c Z s.heap V O Y→Src Y→(∀p∈os,Z p.1=none∧c.H0.get? p.1=none)→gc s.heap os→J Z [] it os→
  (∀s' Z',dN c (os.map Prod.fst) s s' Z Z'→Q none s')→wpAny c.M A (pyNext (.ref it)) Q E s
theorem qO.dg (x:qO c J Src oW):jX c J Src oW:=
 ⟨x.mono,x.rows,x.iter,fun hh r src cK st mK q=>x.next hh r src cK st mK fun v s' Z' bw jj hk xz wc tv=>q v s' Z' bw jj hk xz (x.rows wc) tv fun tN F4 q'=>x.go tN jj.sub jj.top F4 xz wc q',x.fin⟩
noncomputable def bF (c:ah) (k:Nat) (O:XV) (Y:B) (e:Expr) (J:TW→List D→Addr→cC→Prop) (items:List D):Prop:=
 ∀(A:Around) (V:Env) (s:Shared) (Z:TW),Ok c k A s→bB c Z s.heap V O Y→∀(Q E:Value→Shared→Prop),
  (∀a os s' Z',aD c s Z s' Z'→gc s'.heap os→(∀p∈os,s.heap.objs.size≤p.1∧Z' p.1=none)→J Z' items a os→Q (.ref a) s')→wpAny c.M A (eval e V) (fun x s₁=>wpAny c.M A (pyIter x) Q E s₁) E s
noncomputable def bl (c:ah) (O:XV) (Y:B) (t:Expr) (d:D) (aX:XV→Prop):Prop:=
 ∀(A:Around) (V:Env) (s:Shared) (bs Z:TW) (v:Value),A.handled=none→bx c bs Z s.heap V O Y→aR Z v d→∀(Q:Unit→Shared→Prop) (E:Value→Shared→Prop),
  (∀NE s' Z',e8 Y s Z Y s' Z'→bx c bs Z' s'.heap V NE Y→aX NE→Q () s')→wpAny c.M A (assign t V v) Q E s
theorem bl.name (eW:dX n d O NE) (h:aX NE):bl c O Y (.Name n p) d aX:=
 fun A V s bs Z v hh w t Q E q=>wG (nM w eW t fun s' m cU=>q NE s' Z ⟨m,.refl _,fun K K h=>.inl h,fun K h=>.inl h⟩ cU h)
theorem dN.DR {c:ah} {os bw:cC} {Y:B} {s s':Shared} {Z Z':TW} (x:dN c (os.map Prod.fst) s s' Z Z') (r:gy c Z s.heap (Y.add os)) (xz:gc s.heap os) (hr:Rows os) (ur:Rows bw) (hk:bw.map Prod.fst=os.map Prod.fst) (bK:gc s'.heap bw):aO c (Y.add os) s Z (Y.add bw) s' Z':=by
 refine aO.chg r x.chg (fun a ha=>?_) (fun a ha o e h=>?_) x.top x.ext x.sub (fun a ha=>?_) (fun a ha cl e=>?_) x.up.toks x.rest
 ·refine wS (ao.mp ha) fun p hp s4=>?_;subst s4;refine U (B.mW hr.1 hp) ?_;simp
 ·exact x.fld a o e h
 ·exact U (B.jF ha) (U (B.jF (by refine U hk ?_;exact ha)) rfl)
 ·rw[←hk]at ha;refine wS (ao.mp ha) fun p hp s4=>?_;subst s4;rw[B.mW ur.1 hp]at e;obtain rfl:=bh e;exact gg _ (bK p hp) rfl ((ur.2 p hp).1)
theorem dN.toEnd {c:ah} {os:cC} {Y:B} {s s':Shared} {Z Z':TW} (x:dN c (os.map Prod.fst) s s' Z Z') (r:gy c Z s.heap (Y.add os)) (xz:gc s.heap os) (hr:Rows os) (hm:∀p∈os,Y p.1=none):aO c (Y.add os) s Z Y s' Z':=by
 refine aO.chg r x.chg (fun a ha=>?_) (fun a ha o e h=>?_) x.top x.ext x.sub (fun a ha=>?_) (fun a ha cl e=>?_) x.up.toks x.rest
 ·refine wS (ao.mp ha) fun p hp s4=>?_;subst s4;refine U (B.mW hr.1 hp) ?_;simp
 ·exact x.fld a o e h
 ·exact U (B.jF ha) rfl
 ·refine wS (ao.mp ha) fun p hp s4=>?_;subst s4;rw[hm p hp]at e;injection e
theorem dN.xD {c:ah} {os:cC} {s s':Shared} {Z Z':TW} (x:dN c (os.map Prod.fst) s s' Z Z') (xz:gc s.heap os) (hr:Rows os) (Y):e8 Y s Z Y s' Z':=⟨x.af xz hr,x.ext.1,fun a o e=>(x.ext.2 a o e).imp id .inr,fun K h=>.inl h⟩
theorem bx.shrink (w:bx c bs Z h V O Y) (le:∀a cl,I a=some cl→Y a=some cl):bx c bs Z h V O I:=by
 have no:∀{a:Addr},Y a=none→I a=none:=fun{a} e=>by
  induction q:I a with
  |none=>rfl
  |some cl=>rw[le a cl q]at e;injection e
 refine⟨⟨w.rd.fn,w.rd.top,w.rd.sub,w.rd.vars,fun a cl e=>w.rd.cells a cl (le a cl e),⟨⟨no w.rd.own.1.1,w.rd.own.1.2⟩,fun n a e=>⟨no (w.rd.own.2 n a e).1,(w.rd.own.2 n a e).2⟩⟩,w.rd.glob⟩,w.keep,w.names,w.ns,w.iK,w.locs,w.kK,w.apart,w.caps,fun a ha=>?_⟩;refine aP (n8.mp ha) fun cl e=>?_;exact w.mem a (by refine U (le a cl e) ?_;simp)
theorem bx.news {c:ah} {bs Z aB:TW} {s s₁:Shared} {V:Env} {O:XV} {Y:B} {os:cC} (w:bx c bs Z s.heap V O Y) (t:aD c s Z s₁ aB) (hr:Rows os) (xz:gc s₁.heap os) (M2:∀p∈os,s.heap.objs.size≤p.1∧aB p.1=none):(∀p∈os,Y p.1=none)∧bx c bs aB s₁.heap V O (Y.add os):=by
 have w₁:=w.step t;have out:∀{a:Addr},a<s.heap.objs.size→a∉os.map Prod.fst:=fun{a} h hx=>by
  refine wS (ao.mp hx) fun p hp s4=>?_;subst s4;exact absurd h (eL.mpr (M2 p hp).1)
 have hm:∀p∈os,Y p.1=none:=fun p hp=>w.rd.fresh (M2 p hp).1;refine⟨hm,⟨w₁.rd.fn,w₁.rd.top,w₁.rd.sub,w₁.rd.vars,fun a cl e=>?_,⟨?_,fun n a e=>?_⟩,w₁.rd.glob⟩,w₁.keep,w₁.names,w₁.ns,w₁.iK,w₁.locs,w₁.kK,w₁.apart,w₁.caps,fun a ha=>?_⟩
 ·by_cases q:a∈os.map Prod.fst
  ·refine wS (ao.mp q) fun p hp s4=>?_;subst s4;rw[B.mW hr.1 hp]at e;obtain rfl:=bh e;exact⟨⟨_,xz p hp,rfl,(hr.2 p hp).1⟩,(M2 p hp).2,mY w.rd.top (M2 p hp).1⟩
  ·rw[B.jF q]at e;exact w₁.rd.cells a cl e
 ·exact⟨by refine U (B.jF (out w.rd.own.1.2)) ?_;exact w₁.rd.own.1.1,w₁.rd.own.1.2⟩
 ·exact⟨by refine U (B.jF (out (w.rd.own.2 n a e).2)) ?_;exact(w₁.rd.own.2 n a e).1,(w₁.rd.own.2 n a e).2⟩
 ·by_cases q:a∈os.map Prod.fst
  ·refine wS (ao.mp q) fun p hp s4=>?_;subst s4
   induction n9:bs p.1 with
   |none=>rfl
   |some o=>exact absurd (w.lt n9) (eL.mpr (M2 p hp).1)
  ·rw[B.jF q]at ha;exact w₁.mem a ha
theorem FM.for (hh:c.hd=false) (dg:jX c J Src oW)
 (hi:bF c k O Y iter J items) (Inv:List D→XV→B→Prop) (h0:Inv items O Y) (fT:∀l NE I,Inv l NE I→Src I)
 (turn:∀d rest NE I,Inv (d::rest) NE I→bl c NE I br d fun dJ=>wE c k dJ I body (FD (Inv rest) Sc))
 (fin:∀NE I,Inv [] NE I→wE c k NE I orelse Sc)
 (hs:∀V x,foldedSetIterable iter V x=pure x:=by intros;rfl) (tN:oW br:=by trivial):FM c k O Y (.For br iter body orelse pos) Sc:=by
 intro A V s bs Z ok w Q E q;have hand:=ok.hand hh;refine wpAny_For (hi A V s Z ok w.rd _ E fun a os s₁ aB EQ xz o_ mK=>?_) (hs V);have sh:=dg.rows mK;have apart:∀p∈os,bs p.1=none∧c.H0.get? p.1=none:=fun p hp=>⟨by
  rcases n9:bs p.1 with _|o
  ·rfl
  ·exact absurd (w.lt n9) (eL.mpr (o_ p hp).1),mY w.rd.top (o_ p hp).1⟩
 have W7:V.locals∉os.map Prod.fst:=fun hx=>by
  refine wS (ao.mp hx) fun p hp e=>?_;exact absurd w.rd.own.1.2 (eL.mpr (by refine ZB e ?_;exact(o_ p hp).1))
 have cout:∀n a,V.cells.lookup n=some a→a∉os.map Prod.fst:=fun n a ha hx=>by
  refine wS (ao.mp hx) fun p hp e=>?_;exact absurd (w.rd.own.2 n a ha).2 (eL.mpr (by refine ZB e ?_;exact(o_ p hp).1))
 refine Op (w.news EQ sh xz o_) fun hm ac1=>?_;refine codeAny_forLoop_any (fun n s₂=>∃aE NE I Z' bw,n=aE.length∧Inv aE NE I∧bx c bs Z' s₂.heap V NE (I.add bw)∧gc s₂.heap bw∧bw.map Prod.fst=os.map Prod.fst∧(∀p∈bw,I p.1=none)∧J Z' aE a bw∧e8 Y s Z I s₂ Z') ?_ items.length ⟨items,O,Y,aB,os,rfl,h0,ac1,xz,rfl,hm,mK,EQ.run Y⟩;intro n s₂ Go;refine ace Go fun aE NE I bA Sk s4 inv w₂ xY aez hm₂ Fg tV=>?_;subst s4;have z4:=dg.rows Fg;have ap:∀{bw:cC},bw.map Prod.fst=os.map Prod.fst→∀p∈bw,bs p.1=none∧c.H0.get? p.1=none:=fun{bw} e p hp=>by
  have:p.1∈os.map Prod.fst:=by refine ZB e ?_;exact cA hp
  refine wS (ao.mp this) fun c_ eK e'=>?_;exact ZB e' (apart c_ eK)
 have KV:bB c bA s₂.heap V NE I:=(w₂.shrink (I:=I) fun a cl e=>by
  rw[B.jF];exact e;intro hx;refine wS (ao.mp hx) fun p hp s4=>?_;subst s4;rw[hm₂ p hp]at e;injection e).rd
 have PA:∀p∈Sk,bA p.1=none∧c.H0.get? p.1=none:=fun p hp=>(w₂.rd.cells p.1 _ (B.mW z4.1 hp)).2;have mh:=ok.af tV.af;obtain _|⟨d,rest⟩:=aE
 ·refine dg.fin hand KV (fT _ _ _ inv) PA xY Fg fun aG eB jj=>?_;have nZ:=tV.trans (jj.xD xY z4 I);refine fin NE I inv A V aG bs eB (ok.af nZ.af) (w₂.after (jj.toEnd w₂.rd.cells xY z4 hm₂)) _ _ fun f5 f jh oJ Sv iO dG h=>?_;exact q f5 f jh oJ (nZ.trans Sv) iO dG h
 ·refine dg.next hand KV (fT _ _ _ inv) PA xY Fg fun v aG eB GK jj wC qz q6 tv EF=>?_;have nZ:=tV.trans (jj.xD xY z4 I);have w₃:=w₂.after (jj.DR w₂.rd.cells xY z4 q6 wC qz);have IL:∀p∈GK,eB p.1=none∧c.H0.get? p.1=none:=fun p hp=>(w₃.rd.cells p.1 _ (B.mW q6.1 hp)).2;refine EF tN IL fun jh lC AB wF zQ AJ=>?_;have r8:=dg.rows AJ;have AS:=nZ.trans (AB.xD qz q6 I);have iO:=w₃.after (AB.DR w₃.rd.cells qz q6 r8 wF zQ);have af4:∀p∈lC,eB p.1=none∧c.H0.get? p.1=none:=fun p hp=>(iO.rd.cells p.1 _ (B.mW r8.1 hp)).2;have ou:lC.map Prod.fst=os.map Prod.fst:=wF.trans (wC.trans aez);have Qg:∀p∈lC,I p.1=none:=fun p hp=>by
   have:p.1∈Sk.map Prod.fst:=by refine ZB wC (ZB wF ?_);exact cA hp
   refine wS (ao.mp this) fun c_ eK e'=>?_;exact ZB e' (hm₂ c_ eK)
  refine turn d rest NE I inv A V jh (putL bs lC) eB v hand (iO.afo r8.1 zQ Qg) tv _ _ fun Bs iw uI yV ic dI=>?_;refine dI A V iw (putL bs lC) uI (ok.af (AS.trans yV).af) ic _ _ fun f5 f uh oU UZ n6 dG h=>?_;have F6:=yV.trans UZ;have Dt:=AS.trans F6;obtain⟨KL,IY,v7⟩:=bx.XE n6 r8.1 (fun p hp=>by
   have lt:=cJ (zQ p hp);refine Op (r8.2 p hp) fun hf hd=>?_;exact Cs ((ap ou p hp).1) (F6.AX (af4 p hp).1 (Qg p hp) lt) ((ap ou p hp).2) hf hd) (by refine U ou ?_;exact W7) (fun n a e=>by refine U ou ?_;exact cout n a e)
  have HF:bx c bs oU uh.heap V f5.O f5.Y:=v7.shrink fun a cl e=>by
   rw[B.jF];exact e;intro hx;refine wS (ao.mp hx) fun p hp s4=>?_;subst s4;rw[IY p hp]at e;injection e
  have PT:J oU rest a lC:=dg.mono F6.le AJ
  induction dG with
  |next=>exact⟨rest.length,jM _,rest,_,_,oU,lC,rfl,h,v7,KL,ou,IY,PT,Dt⟩
  |cont=>exact⟨rest.length,jM _,rest,_,_,oU,lC,rfl,h,v7,KL,ou,IY,PT,Dt⟩
  | @brk J7 kY=>exact q (.next J7 kY) .next uh oU Dt HF .next h
  |ret t=>exact q _ _ uh oU Dt HF (.ret t) h
theorem aD.alloc (top:c.H0.StaysIn s.heap) (sub:Sub Z s.heap) (o):aD c s Z {s with heap:=s.heap.push o} Z:=
 ⟨.push ..,fun a o' e=>bY _ (top a o' e),.refl ..,fun a o' e=>⟨bY _ (sub.get e),(sub a o' e).2⟩,aI _,⟨_,_,rfl⟩⟩
theorem MB {c:ah} {a:Addr} {h h':Heap} (top:c.H0.StaysIn h) (n:c.H0.get? a=none) (x:Heap.ExtBut a h h'):c.H0.StaysIn h':=fun b o e=>x b o (by rintro rfl;rw[n]at e;injection e) (top b o e)
theorem QX (sub:Sub Z h) (n:Z a=none) (x:Heap.ExtBut a h h'):Sub Z h':=fun b o e=>⟨x b o (by rintro rfl;rw[n]at e;injection e) (sub.get e),(sub b o e).2⟩
theorem dN.same (top:c.H0.StaysIn s.heap) (sub:Sub Z s.heap) (n:Z a=none∧c.H0.get? a=none) (x:Heap.SameBut a s.heap h') (ha:a∈S) (FS:s.toks≤t) (hf:∃o H,s.heap.get? a=some o∧o.data= .fields H):dN c S s {s with heap:=h',toks:=t} Z Z:=
 ⟨.of_same x ha,MB top n.2 x.extBut,.refl ..,QX sub n.1 x.extBut,⟨FS,bT x.1.symm⟩,fun b o e hb=>⟨o,x.extBut b o (by rintro rfl;refine eO hf fun o' H e' hd=>?_;rw[e]at e';obtain rfl:=bh e';exact hb.qP H hd) e,hb⟩,⟨_,_,rfl⟩⟩
theorem dN.ext' (top:c.H0.StaysIn s.heap) (sub:Sub Z s.heap) (n:Z a=none∧c.H0.get? a=none) (x:Heap.ExtBut a s.heap h') (ha:a∈S) (u:cB s {s with heap:=h'}) (hf:∃o H,s.heap.get? a=some o∧o.data= .fields H):dN c S s {s with heap:=h'} Z Z:=
 ⟨.abM x u.size ha,MB top n.2 x,.refl ..,QX sub n.1 x,u,fun b o e hb=>⟨o,x b o (by rintro rfl;refine eO hf fun o' H e' hd=>?_;rw[e]at e';obtain rfl:=bh e';exact hb.qP H hd) e,hb⟩,⟨_,_,rfl⟩⟩
theorem dN.id (top:c.H0.StaysIn s.heap) (sub:Sub Z s.heap):dN c S s s Z Z:=⟨(gD.refl _).chg S,top,.refl ..,sub,.refl _,fun b o e h=>⟨o,e,h⟩,⟨_,_,rfl⟩⟩
theorem wJ {c:ah} {A:Around} {s:Shared} {it:Addr} {o:Obj} {n:String} {H:Array Value} {v:Value} {br:Expr} {Q:Unit→Shared→Prop} {E:Value→Shared→Prop} (xz:s.heap.get? it=some o) (hc:o.cls= .type n) (hd:o.data= .fields H)
 (M2:["enumerate","zip","dict_itemiterator","dict_reverseitemiterator","odict_iterator","itertools.zip_longest","itertools.pairwise"].contains n=false) (h:Q () s):wpAny c.M A (letOwnedTupleGo br (.ref it) v) Q E s:=by
 have key:∀(v:Value),wpAny c.M A (do
  let(.ref r,.ref a):=(Value.ref it,v)|return
  let o←load r
  match o.cls,o.data with
  | .type n,.fields H=>
   if ["enumerate","zip","dict_itemiterator","dict_reverseitemiterator","odict_iterator","itertools.zip_longest","itertools.pairwise"].contains n&&H[0]?==some (rawInt a)then
    rule "for.unpacks-the-owned-tuple"
    updateField r 0 .none
  |_,_=>pure ()) Q E s:=fun v=>by
  induction v with
  |ref a=>
   refine u8 (lK xz ?_);refine U hc (U hd ?_);simp only[M2,Bool.false_and,j3,jA];exact On h
  |_=>exact On h
 cases br with
 |Tuple=>exact key v
 |List=>exact key v
 |_=>exact On h
inductive CD (Z:TW) (l:List D) (it:Addr):cC→Prop
 |mk (o:Obj) (a:Addr) (H:Array Value) (n i:Nat):o.cls= .type "list_iterator"→o.data= .fields #[.ref a,.int (i:Nat) 0]→Z a=some {cls:=.type "list",data:=.seq H n}→au Z (H.toList.drop i) l→CD Z l it [(it,o)]
inductive Bw (Z:TW) (l:List D) (it:Addr):cC→Prop
 |mk (o:Obj) (a:Addr) (H:Array Value) (n i:Nat):o.cls= .type "tuple_iterator"→o.data= .fields #[.ref a,.int (i:Nat) 0]→Z a=some {cls:=.type "tuple",data:=.seq H n}→au Z (H.toList.drop i) l→Bw Z l it [(it,o)]
theorem rR {H:Array Value} {i:Nat} {v:Value} {r:List Value} (h:H.toList.drop i=v::r):H[i]?=some v∧H.toList.drop (i+1)=r:=by
 constructor
 ·have:(H.toList.drop i)[0]?=some v:=by refine U h ?_;rfl
  rw[List.getElem?_drop]at this;rw[←xq];simpa using this
 ·have:(H.toList.drop i).drop 1=r:=by refine U h ?_;rfl
  rw[List.drop_drop]at this;exact this
theorem x6 {H:Array Value} {i:Nat} (h:H.toList.drop i=[]):H[i]?=none:=by
 rw[Gy]at h;rw[←xq];exact List.getElem?_eq_none h
theorem vK (hc:o.cls= .type n) (M2:n≠"frame") (hd:o.data= .fields H):Rows [(it,o)]:=
 ⟨by simp,fun p hp=>by refine bD hp ?_ fun hp=>?_;exact⟨by refine U hc ?_;simpa using M2,fun x=>by refine U hd ?_;simp⟩;cases hp⟩
theorem cS:gc h [(it,o)]↔h.get? it=some o:=⟨fun x=>x _ (.head _),fun x p hp=>by refine bD hp ?_ fun hp=>?_;exact x;cases hp⟩
theorem abg:qO c CD (fun J=>True) where
 mono:=fun le ⟨o,a,H,n,i,h2,h3,h4,h5⟩=>⟨o,a,H,n,i,h2,h3,le _ _ h4,h5.mono le⟩
 rows:=fun⟨o,a,H,n,i,h2,h3,h4,h5⟩=>vK h2 (by decide) h3
 iter:=by
  intro A s Z it os l Q E st Go q;obtain⟨o,a,H,n,i,h2,h3,h4,h5⟩:=Go;exact wpAny_pyIter_listiter ⟨o,cS.mp st,h2,h3⟩ q
 go:=by
  intro A s Z it os l v br Q E _ sub top cK st Go q;obtain⟨o,a,H,n,i,h2,h3,h4,h5⟩:=Go;exact wJ (cS.mp st) h2 h3 (by decide) (q s _ (.id top sub) rfl st ⟨o,a,H,n,i,h2,h3,h4,h5⟩)
 next:=by
  intro A V s Z O Y it os d l Q E hh r _ cK st Go q;obtain⟨o,a,H,n,i,h2,h3,h4,h5⟩:=Go;rcases Ch:H.toList.drop i with _|⟨v,r'⟩
  ·rw[Ch]at h5;cases h5
  ·rw[Ch]at h5;obtain⟨g1,g2⟩:=rR Ch;cases h5 with
   |cons t1 fM=>
    refine Cr ⟨o,cS.mp st,h2,h3⟩ ⟨_,r.sub.get h4,rfl,n,rfl⟩ g1 fun h' Z8 av=>aU Z8 fun o' bK jf hd'=>?_;exact q v {s with heap:=h'} Z [(it,o')] (dN.same r.top r.sub (cK _ (.head _)) av (.head _) (aI _) ⟨o,_,cS.mp st,h3⟩) rfl (cS.mpr bK) ⟨o',a,H,n,i+1,jf,hd',h4,g2▸fM⟩ t1
 fin:=by
  intro A V s Z O Y it os Q E hh r _ cK st Go q;obtain⟨o,a,H,n,i,h2,h3,h4,h5⟩:=Go;have Ch:H.toList.drop i=[]:=by induction Ch:H.toList.drop i with|nil=>rfl|cons v r'=>rw[Ch]at h5;cases h5
  exact h_ (E4 hh ⟨o,cS.mp st,h2,h3⟩ ⟨_,r.sub.get h4,rfl,n,rfl⟩ (x6 Ch) fun h' x u=>q _ Z (dN.ext' r.top r.sub (cK _ (.head _)) x (.head _) u ⟨o,_,cS.mp st,h3⟩))
theorem gI:jX c CD (fun J=>True):=abg.dg
theorem abU:qO c Bw (fun J=>True) where
 mono:=fun le ⟨o,a,H,n,i,h2,h3,h4,h5⟩=>⟨o,a,H,n,i,h2,h3,le _ _ h4,h5.mono le⟩
 rows:=fun⟨o,a,H,n,i,h2,h3,h4,h5⟩=>vK h2 (by decide) h3
 iter:=by
  intro A s Z it os l Q E st Go q;obtain⟨o,a,H,n,i,h2,h3,h4,h5⟩:=Go;exact wpAny_pyIter_tupleiter ⟨o,cS.mp st,h2,h3⟩ q
 go:=by
  intro A s Z it os l v br Q E _ sub top cK st Go q;obtain⟨o,a,H,n,i,h2,h3,h4,h5⟩:=Go;exact wJ (cS.mp st) h2 h3 (by decide) (q s _ (.id top sub) rfl st ⟨o,a,H,n,i,h2,h3,h4,h5⟩)
 next:=by
  intro A V s Z O Y it os d l Q E hh r _ cK st Go q;obtain⟨o,a,H,n,i,h2,h3,h4,h5⟩:=Go;rcases Ch:H.toList.drop i with _|⟨v,r'⟩
  ·rw[Ch]at h5;cases h5
  ·rw[Ch]at h5;obtain⟨g1,g2⟩:=rR Ch;cases h5 with
   |cons t1 fM=>
    refine wpAny_pyNext_tuple_item ⟨o,cS.mp st,h2,h3⟩ ⟨_,r.sub.get h4,rfl,n,rfl⟩ g1 fun h' Wo av=>aU Wo fun o' bK jf hd'=>?_;exact q v {s with heap:=h'} Z [(it,o')] (dN.same r.top r.sub (cK _ (.head _)) av (.head _) (aI _) ⟨o,_,cS.mp st,h3⟩) rfl (cS.mpr bK) ⟨o',a,H,n,i+1,jf,hd',h4,g2▸fM⟩ t1
 fin:=by
  intro A V s Z O Y it os Q E hh r _ cK st Go q;obtain⟨o,a,H,n,i,h2,h3,h4,h5⟩:=Go;have Ch:H.toList.drop i=[]:=by induction Ch:H.toList.drop i with|nil=>rfl|cons v r'=>rw[Ch]at h5;cases h5
  exact h_ (wpAny_pyNext_tuple_end hh ⟨o,cS.mp st,h2,h3⟩ ⟨_,r.sub.get h4,rfl,n,rfl⟩ (x6 Ch) fun h' x u=>q _ Z (dN.ext' r.top r.sub (cK _ (.head _)) x (.head _) u ⟨o,_,cS.mp st,h3⟩))
theorem x_:jX c Bw (fun J=>True):=abU.dg
theorem bF.list (he:f8 c k O Y e (.list l)):bF c k O Y e CD l:=by
 intro A V s Z ok r Q E q;refine he A V s Z ok r _ E fun v s₁ aB EQ s5=>?_;refine s5.l fun{a H n} h hl=>?_;refine wI ⟨_,EQ.sub.get h,rfl,_,rfl⟩ ?_;have st:=EQ.trans (aD.alloc EQ.top EQ.sub {cls:=.type "list_iterator",data:=.fields #[.ref a,.int 0 0]});refine q _ [(_,_)] _ _ st (cS.mpr (d7 _ rfl)) (fun p hp=>?_) ⟨_,_,_,_,0,rfl,rfl,h,hl⟩;refine bD hp ?_ fun hp=>?_
 ·exact⟨EQ.grow.1,gR EQ.sub (aI _)⟩
 ·cases hp
theorem bF.tup (he:f8 c k O Y e (.tup l)):bF c k O Y e Bw l:=by
 intro A V s Z ok r Q E q;refine he A V s Z ok r _ E fun v s₁ aB EQ s5=>?_;refine s5.t fun{a H n} h hl=>?_;refine wpAny_pyIter_tuple ⟨_,EQ.sub.get h,rfl,_,rfl⟩ ?_;have st:=EQ.trans (aD.alloc EQ.top EQ.sub {cls:=.type "tuple_iterator",data:=.fields #[.ref a,.int 0 0]});refine q _ [(_,_)] _ _ st (cS.mpr (d7 _ rfl)) (fun p hp=>?_) ⟨_,_,_,_,0,rfl,rfl,h,hl⟩;refine bD hp ?_ fun hp=>?_
 ·exact⟨EQ.grow.1,gR EQ.sub (aI _)⟩
 ·cases hp
section
noncomputable def kQ (x:Int):Nat→List D
 |0=>[]
 |n+1=>.int x::kQ (x+1) n
inductive Dc (Z:TW) (l:List D) (it:Addr):cC→Prop
 |mk (x:Int) (n:Nat):l=kQ x n→Dc Z l it [(it,{cls:=.type "range_iterator",dict:=none,data:=.fields #[rawInt x,rawInt (n:Nat),rawInt 1],slots:=#[]})]
theorem adC:qO c Dc (fun J=>True) where
 mono:=fun J ⟨x,n,h⟩=>⟨x,n,h⟩
 rows:=fun⟨x,n,h2⟩=>vK rfl (by decide) rfl
 iter:=by
  intro A s Z it os l Q E st Go q;obtain⟨x,n,h2⟩:=Go;exact wpAny_pyIter_rangeiter (cS.mp st) q
 go:=by
  intro A s Z it os l v br Q E _ sub top cK st Go q;obtain⟨x,n,h2⟩:=Go;exact wJ (cS.mp st) rfl rfl (by decide) (q s _ (.id top sub) rfl st ⟨x,n,h2⟩)
 next:=by
  intro A V s Z O Y it os d l Q E hh r _ cK st Go q;obtain⟨x,n,h2⟩:=Go;obtain _|n:=n
  ·injection h2
  ·refine Op (jd h2) fun s4 eE=>?_;subst s4 eE;refine wpAny_pyNext_range_item (cS.mp st) (Int.natCast_pos.2 (Nat.succ_pos n)) fun h' hit av=>?_;have e:((n+1:Nat):Int)-1=(n:Nat):=dV rfl;rw[e]at hit;exact q _ _ Z [(it,{cls:=.type "range_iterator",dict:=none,data:=.fields #[rawInt (x+1),rawInt (n:Nat),rawInt 1],slots:=#[]})] (dN.same r.top r.sub (cK _ (.head _)) av (.head _) (b9 _) ⟨_,_,cS.mp st,rfl⟩) rfl (cS.mpr hit) ⟨x+1,n,rfl⟩ (.int _ _)
 fin:=by
  intro A V s Z O Y it os Q E hh r _ cK st Go q;obtain⟨x,n,h2⟩:=Go;obtain _|n:=n
  ·exact h_ (wpAny_pyNext_range_end hh (cS.mp st) (by simp) fun h' y u=>q _ Z (dN.ext' r.top r.sub (cK _ (.head _)) y (.head _) u ⟨_,_,cS.mp st,rfl⟩))
  ·injection h2
theorem tL:jX c Dc (fun J=>True):=adC.dg
section
variable {c:ah} {k:Nat} {O:XV} {Y:B}
theorem bF.range {p pos:Pos} {e:Expr} {n:Nat} (hf:f8 c k O Y (.Name "range" p) (.val (.type "range"))) (he:f8 c k O Y e (.int n)) (M2:n≤1000000)
 (hs:∀V,starEach [e] V=[(false,eval e V)]:=by intro;rfl):bF c k O Y (.Call (.Name "range" p) [e] [] pos) Dc (kQ 0 n):=by
 intro A V s Z ok r Q E q;refine rN (hf A V s Z ok r _ E fun v s₁ aB EQ s5=>?_);refine s5.v ?_;show wpAny c.M A (callWith pos (.type "range") [] (backTo pos (starEach [e] V)) []) _ E s₁;refine l6 (.inl fun a e=>(by injection e)) (nQ (.cons he .nil hs) (ok.step EQ) (r.step EQ) (fun V=>by rw[hs];rfl) fun H s₂ bA t₂ bf=>⟨t₂.top,?_⟩);refine wS (iN bf) fun v s4 s5=>?_;subst s4;refine s5.i fun t=>?_;refine call_range_1 ?_;have t₃:=(aD.alloc t₂.top t₂.sub {cls:=.type "range",data:=.fields #[.int 0 s₂.toks,.int n t,.int 1 (s₂.toks+1)]}).toks (t:=s₂.toks+1+1) (bX s₂.toks 2);have rs:Builtin.Range.rangeSize 0 n 1=n:=by rw[rangeSize_one];split<;>lia
 have sm:Builtin.Range.small 0 n 1=true:=by
  have dG:∀x:Int,-1000001≤x→x≤1000001→Builtin.Range.rangeFitsLong x=true:=fun x h1 h2=>by
   unfold Builtin.Range.rangeFitsLong;simp only[kW,sV];exact TU h2 h1
  have f:=dG n (qx (by decide) (kG n)) (qx (uM.2 M2) (by decide));unfold Builtin.Range.small;rw[rs,dG 0 (by decide) (by decide),f,dG 1 (by decide) (by decide)];simp only[wH,Bool.true_and,o5];right;exact U (ak (by decide)) f
 refine wpAny_pyIter_range (IsRange.new ..) sm ?_;refine U rs ?_;have t₄:=aD.alloc t₃.top t₃.sub {cls:=.type "range_iterator",data:=.fields #[rawInt 0,rawInt n,rawInt 1]};refine q _ [(_,_)] _ bA (((EQ.trans t₂).trans t₃).trans t₄) (cS.mpr (d7 _ rfl)) (fun p hp=>?_) ⟨0,n,rfl⟩;refine bD hp ?_ fun hp=>?_
 ·exact⟨((EQ.trans t₂).trans t₃).grow.1,gR t₃.sub (aI _)⟩
 ·cases hp
noncomputable def rX (c:ah) (Y:B):List Expr→List D→(XV→Prop)→XV→Prop
 |[],[],aX,O=>aX O
 |t::ts,d::ds,aX,O=>bl c O Y t d (rX c Y ts ds aX)
 |_,_,_,_=>False
theorem NK (hh:A.handled=none):∀{ts:List Expr} {ds:List D} {H:List Value} {O:XV} {s:Shared} {Z:TW},
 rX c Y ts ds aX O→bx c bs Z s.heap V O Y→au Z H ds→(∀NE s' Z',e8 Y s Z Y s' Z'→bx c bs Z' s'.heap V NE Y→aX NE→Q () s')→wpAny c.M A (assignInOrder (ts.map fun t=>assign t V) H) Q E s
 |[],[],_,O,s,Z,h,w,_,q=>assignInOrder_nil (q O s Z (.refl ..) w h)
 |[],_::_,_,_,_,_,h,_,_,_=>h.elim
 |_::_,[],_,_,_,_,h,_,_,_=>h.elim
 |t::ts,d::ds,_,O,s,Z,h,w,.cons s5 hl,q=>by
  refine De (h A V s bs Z _ hh w s5 _ E fun Bf s₁ aB r₁ w₁ h₁=>?_);exact NK hh h₁ w₁ (hl.mono r₁.le) fun NE s' Z' r' cU h'=>q NE s' Z' (r₁.trans r') cU h'
theorem QA (hh:A.handled=none) (top:c.H0.StaysIn s.heap) (sub:Sub Z s.heap) (s5:aR Z v (.tup ds)) (M2:n=ds.length)
 (q:∀H s',aD c s Z s' Z→au Z H ds→Q H s'):wpAny c.M A (unpackItems v n none) Q E s:=by
 refine s5.t fun{a H m} h hl=>?_;have e:n=H.size:=by exact U M2 (ZB hl.length (U gP rfl))
 subst e;refine h_ (wpAny_unpackItems_tuple hh ⟨_,sub.get h,rfl,_,rfl⟩ fun h' x u=>q _ _ ⟨⟨u.size,fun b o e=>⟨o,x b o (fE (cJ e)) e,.refl _⟩⟩,fun b o e=>x b o (fE (cJ (top b o e))) (top b o e),.refl ..,fun b o e=>⟨x b o (fE (cJ (sub.get e))) (sub.get e),(sub b o e).2⟩,u.toks,⟨_,_,rfl⟩⟩ hl)
theorem bl.tuple {O:XV} {ts:List Expr} {ds:List D} {n:Nat} {pos:Pos} {aX:XV→Prop} (h:rX c Y ts ds aX O) (hl:ts.length=ds.length:=by rfl)
 (he:∀V,assignEach ts V=ts.map fun t=>(false,assign t V):=by intro;rfl):bl c O Y (.Tuple ts n pos) (.tup ds) aX:=by
 intro A V s bs Z v hh w s5 Q E q;rw[arm_assign_Tuple];refine u8 (gb ?_);unfold unpack;have h1:(assignEach ts V).length=ts.length:=by rw[he,cj]
 have h2:(assignEach ts V).findIdx? Prod.fst=none:=by
  rw[he,List.findIdx?_eq_none_iff];intro x hx;refine wS (ao.mp hx) fun t J s4=>?_;subst s4;rfl
 have h3:(assignEach ts V).map Prod.snd=ts.map fun t=>assign t V:=by rw[he,cO];rfl
 refine U h1 (U h2 (U h3 ?_));refine u8 (b4 (QA hh w.rd.top w.rd.sub s5 hl fun H s₁ EQ bf=>?_));exact NK hh h (w.step EQ) bf fun NE s' Z' r' cU h'=>q NE s' Z' ((EQ.run Y).trans r') cU h'
theorem FM.RW {Sc:fD→Prop} (hh:c.hd=false) {ts:List Expr} {n:Nat} {p pos:Pos} {e:Expr} (he:aF c k O Y e fun d I=>bl c O I (.Tuple ts n p) d fun NE=>Sc (.next NE I))
 (hs:∀V,swapsWithSole [.Tuple ts n p] e pos.line V=pure false:=by intro;rfl)
 (hw:∀V bs Z h,bx c bs Z h V O Y→swappedStores [.Tuple ts n p] e V=pure none:=by intros;rfl):FM c k O Y (.Assign [.Tuple ts n p] e pos) Sc:=by
 intro A V s bs Z ok w Q E q;refine Assign_Tuple (he A V s Z ok w.rd _ E fun d I v s₁ aB EQ s5 ha=>?_) (hs V) (hw V bs Z s.heap w);exact ha A V s₁ bs aB v (ok.hand hh) (w.after EQ) s5 _ E fun NE s' Z' r' cU h'=>q (.next NE I) .next s' Z' (EQ.run.trans r') cU .next h'
theorem FM.A7 {Sc:fD→Prop} (hh:c.hd=false) {ts:List Expr} {n:Nat} {p pos:Pos} {e:Expr} {d:D} (he:f8 c k O Y e d) (ha:bl c O Y (.Tuple ts n p) d fun NE=>Sc (.next NE Y))
 (hs:∀V,swapsWithSole [.Tuple ts n p] e pos.line V=pure false:=by intro;rfl)
 (hw:∀V bs Z h,bx c bs Z h V O Y→swappedStores [.Tuple ts n p] e V=pure none:=by intros;rfl):FM c k O Y (.Assign [.Tuple ts n p] e pos) Sc:=.RW hh (.nt he ha) hs hw
end
end
structure aV (c:ah):Prop where
 p:c.p=s7
 K:(KF c.w.params).In c.H0
 lim:c.H0.NoLimit
 bi:∃l7,c.H0.Ns builtinsNs l7∧∀x:Str,x≠"__name__"→l7 x=bootBuiltins x
 hd:c.hd=false
 T:c.T=0
theorem aV.at (x:aV c):aV (c.at L):=⟨x.p,x.K,x.lim,x.bi,x.hd,x.T⟩
structure FnAt (c:ah) (f:Addr) (st:Stmt) (qual:Str) (dV:Value):Prop where
 obj:∃o pm cd,c.H0.get? f=some o∧o.data= .func (d_ st qual dV pm cd)∧c.H0.CodeRec cd qual
 lim:c.H0.NoLimit
 low:c.H0.get? sysModules≠none
theorem aV.low (x:aV c):c.H0.get? sysModules≠none:=by
 have:=x.K sysModules _ (by rfl);refine U this ?_;simp
theorem aV.ns (x:aV c):c.H0.Ns mainGlobals (c.H0.nsMap mainGlobals):=.of_isNs (FP x.K (by kernel_rfl))
theorem aV.glob (x:aV c) (e:PySem.W.nsIn (KF c.w.params) mainGlobals n=some (some v)):gB c.H0 n v:=by
 refine wS (x.bi) fun l7 hb J=>?_;exact sR _ l7 x.ns hb (.inl (PySem.W.mg_of x.K x.ns e))
theorem aV.dw (x:aV c) (e:PySem.W.nsIn (KF c.w.params) mainGlobals n=some none) (b:bootBuiltins n=some v) (M2:n≠"__name__"):gB c.H0 n v:=by
 refine wS (x.bi) fun l7 hb h=>?_;exact sR _ l7 x.ns hb (.inr ⟨PySem.W.mg_none_of x.K x.ns e,(h n M2).trans b⟩)
theorem aV.fn {c:ah} (x:aV c) {f cd:Addr} {st:Stmt} {qual:Str} {dV pm:Value} {bV:Array (Option Value)} {zP:Obj} {H:Array Value} {t:Tok} (e:(KF c.w.params).lookup f=some {cls:=.type "function",data:=.func (d_ st qual dV pm (.ref cd)),slots:=bV})
 (e':(KF c.w.params).lookup cd=some zP) (e2:zP.data= .fields H) (e3:H[1]?=some (.str qual t)):FnAt c f st qual dV:=
 ⟨⟨_,pm,.ref cd,x.K _ _ e,rfl,⟨cd,zP,H,t,rfl,x.K _ _ e',e2,e3⟩⟩,x.lim,x.low⟩
theorem aV.booked (x:aV c):PySem.NoneBooked c.H0:=⟨_,.of_isNs (FP x.K (by kernel_rfl)),K4 x.K (by kernel_rfl) (by kernel_rfl)⟩
theorem Jg (x:aV c):FnAt c 247 (bH 23) "_law_ends" .none:=x.fn rfl rfl rfl rfl
theorem V4 (x:aV c):gB c.H0 "range" (.type "range"):=x.dw (by kernel_rfl) (by decide+kernel) (by decide)
theorem FnAt.def {c:ah} {f:Addr} {st:Stmt} {qual:Str} {dV:Value} (x:FnAt c f st qual dV) (hk:(sr st).kind= .function) (vA:(sr st).isCoroutine=false) (hg:(sr st).isGenerator=false):
 ∃pm cd,Ez c f (d_ st qual dV pm cd) (gM st):=by
 refine dW (x.obj) fun o pm cd h1 h2 h3=>?_;exact⟨pm,cd,⟨⟨o,h1,h2⟩,rfl,x.lim,x.low,h3,rfl,rfl,rfl,vA,hg,hk⟩⟩
noncomputable def vN (sc:Scope) (ps ls:List (Str×cZ)) (gs:List Str):Bool:=
 (ps++ls).all (fun x=>(x.2== .loc&&sc.names.lookup x.1==some .local)||(x.2== .aM&&sc.names.lookup x.1==some .cell))&&gs.all (fun x=>sc.names.lookup x==some .globalImplicit)&&
 decide ((ps++ls).map Prod.fst++gs).Nodup&&sc.kind== .function&& !sc.isCoroutine&& !sc.isGenerator
noncomputable abbrev B.no:B:=fun J=>none
theorem eS.fn {c:ah} {k:Nat} {f:Addr} {st:Stmt} {qual:Str} {dV:Value} {ps ls:List (Str×cZ)} {gs:List (Str×Value)} {ds₀ ds:List D} {Y:B} {Sc:D→B→Prop} (h:FnAt c f st qual dV) (ok:vN (sr st) ps ls (gs.map Prod.fst)=true)
 (gl:∀x∈gs,gB c.H0 x.1 x.2) (dI:ds.length=ps.length) (m9:∀pm cd,lX c (d_ st qual dV pm cd) ps ds₀ ds)
 (ow:∀L,wE (c.at L) k (vars ps ds ls gs) Y (gM st) (G7 Sc)):eS c (k+1) (.ref f) ds₀ Y Sc:=by
 unfold vN at ok;simp only[kW,j8,sV,o5,lR,Bo]at ok;refine Op ok fun aH h6=>?_;refine Op aH fun aH h5=>?_;refine Op aH fun afN h4=>?_;obtain⟨⟨h1,h2⟩,h3⟩:=afN;refine fL (h.def h4 h5 h6) fun pm cd eY=>?_;exact eS.def eY (m9 pm cd) dI h1 (fun x hx=>⟨h2 x.1 (cA hx),gl x hx⟩) h3 ow
theorem cD.fn {c:ah} {k:Nat} {f:Addr} {st:Stmt} {qual:Str} {dV:Value} {ps ls:List (Str×cZ)} {gs:List (Str×Value)} {ds₀ ds:List D} {Y:B} {Sc:D→B→Prop} (h:FnAt c f st qual dV) (ok:vN (sr st) ps ls (gs.map Prod.fst)=true)
 (gl:∀x∈gs,gB c.H0 x.1 x.2) (dI:ds.length=ps.length) (m9:∀pm cd,lX c (d_ st qual dV pm cd) ps ds₀ ds)
 (ow:∀L,wE (c.at L) k (vars ps ds ls gs) Y (gM st) (G7 Sc)):cD c (k+1) (.ref f) ds₀ Y Sc:=(eS.fn h ok gl dI m9 ow).pm
theorem cu.fn {c:ah} {k:Nat} {f:Addr} {st:Stmt} {qual:Str} {dV:Value} {ps ls:List (Str×cZ)} {gs:List (Str×Value)} {ds:List D} {d:D} (h:FnAt c f st qual dV) (ok:vN (sr st) ps ls (gs.map Prod.fst)=true)
 (gl:∀x∈gs,gB c.H0 x.1 x.2) (dI:ds.length=ps.length) (m9:∀pm cd H,H.length=ps.length→bindArgs (d_ st qual dV pm cd) ⟨H,[]⟩=pure ((ps.map Prod.fst).zip H))
 (ow:∀L,wE (c.at L) k (vars ps ds ls gs) B.no (gM st) (p7 d)):cu c (k+1) (.ref f) ds d:=
 cD.pc (cD.fn h ok gl dI (fun pm cd=>.plain dI (m9 pm cd)) (fun L A V s bs Z ok w Q E q=>ow L A V s bs Z ok w Q E fun o f s' Z' r cU dG h=>q o f s' Z' r cU dG (by cases o<;>first|exact h|exact(h:_=_).symm)))
theorem cI {c:ah}:∀x∈([]:List (Str×Value)),gB c.H0 x.1 x.2:=fun J h=>nomatch h
theorem bC {c:ah} {n:Str} {v:Value} {l:List (Str×Value)} (h:gB c.H0 n v) (r:∀x∈l,gB c.H0 x.1 x.2):∀x∈(n,v)::l,gB c.H0 x.1 x.2:=fun x hx=>by
 refine bD hx ?_ fun hx=>?_
 ·exact h
 ·exact r x hx
noncomputable def cF (x y:Str):Bool:=Txt.startswith (x++Str.ofString "/") (y++Str.ofString "/")||Txt.startswith (y++Str.ofString "/") (x++Str.ofString "/")
theorem RY:(Str.ofString "/").length=1:=by decide+kernel
theorem CM (x y:Str):(x++y).length=x.length+y.length:=strLen_append x y
theorem Nt (hx:x.length≤1000) (No:y.length≤1000) (h1:f8 c k O Y (.Name n p) (.str x)) (h2:f8 c k O Y (.Name m q) (.str y)) (s1:f8 c k O Y (.Constant (.str "/") u r) (.str "/")) (s2:f8 c k O Y (.Constant (.str "/") w Hp) (.str "/")) (hl:(c9.endLine==pos.line)=true):f8 c k O Y (.Call (.Attribute (.BinOp (.Name n p) .Add (.Constant (.str "/") u r) nX) "startswith" c9) [.BinOp (.Name m q) .Add (.Constant (.str "/") w Hp) mE] [] pos) (.val (.bool (Txt.startswith (x++Str.ofString "/") (y++Str.ofString "/")))):=
 f8.startswith (f8.bin h1 s1 (Rs.qH (by refine U RY ?_;exact f9 ‹_› (by decide)))) (f8.bin h2 s2 (Rs.qH (by refine U RY ?_;exact f9 ‹_› (by decide)))) (by intro;rfl) (by intro;rfl) hl
theorem aeE (hx:x.length≤1000) (No:y.length≤1000):
 wE c k (vars [("one",.loc),("other",.loc)] [.str x,.str y] [] []) B.no (gM (bH 26)) (p7 ((.val (.bool (cF x y))))):=by
 conv in gM _=>whnf
 dsimp only[vars,List.zip,List.zipWith,List.map,List.append_nil,HAppend.hAppend,Append.append,List.append];refine wE.cons (FM.ret (d:=.val (.bool (cF x y))) ?_ rfl);apply f8.Dy
 ·exact Nt hx No (f8.name (.head _)) (f8.name (.tail _ (.head _))) f8.str f8.str rfl
 ·exact dB.bool
 ·intro h;unfold cF;refine U h ?_;rfl
 ·intro h;unfold cF;refine U h ?_;exact Nt No hx (f8.name (.tail _ (.head _))) (f8.name (.head _)) f8.str f8.str rfl
theorem I9 (h:FnAt c f (bH 26) "_law_meets" .none) (hx:x.length≤1000) (No:y.length≤1000):cu c (k+1) (.ref f) [.str x,.str y] (.val (.bool (cF x y))):=
 cu.fn (ps:=[("one",.loc),("other",.loc)]) (ls:=[]) (gs:=[]) h (by decide+kernel) cI rfl (fun J J=>sD fun J J=>rfl) (fun J=>aeE hx No)
section
noncomputable def GA (e br iter:Expr) (ifs:List Expr) (it wP:Value) (V:Env) (emit:Sem Unit):Sem Fin:=do
 standAt iter.pos
 match←pyNext it with
 |none=>pure (.done .next)
 |some v=>
  letOwnedTupleGo br it v
  assign br V v
  let mut ok:=true
  for c in ifs do
   if ok then ok←isTrue c V (eval c V)
  if ok then emit
  again (.compLoop e 0 it wP V)
section
variable {prog:Program} {w:World} {A:Around} {E:Value→Shared→Prop} {R:Result→Shared→Prop} {s:Shared}
theorem WM (bu:Nat→Shared→Prop)
 (Hz:compTurn e 0 it wP V=GA e br iter ifs it wP V emit)
 (hd:(model prog w).den (.compLoop e 0 it wP V)=(compTurn e 0 it wP V).onRaise (fun x=>do noteFrame x V;theTreesLotGoes x):=by intros;rfl)
 (kU:A.under (.compLoop e 0 it wP V)=A:=by intros;rfl)
 (turn:∀n s,bu n s→∀E,wpAny (model prog w) A (pyNext it) (fun r s₁=>match r with
  |none=>R (.ok .next) s₁
  |some v=>wpAny (model prog w) A (letOwnedTupleGo br it v) (fun J Ma=>wpAny (model prog w) A (assign br V v) (fun J s₂=>
   wpAny (model prog w) A (forIn ifs true fun c r=>if r=true then do let ok←isTrue c V (eval c V);pure (ForInStep.yield ok)else pure (ForInStep.yield r)) (fun ok aG=>
    if ok=true then wpAny (model prog w) A emit (fun J iw=>∃m,m<n∧bu m iw) E aG
    else∃m,m<n∧bu m aG) E s₂) E Ma) E s₁) E s)
 (n) (h:bu n s):codeAny (model prog w) A (.compLoop e 0 it wP V) R s:=by
 refine codeAny_loop rfl bu (fun n s q2=>?_) n h;refine U hd (U kU ?_);refine wpAny_noted ?_;refine U Hz ?_;unfold GA;refine u8 (gb (u8 (d8 (turn n s q2 _) (fun r s₁ h₁=>?_) fun J J h'=>h')))
 induction r with
 |none=>exact On h₁
 |some v=>
  refine u8 (d8 h₁ (fun J Ma TG=>?_) fun J J h'=>h');refine u8 (d8 TG (fun J s₂ h₂=>u8 (d8 h₂ (fun ok aG qu=>?_) fun J J h'=>h')) fun J J h'=>h')
  induction ok with
  |false=>exact On ⟨rfl,qu⟩
  |true=>exact u8 (d8 qu (fun J iw Bd=>On ⟨rfl,Bd⟩) fun J J h'=>h')
noncomputable def ya (M:Model) (A:Around) (use:Option (Value→Sem Unit)) (Q E:Value→Shared→Prop) (wP:Value) (L:Addr) (s':Shared):Prop:=match use with
 |none=>∃m,s'.heap.Ns L m∧∀h' m',h'.Ns L m'→Heap.SameBut L s'.heap h'→Q wP {s' with heap:=h'}
 |some u=>wpAny M A (u wP) (fun J iw=>∃m,iw.heap.Ns L m∧∀h' m',h'.Ns L m'→Heap.SameBut L iw.heap h'→Q .none {iw with heap:=h'}) E s'
theorem Zc
 (eT:clausesOf e=g::gs) (hs:∀x,foldedSetIterable g.iter V x=pure x)
 (fQ:∀x∈scope.names,x.2= .free→(V.cells.lookup x.1).isSome=true) (vJ:scope.kind= .function) (hnames:∀x∈scope.names,x.2= .local→scope.names.lookup x.1=some .local)
 (h:wpAny M A first (fun x s₁=>wpAny M A (pyIter x) (fun it s₂=>wpAny M A Cm (fun wP aG=>
  wpAny M A (newFunctionEnv scope V.globals (m_ V scope.names []) [] V.qual none .none (some V)) (fun cenv jh=>
   codeAny M A (.compStart e 0 it wP {cenv with scope:=relabel scope V}) (fun r s'=>match r with
    | .ok _=>ya M A use Q E wP cenv.locals s'
    | .error x=>False) jh) E aG) E s₂) E s₁) E s):
 wpAny M A (comprehension e scope V pos Cm false first use) Q E s:=by
 unfold comprehension;refine U (aeU fQ) (U eT ?_);refine u8 (d8 h (fun x s₁ h₁=>u8 (gb (u8 (qw (hs x) (u8 (b4 (d8 h₁ (fun it s₂ h₂=>
  wpAny_standIf (u8 (d8 h₂ (fun wP aG qu=>u8 (On (u8 (d8 qu (fun cenv jh h₄=>?_) fun J J h'=>h')))) fun J J h'=>h')))
   fun J J h'=>h'))))))) fun J J h'=>h')
 dsimp only;have s5:∀l:List (Str×NameKind),(∀x∈l,x∈scope.names)→∀x∈l,x.2= .local→Env.kindOf {cenv with scope:=relabel scope V} x.1=some .local:=fun l hl x hx Yz=>by
  show(relabel scope V).names.lookup x.1=some .local;refine U (H6 (hnames x (hl x hx) Yz)) ?_;rfl
 have QV:(relabel scope V).kind= .function:=vJ;refine b4 (u8 (rq (b4 (wpAny_run (codeAny_mono h₄ fun r s' hr=>?_)))))
 induction r with
 |error x=>exact hr.elim
 |ok f=>
  induction use with
  |none=>
   refine wS hr fun m M2 hr=>?_;exact u8 (b4 (wpAny_comp_letGo (cenv:={cenv with scope:=relabel scope V}) QV _ s' m (s5 _ fun x hx=>(cE.mp (vh.mp hx)).1) M2 fun h' m' g7 dc=>On (hr h' m' g7 dc)))
  |some u=>
   refine u8 (pJ (u8 (b4 (d8 hr (fun J iw aeZ=>wS aeZ fun m M2 hr=>?_) fun J J h'=>h'))));refine u8 (wpAny_comp_letGo (cenv:={cenv with scope:=relabel scope V}) QV _ iw m (s5 _ fun x hx=>?_) M2 fun h' m' g7 dc=>On (hr h' m' g7 dc));obtain hx|hx:=b_.mp hx
   ·exact(cE.mp (vh.mp (Em hx))).1
   ·exact(cE.mp (vh.mp (Gh hx))).1
end
end
section
noncomputable def qo (c:ah) (k:Nat) (O:XV) (Y:B) (emit:Value→Env→Sem Unit) (cl eN:iz):Prop:=
 ∀(A:Around) (V:Env) (s:Shared) (Z:TW) (wP:Addr) (sY:B),Ok c k A s→bB c Z s.heap V O Y→gy c Z s.heap sY→sY wP=some cl→∀(Q:Unit→Shared→Prop) (E:Value→Shared→Prop),
  (∀s' Z',aO c sY s Z (sY.put wP (some eN)) s' Z'→Q () s')→wpAny c.M A (emit (.ref wP) V) Q E s
noncomputable def eH (c:ah) (k:Nat) (O:XV) (Y:B) (ifs:List Expr) (b:Bool):Prop:=
 ∀(A:Around) (V:Env) (s:Shared) (Z:TW),Ok c k A s→bB c Z s.heap V O Y→∀(Q:Bool→Shared→Prop) (E:Value→Shared→Prop),(∀s' Z',aD c s Z s' Z'→Q b s')→
  wpAny c.M A (forIn ifs true fun c r=>if r=true then do let ok←isTrue c V (eval c V);pure (ForInStep.yield ok)else pure (ForInStep.yield r)) Q E s
section
variable {c:ah} {k:Nat} {O:XV} {Y:B}
theorem eH.nil:eH c k O Y [] true:=fun A V s Z ok r Q E q=>wpAny_tests_nil (q s Z r.start)
theorem eH.one (h:az c k O Y e b):eH c k O Y [e] b:=fun A V s Z ok r Q E q=>wpAny_tests_one (h A V s Z ok r Q E q)
theorem B.ad4 {Y:B} {os:cC} {a:Addr} {x:Option iz} (h:a∉os.map Prod.fst):(Y.add os).put a x=(Y.put a x).add os:=by
 funext b;by_cases q:b=a
 ·subst q;rw[B.ai,B.jF h,B.ai]
 ·refine U (B.aa _ _ q) ?_;unfold B.add
  induction os.lookup b with
  |some o=>rfl
  |none=>exact(B.aa _ _ q).symm
theorem B.m6:(Y.put a x).put a y=Y.put a y:=by
 funext b;by_cases q:b=a
 ·subst q;rw[B.ai,B.ai]
 ·exact U (B.aa _ _ q) (U (B.aa _ _ q) (U (B.aa _ _ q) rfl))
theorem UL (eT:clausesOf e=[⟨br,iter,ifs,0⟩])
 (hd:(model prog w).den (.compStart e 0 it wP V)=(compStart e 0 it wP V).onRaise (fun x=>do noteFrame x V;standAt theWindowsPlace):=by intros;rfl)
 (kU:A.under (.compStart e 0 it wP V)=A:=by intros;rfl)
 (h0:codeAny (model prog w) A (.compLoop e 0 it wP V) R s)
 (h:∀E,wpAny (model prog w) A (pyIter it) (fun J2 s'=>codeAny (model prog w) A (.compLoop e 0 J2 wP V) R s') E s):
 codeAny (model prog w) A (.compStart e 0 it wP V) R s:=by
 refine Gx ?_;refine U hd (U kU ?_);refine wpAny_notedAt ?_;unfold compStart;refine U eT ?_;show wpAny _ _ (ask>>=_) _ _ s;refine u8 (pZ (wpAny_ite ?_));split
 ·first
   |exact u8 (On (On (A5 rfl h0)))
   |exact On (A5 rfl h0)
 ·first
   |exact u8 (pJ (u8 (gb (u8 (d8 (h _) (fun J2 s' h'=>On (A5 rfl h')) fun W W x=>x)))))
   |(refine u8 (pJ ?_);show wpAny _ _ (standAt iter.pos>>=_) _ _ s;exact u8 (gb (u8 (d8 (h _) (fun J2 s' h'=>On (A5 rfl h')) fun W W x=>x))))
structure CompEnd (c:ah) (s:Shared) (Z:TW) (s':Shared) (Z':TW) (wP L:Addr) (cl:iz):Prop where
 step:aD c s Z s' Z'
 obj:∃o,s'.heap.get? wP=some o∧eV c Z' o cl
 new:s.heap.objs.size≤wP
 zn:Z' wP=none
 ns:∃m,s'.heap.Ns L m
 tH:s.heap.objs.size≤L
 Bg:Z' L=none
 ne:L≠wP
theorem JG {J:TW→List D→Addr→cC→Prop} {Src:B→Prop} (hh:c.hd=false) (dg:jX c J Src) {e br iter:Expr} {ifs:List Expr} {sc:Scope} {pos:Pos} {items:List D} {ts:List (Str×cZ)} {caps:List (Str×D)} {gs:List (Str×Value)}
 {emit:Value→Env→Sem Unit} {Cm:Sem Value} {tB:iz} {V:Env} {use:Option (Value→Sem Unit)}
 (eT:clausesOf e=[⟨br,iter,ifs,0⟩]) (hs:∀x,foldedSetIterable iter V x=pure x)
 (Hz:∀it wP V,compTurn e 0 it (.ref wP) V=GA e br iter ifs it (.ref wP) V (emit (.ref wP) V))
 (hd:∀(M:Model) it wP V,(model M.prog M.w).den (.compLoop e 0 it wP V)=(compTurn e 0 it wP V).onRaise (fun x=>do noteFrame x V;theTreesLotGoes x))
 (hd':∀(M:Model) it wP V,(model M.prog M.w).den (.compStart e 0 it wP V)=(compStart e 0 it wP V).onRaise (fun x=>do noteFrame x V;standAt theWindowsPlace))
 (kU:∀(A:Around) it wP V,A.under (.compLoop e 0 it wP V)=A) (T_:∀(A:Around) it wP V,A.under (.compStart e 0 it wP V)=A)
 (hok:nG sc ts (caps.map Prod.fst) (gs.map Prod.fst)=true) (fQ:∀x∈caps,∃kd,(kd=cZ.aM∨kd= .gC)∧(⟨x.1,kd,some x.2⟩:iF)∈O) (gF:∀x∈gs,gB c.H0 x.1 x.2)
 (Zw:∀A s Q E,(∀o,o.isFreed=false→(∀Z,eV c Z o tB)→Q (.ref s.heap.objs.size) {s with heap:=s.heap.push o})→wpAny c.M A Cm Q E s)
 (hi:bF c k O Y iter J items) (fT:Src Y) (Inv:List D→XV→iz→Prop) (h0:Inv items (gJ ts (kJ ts) caps gs) tB)
 (turn:∀d rest NE cl,Inv (d::rest) NE cl→∀I,bl c NE I br d fun dJ=>∃b,eH c k dJ Y ifs b∧(b=false→Inv rest dJ cl)∧(b=true→∃eN,qo c k dJ Y emit cl eN∧Inv rest dJ eN))
 {A:Around} {s:Shared} {Z:TW} (ok:Ok c k A s) (r:bB c Z s.heap V O Y) {Q E:Value→Shared→Prop}
 (q:∀wP L cl s' Z',(∃NE,Inv [] NE cl)→CompEnd c s Z s' Z' wP L cl→ya c.M A use Q E (.ref wP) L s'):
 wpAny c.M A (comprehension e sc V pos Cm false (eval iter V) use) Q E s:=by
 have K:=Y_ hok;have hand:=ok.hand hh;refine Zc eT hs (fun x hx hf=>?_) K.kind K.loc ?_
 ·refine wS (ao.mp (K.free x hx hf)) fun y No e'=>?_;refine jJ (Hr r (fQ y No)) fun W a W W ha W=>?_;refine ZB e' (U ha ?_);rfl
 refine hi A V s Z ok r _ _ fun it os s₁ aB EQ xz o_ mK=>?_;refine Zw A s₁ _ _ fun oa ku afC=>?_;have t₂:=EQ.trans (aD.alloc EQ.top EQ.sub oa);have sh:=dg.rows mK;generalize sN:({s₁ with heap:=s₁.heap.push oa}:Shared)=s₂ at t₂;have acl:s₂.heap.objs.size=s₁.heap.objs.size+1:=by refine ZB sN ?_;exact eX ..
 have L8:s₂.heap.get? s₁.heap.objs.size=some oa:=by refine ZB sN ?_;exact d7 _ ku
 have Gz:∀b o,s₁.heap.get? b=some o→s₂.heap.get? b=some o:=fun b o e=>by refine ZB sN ?_;exact bY _ e
 obtain⟨wP,BV⟩:∃a,s₁.heap.objs.size=a:=⟨_,rfl⟩;rw[BV]at acl L8⊢;have xr:s.heap.objs.size≤wP:=by refine ZB BV ?_;exact EQ.grow.1
 have Z2:aB wP=none:=gR EQ.sub (bT BV);have zx:∀p∈os,p.1<wP:=fun p hp=>by refine ZB BV ?_;exact cJ (xz p hp)
 have Nf:wP∉os.map Prod.fst:=fun hx=>by
  refine wS (ao.mp hx) fun p hp e'=>?_;exact absurd (zx p hp) (by refine U e' ?_;exact yG _)
 refine Uo fun h₄ ns dM agc rA=>?_;obtain⟨L,aW⟩:∃a,s₂.heap.objs.size=a:=⟨_,rfl⟩;rw[aW]at acl ns rA⊢;have T3:bx c (fun a=>s.heap.get? a) aB h₄ (lO sc V L) (gJ ts (kJ ts) caps gs) ((B.no.put wP (some tB)).add os):=by
  subst aW;refine bx.comp r t₂ K fQ gF ns dM rA fun a cl e=>?_;by_cases q:a∈os.map Prod.fst
  ·refine wS (ao.mp q) fun p hp s4=>?_;subst s4;rw[B.mW sh.1 hp]at e;obtain rfl:=bh e;have:=zx p hp;exact⟨(o_ p hp).1,by refine U acl ?_;exact vR this,(o_ p hp).2,_,Gz _ _ (xz p hp),rfl,(sh.2 p hp).1⟩
  ·rw[B.jF q]at e;by_cases q':a=wP
   ·subst q';rw[B.ai]at e;obtain rfl:=bh e;exact⟨xr,by refine U acl ?_;exact jM _,Z2,_,L8,afC _⟩
   ·rw[B.aa _ _ q']at e;injection e
 have aev:Y L=none:=r.fresh (by refine U acl ?_;exact pC xr);have Xn:∀n a,(lO sc V L).cells.lookup n=some a→Y a=none:=fun n a e=>by
  rcases Q9 r K fQ rA e with⟨h1,_⟩|⟨m,h⟩
  ·exact r.fresh (Ev xr (by rw[acl]at h1;exact g9 (g9 h1)))
  ·exact(r.own.2 _ _ h).1
 have view:∀{h:Heap} {Z':TW} {NE:XV} {gA:B},bx c (fun a=>s.heap.get? a) Z' h (lO sc V L) NE gA→fS Z Z'→(∀a o,Z' a=some o→Z a=some o∨s.heap.objs.size≤a)→bB c Z' h (lO sc V L) NE Y:=fun{h Z' NE gA} w le ex=>by
  refine⟨w.rd.fn,w.rd.top,w.rd.sub,w.rd.vars,fun a cl e=>?_,⟨⟨aev,w.rd.own.1.2⟩,fun n a e=>⟨Xn n a e,(w.rd.own.2 n a e).2⟩⟩,w.rd.glob⟩;refine b5 (r.cells a cl e) fun aH hz hr=>?_;refine wS aH fun o xz hc=>?_;refine wS (w.keep a o xz) fun o' e' n9=>?_;refine⟨⟨o',e',(hc.same n9).mono le⟩,?_,hr⟩;rcases q:Z' a with _|f5
  ·rfl
  ·obtain h|h:=ex a f5 q
   ·rw[hz]at h;injection h
   ·exact absurd (cJ xz) (eL.mpr h)
 have BC:∀{s':Shared} {Z':TW},e8 B.no s Z B.no s' Z'→∀a o,Z' a=some o→Z a=some o∨s.heap.objs.size≤a:=fun{s' Z'} x a o e=>by
  obtain h|h|h:=x.ext a o e
  ·exact .inl h
  ·exact absurd rfl h
  ·exact .inr h
 have ge:∀{cl:iz} {bw:cC},bw.map Prod.fst=os.map Prod.fst→∀a,((B.no.put wP (some cl)).add bw) a≠none→s.heap.objs.size≤a:=fun{cl bw} hk a ha=>by
  by_cases q:a∈bw.map Prod.fst
  ·rw[hk]at q;refine wS (ao.mp q) fun p hp s4=>?_;subst s4;exact(o_ p hp).1
  ·rw[B.jF q]at ha;by_cases q':a=wP
   ·subst q';exact xr
   ·rw[B.aa _ _ q']at ha;exact absurd rfl ha
 have conv:∀{cl eN:iz} {bw xK:cC} {s' s'':Shared} {Z' eU:TW},bw.map Prod.fst=os.map Prod.fst→e8 B.no s Z B.no s' Z'→e8 ((B.no.put wP (some cl)).add bw) s' Z' ((B.no.put wP (some eN)).add xK) s'' eU→e8 B.no s Z B.no s'' eU:=fun{cl eN bw xK s' s'' Z' eU} hk x y=>by
  refine⟨x.af.trans y.af,x.le.trans y.le,fun a o e=>?_,fun W h=>absurd rfl h⟩;obtain h|h|h:=y.ext a o e
  ·exact x.ext a o h
  ·exact .inr (.inr (ge hk a h))
  ·exact .inr (.inr (Ev x.af.size h))
 have abC:e8 B.no s Z B.no {s₂ with heap:=h₄} aB:=by
  refine⟨t₂.af.trans ⟨fun b o e h=>⟨o,dM b o e,h⟩,?_,aI _,⟨_,_,rfl⟩⟩,t₂.le,fun a o e=>(t₂.ext.2 a o e).imp id .inr,fun W h=>absurd rfl h⟩;show s₂.heap.objs.size≤h₄.objs.size;exact U aW (fN ns.lt)
 have loop:codeAny c.M A (.compLoop e 0 (.ref it) (.ref wP) (lO sc V L)) (fun r s'=>match r with
  | .ok _=>ya c.M A use Q E (.ref wP) L s'
  | .error x=>False) {s₂ with heap:=h₄}:=by
  refine WM (emit:=emit (.ref wP) (lO sc V L)) (fun n s'=>∃aE NE cl Z' bw,n=aE.length∧Inv aE NE cl∧bx c (fun a=>s.heap.get? a) Z' s'.heap (lO sc V L) NE ((B.no.put wP (some cl)).add bw)∧gc s'.heap bw∧bw.map Prod.fst=os.map Prod.fst∧J Z' aE it bw∧e8 B.no s Z B.no s' Z')
   (Hz ..) (hd c.M ..) (kU ..) ?_ items.length ⟨items,_,tB,aB,os,rfl,h0,T3,fun p hp=>dM _ _ (Gz _ _ (xz p hp)),rfl,mK,abC⟩
  intro n s' Go mD;refine ack Go fun aE NE cl Z' bw s4 inv w st hk wc run=>?_;subst s4;have zM:=dg.rows wc;have rd:=view w run.le (BC run);have Xd:wP∉bw.map Prod.fst:=by refine U hk ?_;exact Nf
  have ok':=ok.af run.af;have cK:∀p∈bw,Z' p.1=none∧c.H0.get? p.1=none:=fun p hp=>(w.rd.cells p.1 _ (B.mW zM.1 hp)).2;obtain _|⟨d,rest⟩:=aE
  ·refine dg.fin hand rd fT cK st wc fun iw uI jj=>?_;have ic:=w.after (jj.toEnd (Y:=B.no.put wP (some cl)) w.rd.cells st zM fun p hp=>B.aa _ _ fun e'=>Xd (e'▸cA hp));have qc:=run.trans (jj.xD st zM B.no);refine b5 (ic.rd.cells wP cl (B.ai ..)) fun YY acz W=>?_;have sp:aD c s Z iw uI:=by
    refine⟨⟨qc.af.size,fun a o e=>ic.keep a o e⟩,ic.rd.top,⟨qc.le,fun a o e=>BC qc a o e⟩,ic.rd.sub,qc.af.tok,qc.af.rest⟩
   refine aP (ic.ns) fun m hm=>?_;have ce:CompEnd c s Z iw uI wP L cl:=⟨sp,YY,xr,acz,⟨m,hm⟩,by refine U acl ?_;exact pC xr,ic.iK.2.1,by refine U acl ?_;exact Nat.succ_ne_self _⟩;exact q wP L cl iw uI ⟨NE,inv⟩ ce
  ·refine dg.next hand rd fT cK st wc fun v aG eB GK jj wC qz q6 tv EF=>?_;have nZ:=run.trans (jj.xD st zM B.no);have w₃:=w.after (jj.DR w.rd.cells st zM q6 wC qz);have IL:∀p∈GK,eB p.1=none∧c.H0.get? p.1=none:=fun p hp=>(w₃.rd.cells p.1 _ (B.mW q6.1 hp)).2;refine EF trivial IL fun jh lC AB wF zQ AJ=>?_;have r8:=dg.rows AJ;have AS:=nZ.trans (AB.xD qz q6 B.no);have iO:=w₃.after (AB.DR w₃.rd.cells qz q6 r8 wF zQ);have ou:lC.map Prod.fst=os.map Prod.fst:=wF.trans (wC.trans hk);have QD:wP∉lC.map Prod.fst:=by refine U ou ?_;exact Nf
   refine turn d rest NE cl inv _ A _ jh _ eB v hand iO tv _ _ fun Bs iw uI yV ic dI=>?_;refine aU dI fun b XZ afi wZ=>?_;have qc:=conv ou AS yV
   refine XZ A _ iw uI (ok.af qc.af) (view ic qc.le (BC qc)) _ _ fun uh oU HZ=>?_;have n6:=ic.step HZ;have zC:=qc.trans (HZ.run B.no);have fin:∀{eN:iz} {vq:Shared} {vS:TW},Inv rest Bs eN→bx c (fun a=>s.heap.get? a) vS vq.heap (lO sc V L) Bs ((B.no.put wP (some eN)).add lC)→e8 B.no s Z B.no vq vS→fS oU vS→∃m,m<(d::rest).length∧∃aE NE cl Z' bw,m=aE.length∧Inv aE NE cl∧bx c (fun a=>s.heap.get? a) Z' vq.heap (lO sc V L) NE ((B.no.put wP (some cl)).add bw)∧gc vq.heap bw∧bw.map Prod.fst=os.map Prod.fst∧J Z' aE it bw∧e8 B.no s Z B.no vq Z':=fun{eN vq vS} hi v7 aeT le=>by
    refine⟨rest.length,jM _,rest,Bs,eN,vS,lC,rfl,hi,v7,fun p hp=>?_,ou,dg.mono ((yV.le.trans HZ.le).trans le) AJ,aeT⟩;refine Op (v7.rd.cells p.1 _ (B.mW r8.1 hp)) fun aH W=>?_;refine wS aH fun o xz hc=>?_;exact U xz (U hc.1 rfl)
   obtain _|_:=b
   ·exact U (Tk (by simp)) (fin (afi rfl) n6 zC (.refl _))
   ·refine U (ak rfl) ?_;refine wS (wZ rfl) fun eN ZQ lE=>?_;refine ZQ A _ uh oU wP _ (ok.af zC.af) (view n6 zC.le (BC zC)) n6.rd.cells (by rw[B.jF QD,B.ai]) _ _ fun vq vS aq=>?_;have e':((B.no.put wP (some cl)).add lC).put wP (some eN)=(B.no.put wP (some eN)).add lC:=by exact U (B.ad4 QD) (U B.m6 rfl)
    rw[e']at aq;exact fin lE (n6.after aq) (conv ou zC aq.run) aq.le
 refine UL eT (hd' c.M ..) (T_ ..) loop fun mD=>dg.iter (fun p hp=>dM _ _ (Gz _ _ (xz p hp))) mK loop
end
end
section
section
variable {c:ah} {k:Nat} {O:XV} {Y:B} {s s':Shared} {Z Z':TW} {wP L:Addr} {cl:iz}
theorem CompEnd.last (x:CompEnd c s Z s' Z' wP L cl) (top:c.H0.StaysIn s.heap) (M2:h'.Ns L m') (av:Heap.SameBut L s'.heap h'):CompEnd c s Z {s' with heap:=h'} Z' wP L cl:=by
 obtain⟨st,⟨o,xz,hc⟩,xJ,hz,_,ln,Bg,ne⟩:=x;have Zp:c.H0.get? L=none:=mY top ln;refine⟨⟨⟨by show s.heap.objs.size≤h'.objs.size;refine U av.1 ?_;exact st.grow.1,fun a o e=>?_⟩,fun a o e=>?_,st.ext,fun a o e=>?_,st.tok,?_⟩,⟨o,(av.2 wP (bS ne)).trans xz,hc⟩,xJ,hz,⟨m',M2⟩,ln,Bg,ne⟩
 ·refine wS (st.grow.2 a o e) fun o' e' q=>?_;have:a≠L:=fun q=>absurd (cJ e) (eL.mpr (q▸ln));exact⟨o',(av.2 a this).trans e',q⟩
 ·have:a≠L:=by rintro rfl;rw[Zp]at e;injection e
  exact(av.2 a this).trans (st.top a o e)
 ·have:a≠L:=by rintro rfl;rw[Bg]at e;injection e
  exact⟨(av.2 a this).trans (st.sub.get e),(st.sub a o e).2⟩
 ·refine fL (st.rest) fun h t s4=>?_;subst s4;exact⟨_,t,rfl⟩
theorem CompEnd.frozen (x:CompEnd c s Z s' Z' wP L cl) (xz:s'.heap.get? wP=some o) (hc:o.cls≠ .type "frame"):aD c s Z s' (Z'.put wP o):=by
 have st:=x.step;refine⟨st.grow,st.top,⟨fun a o' e=>?_,fun a o' e=>?_⟩,fun a o' e=>?_,st.tok,st.rest⟩
 ·have e':=st.le a o' e;unfold TW.put;exact U (Tk (by rintro rfl;rw[x.zn]at e';injection e')) e'
 ·unfold TW.put at e;by_cases q:a=wP
  ·subst q;exact .inr x.new
  ·rw[Tk q]at e;exact st.ext.2 a o' e
 ·unfold TW.put at e;by_cases q:a=wP
  ·subst q;rw[ak rfl]at e;obtain rfl:=bh e;exact⟨xz,hc⟩
  ·rw[Tk q]at e;exact st.sub a o' e
theorem CompEnd.LI (x:CompEnd c s Z s' Z' wP L cl):fS Z' (Z'.put wP o):=fun a o' e=>by
 unfold TW.put;exact U (Tk (by rintro rfl;rw[x.zn]at e;injection e)) e
theorem CompEnd.cells (x:CompEnd c s Z s' Z' wP L cl) (r:bB c Z s.heap V O Y):aO c Y s Z ((Y.put L (some .any)).put wP (some cl)) s' Z':=by
 have aq:=x.step.after r;refine⟨aq.size,aq.keep,aq.fields,aq.top,aq.le,aq.ext,aq.sub,fun a h=>?_,fun a eN e=>?_,aq.tok,aq.rest⟩
 ·by_cases q:a=wP
  ·subst q;exact .inr x.new
  ·rw[B.aa _ _ q]at h;by_cases q':a=L
   ·subst q';exact .inr x.tH
   ·rw[B.aa _ _ q']at h;exact .inl h
 ·by_cases q:a=wP
  ·subst q;rw[B.ai]at e;obtain rfl:=bh e;exact⟨x.obj,x.zn,mY r.top x.new⟩
  ·rw[B.aa _ _ q]at e;by_cases q':a=L
   ·subst q';rw[B.ai]at e;obtain rfl:=bh e;refine ZY (x.ns) fun m o es ep xz hd hk K=>?_;exact⟨⟨o,xz,es,ep,hd,hk⟩,x.Bg,mY r.top x.tH⟩
   ·rw[B.aa _ _ q']at e;exact aq.cells a eN e
theorem aO.shrink (x:aO c Y s Z gA s' Z') (le:∀a cl,ki a=some cl→gA a=some cl):aO c Y s Z ki s' Z':=
 ⟨x.size,x.keep,x.fields,x.top,x.le,x.ext,x.sub,fun a h=>by
  refine aP (n8.mp h) fun cl e=>?_;exact x.jz a (by refine U (le a cl e) ?_;simp),fun a cl e=>x.cells a cl (le a cl e),x.tok,x.rest⟩
theorem CompEnd.cell (x:CompEnd c s Z s' Z' wP L cl) (r:bB c Z s.heap V O Y):aO c Y s Z (Y.put wP (some cl)) s' Z':=
 (x.cells r).shrink fun a eN e=>by
  by_cases q:a=wP
  ·subst q;rw[B.ai]at e⊢;exact e
  ·rw[B.aa _ _ q]at e⊢;rw[B.aa _ _ fun q'=>?_]
   ·exact e
   ·rw[q',r.fresh x.tH]at e;injection e
theorem bx.RL (w:bx c bs Z h V O Y) (aW:Y L≠none) (av:Heap.SameBut L h h'):bx c bs Z h' V O (Y.put L none):=by
 refine aP (n8.mp aW) fun uL i6=>?_;refine b5 (w.rd.cells L uL i6) fun K hz h0=>?_;have ne:∀{a:Addr},lT Y h a→a≠L:=fun{a} o q=>aW (q▸o.1);have out:∀{a:Addr},lT Y h a→lT (Y.put L none) h' a:=fun{a} o=>⟨by refine U (B.aa _ _ (ne o)) ?_;exact o.1,by refine U av.1 ?_;exact o.2⟩;refine⟨⟨w.rd.fn,fun b o e=>(av.2 b (by rintro rfl;rw[h0]at e;injection e)).trans (w.rd.top b o e),fun b o e=>⟨(av.2 b (by rintro rfl;rw[hz]at e;injection e)).trans (w.rd.sub.get e),(w.rd.sub b o e).2⟩,fun v s5 d hd=>?_,fun a cl e=>?_,⟨out w.rd.own.1,fun n a e=>out (w.rd.own.2 n a e)⟩,w.rd.glob⟩,fun a o e=>?_,w.names,?_,w.iK,w.locs,fun v s5 hk=>?_,w.apart,w.caps,fun a ha=>?_⟩
 ·refine wS (w.rd.vars v s5 d hd) fun x dz gq=>?_;refine⟨x,dz,?_⟩
  induction jW:v.kind with
  |loc=>
   rw[jW]at gq;refine Op gq fun l1 aaq=>wS aaq fun nP l2 l3=>?_;exact⟨l1,nP,l2.sameBut av (ne w.rd.own.1),l3⟩
  |aM=>
   rw[jW]at gq;refine Op gq fun l1 We=>wS We fun b l2 l3=>?_;exact⟨l1,b,l2,l3.sameBut av (ne (w.rd.own.2 _ _ l2))⟩
  |gC=>
   rw[jW]at gq;refine Op gq fun l1 abA=>wS abA fun b l2 l3=>?_;exact⟨l1,b,l2,l3.sameBut av (ne (w.rd.own.2 _ _ l2))⟩
  |bz=>rw[jW]at gq;exact gq
 ·have q:a≠L:=by rintro rfl;rw[B.ai]at e;injection e
  rw[B.aa _ _ q]at e;refine Op (w.rd.cells a cl e) fun aH r=>?_;refine wS aH fun o xz hc=>?_;exact⟨⟨o,(av.2 _ q).trans xz,hc⟩,r⟩
 ·refine wS (w.keep a o e) fun o' e' q=>?_;exact⟨o',(av.2 a (by rintro rfl;rw[w.mem _ aW]at e;injection e)).trans e',q⟩
 ·refine aP (w.ns) fun m hm=>?_;exact⟨m,hm.sameBut av (ne w.rd.own.1)⟩
 ·refine Op (w.kK v s5 hk) fun h1 acR=>fJ acR fun b x h2 h3 h4=>?_;exact⟨h1,b,x,h2,h3.sameBut av (ne (w.rd.own.2 _ _ h2)),h4⟩
 ·have q:a≠L:=by rintro rfl;exact ha (B.ai ..)
  rw[B.aa _ _ q]at ha;exact w.mem a ha
theorem qo.list (he:f8 c k O Y elt d) (hz:l.length≤1000000):qo c k O Y (fun wP V=>do let _←call (.builtin "list.append") [wP,←eval elt V]) (.list l) (.list (l++[d])):=by
 intro A V s Z wP sY ok r mo ha Q E q;refine u8 (he A V s Z ok r _ E fun v s₁ aB EQ s5=>?_);have aq:=EQ.pR mo;refine Op (aq.cells wP _ ha) fun aH K=>?_;refine wS aH fun o xz X_=>eO X_ fun H n V0 FS=>?_;subst V0;have hsz:H.size=l.length:=by exact ZB FS.length (U gP rfl)
 refine u8 (append_at xz (fun h' av bK=>On (q _ aB (aq.trans ?_))) (by refine U hsz (U cV ?_);exact Ev ‹_› (by decide)));refine aO.put (t:=s₁.toks) aq.cells EQ.top EQ.sub (by refine U ha ?_;simp) av bK (fun H=>by simp) ⟨_,_,rfl,?_⟩ (aI _);exact U HR (FS.append (.cons s5 .nil))
theorem adL (A) (s) (Q E) (h:∀o,o.isFreed=false→(∀Z,eV c Z o (.list []))→Q (.ref s.heap.objs.size) {s with heap:=s.heap.push o}):wpAny c.M A (PySem.newList []) Q E s:=
 iS (h _ rfl fun Z=>⟨#[],0,rfl,.nil⟩) (by show(#[]:Array Value).size≤sizeLine;refine U cV ?_;simp)
variable {J:TW→List D→Addr→cC→Prop} {Src:B→Prop} {elt br iter:Expr} {ifs:List Expr} {sc:Scope} {pos:Pos} {items:List D} {ts:List (Str×cZ)} {caps:List (Str×D)} {gs:List (Str×Value)}
structure dR (c:ah) (k:Nat) (O:XV) (Y:B) (elt br:Expr) (ifs:List Expr) (ts:List (Str×cZ)) (caps:List (Str×D)) (gs:List (Str×Value)) (items out:List D):Prop where
 turn:∃Inv:List D→XV→List D→Prop,Inv items (gJ ts (kJ ts) caps gs) []∧
  (∀d rest NE l,Inv (d::rest) NE l→l.length≤1000000∧∀I,bl c NE I br d fun dJ=>∃b,eH c k dJ Y ifs b∧(b=false→Inv rest dJ l)∧(b=true→∃x,f8 c k dJ Y elt x∧Inv rest dJ (l++[x])))∧
  ∀NE l,Inv [] NE l→l=out
theorem E_ (hh:c.hd=false) (dg:jX c J Src) (hs:∀x,foldedSetIterable iter V x=pure x)
 (hok:nG sc ts (caps.map Prod.fst) (gs.map Prod.fst)=true) (fQ:∀x∈caps,∃kd,(kd=cZ.aM∨kd= .gC)∧(⟨x.1,kd,some x.2⟩:iF)∈O) (gF:∀x∈gs,gB c.H0 x.1 x.2)
 (hi:bF c k O Y iter J items) (fT:Src Y) (lc:dR c k O Y elt br ifs ts caps gs items out)
 (ok:Ok c k A s) (r:bB c Z s.heap V O Y)
 (q:∀wP L s' Z',CompEnd c s Z s' Z' wP L (.list out)→ya c.M A use Q E (.ref wP) L s'):
 wpAny c.M A (comprehension (.ListComp elt [⟨br,iter,ifs,0⟩] sc pos) sc V (firstIterPos [⟨br,iter,ifs,0⟩] pos) (PySem.newList []) false (eval iter V) use) Q E s:=by
 refine aU (lc.turn) fun Inv h0 turn fin=>?_;refine JG hh dg (emit:=fun wP V=>do let _←call (.builtin "list.append") [wP,←eval elt V]) (tB:=.list []) rfl hs (fun K K K=>rfl) (fun K K K K=>rfl) (fun K K K K=>rfl) (fun K K K K=>rfl) (fun K K K K=>rfl) hok fQ gF adL hi fT
  (fun aE NE cl=>∃l,cl= .list l∧Inv aE NE l) ⟨_,rfl,h0⟩ ?_ ok r ?_
 ·intro d rest NE cl Go I;refine wS Go fun l s4 inv=>?_;subst s4;refine Op (turn d rest NE l inv) fun hz hp=>?_;intro A V s bs Z v uP w FS Q E q;refine hp I A V s bs Z v uP w FS Q E fun dJ s' Z' run cU aab=>aU aab fun b h1 h2 h3=>q dJ s' Z' run cU ⟨b,h1,fun e=>⟨l,rfl,h2 e⟩,fun e=>?_⟩;refine wS (h3 e) fun x hx hi=>?_;exact⟨.list (l++[x]),.list hx hz,_,rfl,hi⟩
 ·intro wP L cl s' Z' Go ce;refine eO Go fun NE l s4 inv=>?_;subst s4;obtain rfl:=fin NE l inv;exact q wP L s' Z' ce
theorem f8.mV (hh:c.hd=false) (dg:jX c J Src) (hs:∀V x,foldedSetIterable iter V x=pure x)
 (hok:nG sc ts (caps.map Prod.fst) (gs.map Prod.fst)=true) (fQ:∀x∈caps,∃kd,(kd=cZ.aM∨kd= .gC)∧(⟨x.1,kd,some x.2⟩:iF)∈O) (gF:∀x∈gs,gB c.H0 x.1 x.2)
 (hi:bF c k O Y iter J items) (fT:Src Y) (lc:dR c k O Y elt br ifs ts caps gs items out):f8 c k O Y (.ListComp elt [⟨br,iter,ifs,0⟩] sc pos) (.list out):=by
 intro A V s Z ok r Q E q;rw[eval_ListComp];show wpAny c.M A (comprehension _ sc V _ (PySem.newList []) false (eval iter V) Option.none) Q E s;refine E_ hh dg (hs V) hok fQ gF hi fT lc ok r fun wP L s' Z' ce=>?_;refine aP (ce.ns) fun m M2=>?_;refine⟨m,M2,fun h' m' g7 av=>?_⟩;have qq:=ce.last r.top g7 av;refine wS qq.obj fun o xz aei=>eO aei fun H n aaj FS=>?_;subst aaj;exact q _ _ _ (qq.frozen xz (by simp)) (.list (TW.ai ..) (FS.mono qq.LI))
theorem aF.mV (hh:c.hd=false) (dg:jX c J Src) (hs:∀V x,foldedSetIterable iter V x=pure x)
 (hok:nG sc ts (caps.map Prod.fst) (gs.map Prod.fst)=true) (fQ:∀x∈caps,∃kd,(kd=cZ.aM∨kd= .gC)∧(⟨x.1,kd,some x.2⟩:iF)∈O) (gF:∀x∈gs,gB c.H0 x.1 x.2)
 (hi:bF c k O Y iter J items) (fT:Src Y) (lc:dR c k O Y elt br ifs ts caps gs items out) (h:∀a,Y a=none→Sc (.val (.ref a)) (Y.put a (some (.list out)))):aF c k O Y (.ListComp elt [⟨br,iter,ifs,0⟩] sc pos) Sc:=by
 intro A V s Z ok r Q E q;rw[eval_ListComp];show wpAny c.M A (comprehension _ sc V _ (PySem.newList []) false (eval iter V) Option.none) Q E s;refine E_ hh dg (hs V) hok fQ gF hi fT lc ok r fun wP L s' Z' ce=>?_;refine aP (ce.ns) fun m M2=>?_;refine⟨m,M2,fun h' m' g7 av=>?_⟩;have qq:=ce.last r.top g7 av;exact q _ _ _ _ _ (qq.cell r) (.val _) (h wP (r.fresh ce.new))
theorem bx.freeze (w:bx c bs Z h V O Y) (xz:h.get? a=some o) (hc:o.cls≠ .type "frame") (hb:bs a=none) (hm:Y a=none) (hl:a≠V.locals) (Fv:∀n,V.cells.lookup n≠some a) (hz:Z a=none):bx c bs (Z.put a o) h V O Y:=by
 have le:fS Z (Z.put a o):=fun b o' e=>by
  unfold TW.put;exact U (Tk (by rintro rfl;rw[hz]at e;injection e)) e
 have Bc:∀{b:Addr},b≠a→Z.put a o b=Z b:=fun{b} hb=>Tk hb;refine⟨⟨w.rd.fn,w.rd.top,fun b o' e=>?_,fun v s5 d hd=>?_,fun b cl e=>?_,w.rd.own,w.rd.glob⟩,w.keep,w.names,w.ns,⟨w.iK.1,?_,w.iK.2.2⟩,w.locs,fun v s5 hk=>?_,w.apart,w.caps,w.mem⟩
 ·by_cases q:b=a
  ·subst q;rw[TW.ai]at e;obtain rfl:=bh e;exact⟨xz,hc⟩
  ·rw[Bc q]at e;exact w.rd.sub b o' e
 ·refine wS (w.rd.vars v s5 d hd) fun y t l=>?_;exact⟨y,t.mono le,l⟩
 ·refine b5 (w.rd.cells b cl e) fun aH h2 h3=>?_;refine wS aH fun o' e' h'=>?_;exact⟨⟨o',e',h'.mono le⟩,by refine U (Bc (by rintro rfl;rw[hm]at e;injection e)) ?_;exact h2,h3⟩
 ·exact U (Bc (bS hl)) w.iK.2.1
 ·refine Op (w.kK v s5 hk) fun h1 ade=>xw ade fun b y h2 h3 h4 h5 h6=>?_;exact⟨h1,b,y,h2,h3,h4,by refine U (Bc (by rintro rfl;exact Fv _ h2)) ?_;exact h5,h6⟩
theorem bx.SV (w:bx c bs Z h V O Y) (ha:Y a=some (.list l)):∃o,Z a=none∧bx c bs (Z.put a o) h V O (Y.put a none)∧aR (Z.put a o) (.ref a) (.list l)∧fS Z (Z.put a o):=by
 refine b5 (w.rd.cells a _ ha) fun aH hz K=>?_;refine wS aH fun o xz TQ=>eO TQ fun H n acW FS=>?_;subst acW;have le:fS Z (Z.put a {cls:=.type "list",data:=.seq H n}):=fun b o' e=>by
  unfold TW.put;exact U (Tk (by rintro rfl;rw[hz]at e;injection e)) e
 refine tG _ hz (bx.freeze (w.shrink (I:=Y.put a none) fun b cl e=>?_) xz (by simp) (w.mem a (by refine U ha ?_;simp)) (B.ai ..) ?_ ?_ hz) (.list (TW.ai ..) (FS.mono le)) le
 ·by_cases q:b=a
  ·subst q;rw[B.ai]at e;injection e
  ·rwa [B.aa _ _ q]at e
 ·rintro rfl;have:=w.rd.own.1.1;rw[ha]at this;injection this
 ·intro n e;have:=(w.rd.own.2 n a e).1;rw[ha]at this;injection this
theorem FM.oS (hh:c.hd=false) (dg:jX c J Src) (hs:∀V x,foldedSetIterable iter V x=pure x)
 (hok:nG sc ts (caps.map Prod.fst) (gs.map Prod.fst)=true) (fQ:∀x∈caps,∃kd,(kd=cZ.aM∨kd= .gC)∧(⟨x.1,kd,some x.2⟩:iF)∈O) (gF:∀x∈gs,gB c.H0 x.1 x.2)
 (hi:bF c k O Y iter J items) (fT:Src Y) (lc:dR c k O Y elt br ifs ts caps gs items out) (eW:dX n (.list out) O NE) (h:Sc (.next NE Y)):FM c k O Y (.Assign [.Name n p] (.ListComp elt [⟨br,iter,ifs,0⟩] sc pos') pos) Sc:=by
 intro A V s bs Z ok w Q E q;obtain⟨b,hb⟩:∃b:Bool,swapsWithSole [.Name n p] (.ListComp elt [⟨br,iter,ifs,0⟩] sc pos') pos.line V=pure b:=⟨_,rfl⟩
 induction b with
 |false=>
  refine Ah (f8.mV hh dg hs hok fQ gF hi fT lc A V s Z ok w.rd _ E fun v s₁ aB t s5=>nM (w.step t) eW s5 fun s₂ m w₂=>?_) hb;exact q (.next NE Y) .next s₂ aB ((t.run Y).trans ⟨m,.refl _,fun K K h=>.inl h,fun K h=>.inl h⟩) w₂ .next h
 |true=>
  show wpAny c.M A (standAt pos>>=fun K=>swapsWithSole [.Name n p] (.ListComp elt [⟨br,iter,ifs,0⟩] sc pos') pos.line V>>=_) Q E s;refine U hb ?_;refine u8 (gb (u8 (On ?_)));show wpAny c.M A ((comprehension (.ListComp elt [⟨br,iter,ifs,0⟩] sc pos') sc V (firstIterPos [⟨br,iter,ifs,0⟩] pos') (PySem.newList []) false (eval iter V) (some fun v=>PySem.assign (.Name n p) V v)>>=fun K=>pure ())>>=fun K=>pure .next) Q E s;refine u8 (u8 (E_ hh dg (hs V) hok fQ gF hi fT lc ok w.rd (Q:=fun K s'=>wpAny c.M A (pure ()) (fun K s'=>wpAny c.M A (pure .next) Q E s') E s') fun wP L s' Z' ce=>?_));have r:=w.rd;have bn:∀{a:Addr},s.heap.objs.size≤a→bs a=none:=fun{a} ha=>by
   induction n9:bs a with
   |none=>rfl
   |some o=>exact absurd (w.lt n9) (eL.mpr ha)
  have w₁:bx c bs Z' s'.heap V O (Y.put L (some .any)):=w.after ((ce.cells r).shrink fun a cl e=>by
   rw[B.aa _ _ ?_];exact e;rintro rfl;rw[B.aa _ _ (bS ce.ne),r.fresh ce.new]at e;injection e)
  refine wS ce.obj fun o xz Vr=>eO Vr fun H m aaE FS=>?_;subst aaE;have w₂:bx c bs (Z'.put wP _) s'.heap V O (Y.put L (some .any)):=w₁.freeze xz (by simp) (bn ce.new) (by refine U (B.aa _ _ (bS ce.ne)) ?_;exact r.fresh ce.new) (fun e=>absurd r.own.1.2 (eL.mpr (e▸ce.new))) (fun n e=>absurd (r.own.2 n _ e).2 (eL.mpr ce.new)) ce.zn;have st:=ce.frozen xz (by simp);refine wG (nM w₂ eW (.list (TW.ai ..) (FS.mono ce.LI)) fun iw af ic=>?_);refine b5 (ic.rd.cells L _ (B.ai ..)) fun aH K K=>?_;refine wS aH fun IT qD acX=>eO acX fun es ep JA EE=>?_;refine⟨nsFind es,⟨IT,es,ep,qD,JA,EE,fun K=>rfl⟩,fun h' m' g7 av=>On (On ?_)⟩;refine t_ g7 fun agi abn acS agq agA agn K=>?_;have n6:=(ic.RL (L:=L) (by rw[B.ai];simp) av).shrink (I:=Y) fun a cl e=>by
   have:a≠L:=by rintro rfl;rw[r.fresh ce.tH]at e;injection e
   refine U (B.aa _ _ this) (U (B.aa _ _ this) ?_);exact e
  refine fL ((st.af.trans af).rest) fun hh tt s4=>?_;subst s4;have GZ:kO s {s with heap:=h',toks:=tt}:=⟨fun b o e hb=>by
   refine wS ((st.af.trans af).frames b o e hb) fun o' e' i=>?_;have:b≠L:=fun q=>absurd (cJ e) (eL.mpr (q▸ce.tH));exact⟨o',(av.2 b this).trans e',i⟩,by show _≤h'.objs.size;refine U av.1 ?_;exact(st.af.trans af).size,(st.af.trans af).tok,⟨_,_,rfl⟩⟩
  refine q (.next NE Y) .next _ _ ?_ n6 .next h;exact⟨GZ,st.le,fun a o e=>(st.ext.2 a o e).imp id .inr,fun K h=>.inl h⟩
theorem dX.head (h:kd= .loc∨kd= .aM):dX n d (⟨n,kd,o⟩::r) (⟨n,kd,some d⟩::r):=by
 obtain rfl|rfl:=h
 ·exact .loc
 ·exact .aM
noncomputable def uz (caps:List (Str×D)) (gs:List (Str×Value)):XV:=caps.map (fun x=>⟨x.1,.gC,some x.2⟩)++gs.map (fun x=>⟨x.1,.bz,some (.val x.2)⟩)
theorem dR.map {α:Type} (xs:List α) (g:α→D) (P:α→Bool) (F:α→D) (hz:xs.length≤1000000) (turn:∀a∈xs,∀os,os.length=ts.length→∀I,bl c (gJ ts os caps gs) I br (g a) fun dJ=>(∃bw,bw.length=ts.length∧dJ=gJ ts bw caps gs)∧eH c k dJ Y ifs (P a)∧(P a=true→f8 c k dJ Y elt (F a))):dR c k O Y elt br ifs ts caps gs (xs.map g) ((xs.filter P).map F):=by
 refine⟨⟨fun aE NE l=>∃pre jr os,xs=pre++jr∧aE=jr.map g∧os.length=ts.length∧NE=gJ ts os caps gs∧l=(pre.filter P).map F,⟨[],xs,kJ ts,rfl,rfl,by simp[kJ],rfl,rfl⟩,?_,?_⟩⟩
 ·intro d rest NE l Go;refine zL Go fun pre jr os hx hr xz s4 eE=>?_;subst s4 eE;obtain _|⟨a,jr⟩:=jr
  ·injection hr
  ·refine Op (jd hr) fun s4 eE=>?_;subst s4 eE;refine⟨?_,fun I=>?_⟩
   ·have h1:((pre.filter P).map F).length≤pre.length:=by rw[cj];exact iD _ _
    have h2:pre.length≤xs.length:=by refine U hx (U dZ ?_);exact bX _ _
    exact f7 ‹_› h2 ‹_›
   ·intro A V s bs Z v uP w FS Q E q;refine turn a (by refine U hx ?_;simp) os xz I A V s bs Z v uP w FS Q E fun dJ s' Z' run cU ⟨⟨bw,bK,e⟩,h1,h2⟩=>q dJ s' Z' run cU ⟨P a,h1,fun e'=>?_,fun e'=>⟨F a,h2 e',?_⟩⟩
    ·exact F9 (pre++[a]) jr bw (by refine U hx ?_;simp) rfl bK e (by simp[e'])
    ·exact F9 (pre++[a]) jr bw (by refine U hx ?_;simp) rfl bK e (by simp[e'])
 ·intro NE l Go;refine zL Go fun pre jr os hx hr xz s4 eE=>?_;subst s4 eE;have:jr=[]:=by simpa using hr.symm
  subst this;rw[hx,fV]
variable {α:Type} {xs:List α} {P:α→Bool} {F:α→D}
theorem dR.one (g:α→D) (hz:xs.length≤1000000) (turn:∀a∈xs,eH c k (⟨n,kd,some (g a)⟩::uz caps gs) Y ifs (P a)∧(P a=true→f8 c k (⟨n,kd,some (g a)⟩::uz caps gs) Y elt (F a))) (hk:kd= .loc∨kd= .aM:=by first|exact .inl rfl|exact .inr rfl):
 dR c k O Y elt (.Name n p) ifs [(n,kd)] caps gs (xs.map g) ((xs.filter P).map F):=
 dR.map xs g P F hz fun a ha os xz I=>jg (P:=fun os=>bl c (gJ [(n,kd)] os caps gs) I (.Name n p) (g a) _) (fun o=>bl.name (dX.head hk) ⟨⟨[some (g a)],rfl,rfl⟩,turn a ha⟩) os xz
theorem dR.two (g₁ qy:α→D) (hz:xs.length≤1000000) (turn:∀a∈xs,eH c k (⟨n₁,k₁,some (g₁ a)⟩::⟨pg,k₂,some (qy a)⟩::uz caps gs) Y ifs (P a)∧(P a=true→f8 c k (⟨n₁,k₁,some (g₁ a)⟩::⟨pg,k₂,some (qy a)⟩::uz caps gs) Y elt (F a)))
 (h₁:k₁= .loc∨k₁= .aM:=by first|exact .inl rfl|exact .inr rfl) (h₂:k₂= .loc∨k₂= .aM:=by first|exact .inl rfl|exact .inr rfl):
 dR c k O Y elt (.Tuple [.Name n₁ Ao,.Name pg uG] m p) ifs [(n₁,k₁),(pg,k₂)] caps gs (xs.map fun a=>.tup [g₁ a,qy a]) ((xs.filter P).map F):=by
 refine dR.map xs _ P F hz fun a ha os xz I=>?_;refine sD (P:=fun os=>bl c (gJ [(n₁,k₁),(pg,k₂)] os caps gs) I _ _ _) (fun OA aeu=>?_) os xz;refine bl.tuple ?_;refine bl.name (dX.head h₁) ?_;exact bl.name (.there (dX.head h₂)) ⟨⟨[some (g₁ a),some (qy a)],rfl,rfl⟩,turn a ha⟩
theorem dR.four (g₁ qy Br Dz:α→D) (hz:xs.length≤1000000) (turn:∀a∈xs,eH c k (⟨n₁,k₁,some (g₁ a)⟩::⟨pg,k₂,some (qy a)⟩::⟨oQ,uT,some (Br a)⟩::⟨DZ,Ay,some (Dz a)⟩::uz caps gs) Y ifs (P a)∧(P a=true→f8 c k (⟨n₁,k₁,some (g₁ a)⟩::⟨pg,k₂,some (qy a)⟩::⟨oQ,uT,some (Br a)⟩::⟨DZ,Ay,some (Dz a)⟩::uz caps gs) Y elt (F a)))
 (h₁:k₁= .loc∨k₁= .aM:=by first|exact .inl rfl|exact .inr rfl) (h₂:k₂= .loc∨k₂= .aM:=by first|exact .inl rfl|exact .inr rfl) (qu:uT= .loc∨uT= .aM:=by first|exact .inl rfl|exact .inr rfl) (h₄:Ay= .loc∨Ay= .aM:=by first|exact .inl rfl|exact .inr rfl):
 dR c k O Y elt (.Tuple [.Name n₁ Ao,.Name pg uG,.Name oQ agp,.Name DZ agD] m p) ifs [(n₁,k₁),(pg,k₂),(oQ,uT),(DZ,Ay)] caps gs (xs.map fun a=>.tup [g₁ a,qy a,Br a,Dz a]) ((xs.filter P).map F):=by
 refine dR.map xs _ P F hz fun a ha os xz I=>?_;refine acf (P:=fun os=>bl c (gJ [(n₁,k₁),(pg,k₂),(oQ,uT),(DZ,Ay)] os caps gs) I _ _ _) (fun OA aeu agx agr=>?_) os xz;refine bl.tuple ?_;refine bl.name (dX.head h₁) ?_;refine bl.name (.there (dX.head h₂)) ?_;refine bl.name (.there (.there (dX.head qu))) ?_;exact bl.name (.there (.there (.there (dX.head h₄)))) ⟨⟨[some (g₁ a),some (qy a),some (Br a),some (Dz a)],rfl,rfl⟩,turn a ha⟩
end
end
local macro_rules | `(tactic| walk_at "v") => `(tactic| (with_reducible repeat (first | exact CQ | refine List.mem_cons_of_mem _ ?_)))
local macro_rules | `(tactic| kd_in) => `(tactic| (with_reducible repeat (first | exact dX.loc | exact dX.aM | apply dX.there)))
local macro_rules | `(tactic| kd_p) => `(tactic| (first | exact f8.str | exact f8.int | exact f8.none | exact f8.bool | (apply f8.name (hd := by decide +kernel); walk_at "v") | exact Ev ‹_› (by decide) | decide +kernel | kernel_rfl | (intro; rfl)))
local macro_rules | `(tactic| kst_p) => `(tactic| ((try conv in gM _ => whnf); dsimp only [vars, uz, gJ, List.zip, List.zipWith, List.map, List.append_nil, HAppend.hAppend, Append.append, List.append]))
section
section
variable {c:ah} {k:Nat} {O:XV} {Y:B}
noncomputable def aL (c:ah) (O:XV) (Y:B) (d:D) (l:List D):Prop:=
 ∀(h:Heap) (V:Env) (Z:TW) (v:Value),bB c Z h V O Y→aR Z v d→∃a H n,v= .ref a∧h.get? a=some {cls:=.type "list",data:=.seq H n}∧au Z H.toList l
theorem aL.list:aL c O Y (.list l) l:=fun h V Z v r t=>by
 refine t.l fun e hl=>?_;exact tR _ _ _ rfl (r.sub.get e) hl
theorem aL.cell (hm:Y a=some (.list l)):aL c O Y (.val (.ref a)) l:=fun h V Z v r t=>by
 refine t.v ?_;obtain⟨⟨o,xz,H,n,rfl,FS⟩,_⟩:=r.cells _ _ hm;exact tR a H n rfl xz FS
theorem kL.seq (hs:aL c O Y d l):kL c O Y d "list" :=fun s V Z v r t=>by
 refine dW (hs _ V Z v r t) fun a H n s4 hg J=>?_;subst s4;exact⟨⟨_,hg,rfl⟩,fun b e=>by cases e;exact⟨_,hg,rfl⟩⟩
theorem f8.sub (s5:f8 c k O Y v d₁) (hs:f8 c k O Y bV d₂) (xz:Rs c k O Y (subscriptTail v bV) d₁ d₂ d):f8 c k O Y (.Subscript v bV pos) d:=
 fun A V s Z ok x Q E h=>Subscript_ (f8.two s5 hs xz ok x h)
theorem yz {Z:TW} {H:Array Value} {l:List D} (h:au Z H.toList l) {i:Nat} {d:D} (hi:l[i]?=some d):∃v,H[i]?=some v∧aR Z v d:=by
 refine wS (h.get hi) fun v h1 h2=>?_;exact⟨v,by rw[←xq];exact h1,h2⟩
theorem Rs.item (hs:aL c O Y d₁ l) (h0:0≤i) (hi:l[i.toNat]?=some d) (hb:l.length≤1000000)
 (hsub:∀o j,subscripted bV false o j=operate [o,j] (getItem o j):=by intros;rfl):Rs c k O Y (subscriptTail v bV) d₁ (.int i) d:=by
 intro A V s Z bk bL ok r h₁ h₂ Q E g;refine dW (hs _ V Z bk r h₁) fun a H n s4 hg FS=>?_;subst s4;refine h₂.i fun J=>?_;refine wS (yz FS hi) fun x hx dz=>?_;have bM:i.toNat<l.length:=(k8.mp hi).1;exact rQ (T:="list") ⟨_,hg,rfl⟩ BF.lookup (wpAny_getItem_list ⟨_,hg,rfl,n,rfl⟩ h0 (OR h0 hb bM) hx (kR g r.top r.sub dz)) (hsub _ _)
theorem Rs.wg (hs:aL c O Y d₁ l) (h0:i<0) (h1: -(l.length:Int)≤i) (hi:l[(i+l.length).toNat]?=some d) (hb:l.length≤1000000)
 (hsub:∀o j,subscripted bV false o j=operate [o,j] (getItem o j):=by intros;rfl):Rs c k O Y (subscriptTail v bV) d₁ (.int i) d:=by
 intro A V s Z bk bL ok r h₁ h₂ Q E g;refine dW (hs _ V Z bk r h₁) fun a H n s4 hg FS=>?_;subst s4;refine h₂.i fun J=>?_;have hsz:H.size=l.length:=by exact ZB FS.length (U gP rfl)
 refine wS (yz FS hi) fun x hx dz=>?_;exact rQ (T:="list") ⟨_,hg,rfl⟩ BF.lookup (wpAny_getItem_list_neg ⟨_,hg,rfl,n,rfl⟩ h0 (by refine U hsz ?_;exact h1) (Zx h1 hb) (by refine U hsz ?_;exact hx) (kR g r.top r.sub dz)) (hsub _ _)
theorem Rs.xx (h0:0≤i) (hi:l[i.toNat]?=some d) (hb:l.length≤1000000)
 (hsub:∀o j,subscripted bV false o j=operate [o,j] (getItem o j):=by intros;rfl):Rs c k O Y (subscriptTail v bV) (.tup l) (.int i) d:=by
 intro A V s Z bk bL ok r h₁ h₂ Q E g;refine h₂.i fun J=>?_;refine h₁.t fun{a H n} h FS=>?_;refine wS (yz FS hi) fun x hx dz=>?_;have bM:i.toNat<l.length:=(k8.mp hi).1;have hsz:H.size=l.length:=by exact ZB FS.length (U gP rfl)
 have ff:seqIndex? i H.size=some i.toNat:=by
  have h3:i<(H.size:Int):=hsz▸Ml h0 bM;unfold seqIndex?;simp[h0,h3,Int.not_lt.mpr h0]
 have hT:IsTup s.heap a H:=⟨_,r.sub.get h,rfl,n,rfl⟩;exact rQ hT.typeIs slot_tuple_getitem.lookup (getItem_tuple hT (qx (by decide) h0) (OR h0 hb bM) ff hx (kR g r.top r.sub dz)) (hsub _ _)
theorem Rs.D_ (h1:aL c O Y d₁ tU) (h2:aL c O Y d₂ tS) (hb:tU.length+tS.length≤1000000):Rs c k O Y (binaryOp .Add) d₁ d₂ (.list (tU++tS)):=by
 intro A V s Z bk bL ok r EQ t₂ Q E g;refine dW (h1 _ V Z bk r EQ) fun a H n s4 hg FS=>?_;subst s4;refine dW (h2 _ V Z bL r t₂) fun b ws m s4 hg' DH=>?_;subst s4;have e1:H.size=tU.length:=by exact ZB FS.length (U gP rfl)
 have e2:ws.size=tS.length:=by exact ZB DH.length (U gP rfl)
 refine PySem.P.add_list hg hg' (g _ _ _ (aD.push r.top r.sub _ rfl (by simp)) (.list (TW.ai ..) ?_)) (by refine U cV (U e1 (U e2 ?_));exact Ev ‹_› (by decide));exact U EL ((FS.append DH).mono (aD.push r.top r.sub _ rfl (by simp)).le)
theorem b8.len (hs:aL c O Y d l) (hb:l.length≤1000000):b8 c k O Y (.builtin "len") [d] (.int l.length):=by
 intro A V s Z H ok r h Q E g;refine wS (iN h) fun v s4 s5=>?_;subst s4;refine dW (hs _ V Z v r s5) fun a H n s4 hg FS=>?_;subst s4;have e1:H.size=l.length:=by exact ZB FS.length (U gP rfl)
 refine len_list ⟨_,hg,rfl,n,rfl⟩ (by refine U e1 ?_;exact qv hb) ?_;exact U e1 (gV g r.top r.sub (.int _ _) (bX s.toks 2))
theorem f8.len (hf:f8 c k O Y (.Name "len" p) (.val (.builtin "len"))) (he:f8 c k O Y e d) (hs:aL c O Y d l) (hb:l.length≤1000000)
 (hst:∀V,starEach [e] V=[(false,eval e V)]:=by intro;rfl):f8 c k O Y (.Call (.Name "len" p) [e] [] pos) (.int l.length):=
 f8.call hf (.inl fun a e=>(by injection e)) (.cons he .nil hst) (b8.len hs hb) (fun V=>by rw[hst];rfl)
theorem f8.neg (he:f8 c k O Y e (.int i)):f8 c k O Y (.UnaryOp .USub e pos) (.int (-i)):=by
 intro A V s Z ok x Q E h;show wpAny c.M A (do let v←eval e V;standAt pos;holding [v] (unaryOp .USub v)) Q E s;refine u8 (he A V s Z ok x _ E fun v s₁ aB EQ h₁=>u8 (gb (b4 ?_)));refine h₁.i fun J=>?_;exact PyProof.Rows.neg_int (gV (gk.of (c:=c) h EQ) EQ.top EQ.sub (.int _ _) (b9 _))
noncomputable def fy (c:ah) (k:Nat) (O:XV) (Y:B) (UB:Option Expr) (jk:Option Int):Prop:=
 ∀(A:Around) (V:Env) (s:Shared) (Z:TW),Ok c k A s→bB c Z s.heap V O Y→∀(Q E:Value→Shared→Prop),(∀v s' Z',aD c s Z s' Z'→IsPart v jk→Q v s')→wpAny c.M A (valueOrNone (evalOpt UB V)) Q E s
theorem fy.none:fy c k O Y none none:=fun A V s Z ok r Q E h=>On (h _ s Z r.start .none)
theorem fy.some (he:f8 c k O Y e (.int i)):fy c k O Y (some e) (some i):=fun A V s Z ok r Q E h=>he A V s Z ok r Q E fun v s' Z' t s5=>by
 refine s5.i fun J=>?_;exact h _ s' Z' t (.int _ _)
theorem Of {lo hi st:Option Expr} {p:Pos} {i j m:Option Int} (hl:fy c k O Y lo i) (hh:fy c k O Y hi j) (hm:fy c k O Y st m) {A:Around} {V:Env} {s:Shared} {Z:TW} (ok:Ok c k A s) (r:bB c Z s.heap V O Y) {Q E:Value→Shared→Prop}
 (h:∀a b d s' Z',aD c s Z s' Z'→IsPart a i→IsPart b j→IsPart d m→Q (.ref s'.heap.objs.size) {s' with heap:=s'.heap.push {cls:=.type "slice",data:=.fields #[a,b,d]}}):wpAny c.M A (eval (.Slice lo hi st p) V) Q E s:=by
 show wpAny c.M A (do
  let l←valueOrNone (evalOpt lo V)
  let u←holding [l] (valueOrNone (evalOpt hi V))
  let s←holding [l,u] (valueOrNone (evalOpt st V))
  newFields "slice" [l,u,s]) Q E s
 refine u8 (hl A V s Z ok r _ E fun a s₁ aB EQ jP=>u8 (b4 ?_));refine hh A V s₁ aB (ok.step EQ) (r.step EQ) _ E fun b s₂ bA t₂ mP=>u8 (b4 ?_);refine hm A V s₂ bA ((ok.step EQ).step t₂) ((r.step EQ).step t₂) _ E fun d aG eB t₃ pd=>?_;exact iS (h a b d aG eB ((EQ.trans t₂).trans t₃) jP mP pd)
noncomputable def lF (l:List D) (lo hi st:Option Int):List D:=
 (sliceRange (sliceBounds lo hi st l.length).1 (sliceBounds lo hi st l.length).2.1 (sliceBounds lo hi st l.length).2.2).filterMap (fun x=>l[x]?)
theorem Jm (l) (lo hi):lF l lo hi none=(l.drop (lo.elim 0 (clipAt l.length))).take (hi.elim l.length (clipAt l.length)-lo.elim 0 (clipAt l.length)):=by
 unfold lF;rw[sliceBounds_plain];simp only[sliceRange_one];have h:=pick_run l.toArray (lo.elim 0 (clipAt l.length)) (hi.elim l.length (clipAt l.length)-lo.elim 0 (clipAt l.length));simpa using h
theorem P8 {l:List D} {i:Nat} (h:i≤l.length):lF l none (some (i)) none=l.take i:=by
 rw[Jm];simp only[Option.elim,clipAt_nat,yc,Nat.sub_zero,Er h]
theorem CR {l:List D} {i:Nat} (h:i≤l.length):lF l (some (i)) none none=l.drop i:=by
 rw[Jm];simp only[Option.elim,clipAt_nat,Er h];exact U (xu (by simp)) rfl
theorem adz:lF l none (some (-1:Int)) none=l.take (l.length-1):=by
 rw[Jm];have:=clipAt_neg l.length 1 (by decide);simp only[Option.elim,yc,Nat.sub_zero];exact U (show(-1:Int)= -((1:Nat):Int) by rfl) (U this rfl)
theorem au.places (h:au Z H l):∀DC:List Nat,au Z (DC.filterMap (fun x=>H[x]?)) (DC.filterMap (fun x=>l[x]?))
 |[]=>.nil
 |j::DC=>by
  have ih:=au.places h DC
  induction M2:l[j]? with
  |some d=>
   refine wS (h.get M2) fun v s5 t=>?_;simp only[CW,M2,s5];exact .cons t ih
  |none=>
   have s5:H[j]?=none:=by
    rw[mu]at M2⊢;exact U h.length M2
   simp only[CW,M2,s5];exact ih
theorem au.pick (h:au Z H.toList l) (lo hi st):au Z (slicePick H lo hi st).toList (lF l lo hi st):=by
 have e:(slicePick H lo hi st).toList=(sliceRange (sliceBounds lo hi st l.length).1 (sliceBounds lo hi st l.length).2.1 (sliceBounds lo hi st l.length).2.2).filterMap (fun x=>H.toList[x]?):=by
  have e1:H.size=l.length:=by exact ZB h.length (U gP rfl)
  simp[slicePick,e1]
 exact U e (h.places _)
theorem f8.slice {v:Expr} {lo hi st:Option Expr} {p pos:Pos} {d:D} {l:List D} {i j m:Option Int} (s5:f8 c k O Y v d) (hs:aL c O Y d l) (hl:fy c k O Y lo i) (hh:fy c k O Y hi j) (hm:fy c k O Y st m) (h0:m≠some 0) (hb:l.length≤1000000)
 (hsub:∀o x,∃ops,subscripted (.Slice lo hi st p) false o x=operate ops (getItem o x):=by intros;exact⟨_,rfl⟩):f8 c k O Y (.Subscript v (.Slice lo hi st p) pos) (.list (lF l i j m)):=by
 intro A V s Z ok x Q E g;refine Subscript_ (s5 A V s Z ok x _ E fun bk s₁ aB EQ h₁=>Of hl hh hm (ok.step EQ) (x.step EQ) fun a b cz s₂ bA t₂ jP mP pd=>?_);have r₂:=(x.step EQ).step t₂;have st:=aD.alloc (c:=c) (Z:=bA) t₂.top t₂.sub {cls:=.type "slice",data:=.fields #[a,b,cz]};refine dW (hs _ V bA bk r₂ (h₁.mono t₂.le)) fun la H n s4 hg FS=>?_;subst s4;have e1:H.size=l.length:=by exact ZB FS.length (U gP rfl)
 have hg':=bY (h:=s₂.heap) {cls:=.type "slice",data:=.fields #[a,b,cz]} hg;obtain⟨ops,G0⟩:=hsub (.ref la) (.ref s₂.heap.objs.size);refine rQ (T:="list") ⟨_,hg',rfl⟩ BF.lookup (wpAny_getItem_list_slice ⟨_,hg',rfl,n,rfl⟩ (Heap.IsSliceOf.new ..) jP mP pd h0 ?_ (by refine U cV (U e1 ?_);exact Ev ‹_› (by decide))) G0;have st2:=aD.push st.top st.sub {cls:=.type "list",data:=.seq (slicePick H i j m)} rfl (by simp);exact g _ _ _ (((EQ.trans t₂).trans st).trans st2) (.list (TW.ai ..) ((FS.pick i j m).mono (st.le.trans st2.le)))
end
end
section
noncomputable def di (c:ah) (k:Nat) (O:XV) (Y:B) (f:Value) (ds:List D) (Sc:D→B→Prop):Prop:=
 ∀(A:Around) (V:Env) (s:Shared) (Z:TW) (H:List Value),Ok c k A s→bB c Z s.heap V O Y→au Z H ds→∀(Q E:Value→Shared→Prop),
  (∀d I v s' Z',aO c Y s Z I s' Z'→aR Z' v d→Sc d I→Q v s')→wpAny c.M A (call f H) Q E s
section
variable {c:ah} {k:Nat} {O:XV} {Y:B} {Sc:D→B→Prop}
theorem cD.r (h:cD c k f ds Y Sc):di c k O Y f ds Sc:=fun A V s Z H ok r t Q E q=>h A s Z H ok r.top r.sub t r.cells Q E q
theorem aF.mono (h:aF c k O Y e aX) (Ch:∀d I,aX d I→Sc d I):aF c k O Y e Sc:=fun A V s Z ok r Q E q=>h A V s Z ok r Q E fun d I v s' Z' t s5 hp=>q d I v s' Z' t s5 (Ch d I hp)
theorem aF.call (hf:f8 c k O Y (.Name n p) (.val f)) (cl:qs c f) (ha:iA c k O Y args ds) (hc:di c k O Y f ds Sc)
 (hs:∀V,(starEach args V).all (fun y=>!y.1)=true:=by intro;rfl):aF c k O Y (.Call (.Name n p) args [] pos) Sc:=by
 intro A V s Z ok r Q E g;refine rN (hf A V s Z ok r _ E fun v s₁ aB EQ s5=>?_);refine s5.v ?_;show wpAny c.M A (callWith pos f [] (backTo pos (starEach args V)) []) Q E s₁;refine l6 cl (nQ ha (ok.step EQ) (r.step EQ) hs fun H s₂ bA t₂ bf=>⟨t₂.top,?_⟩);exact hc A V s₂ bA H ((ok.step EQ).step t₂) ((r.step EQ).step t₂) bf Q E fun d I v s' Z' aq=>g d I v s' Z' (((EQ.trans t₂).after r).trans aq)
theorem aF.nq {o:Expr} {name:Str} {c9 pos:Pos} {args:List Expr} {ds:List D} {d₀:D} {T id:String} (xz:f8 c k O Y o d₀) (hT:kL c O Y d₀ T) (jP:PlainAttrs T) (slot:Slot T name id)
 (Ak:typeOf (.builtin id)=pure (.type "method_descriptor")) (ha:iA c k O Y args ds) (hc:di c k O Y (.builtin id) (d₀::ds) Sc)
 (fO:∀V,attributeBase o name V (eval o V)=eval o V:=by intro;rfl)
 (hs:∀V,(starEach args V).all (fun y=>!y.1)=true:=by intro;rfl)
 (ua:∀V,((backTo pos (starEach args V)).all (fun x=>!x.1)&&(backToKw pos (keywordEach [] V)).all (fun x=>x.1.isSome)
  &&decide (args.length+([]:List Keyword).length+(if([]:List Keyword).isEmpty then 0 else 1)<30))=true:=by intro;rfl)
 (f6:(c9.endLine==pos.line)=true:=by rfl):aF c k O Y (.Call (.Attribute o name c9) args [] pos) Sc:=by
 intro A V s Z ok r Q E g;refine zK (fO V) (ua V) f6 (xz A V s Z ok r _ E fun v s₁ aB EQ s5=>?_);refine Op (hT s₁ V aB v (r.step EQ) s5) fun h1 h2=>?_;refine yw T id jP slot Ak h1 h2 ?_;refine l6 (c:=c) (f:=.builtin id) (first:=[v]) (.inl fun a e=>(by injection e)) (nQ ha (ok.step EQ) (r.step EQ) hs fun H s₂ bA t₂ bf=>⟨t₂.top,?_⟩);exact hc A V s₂ bA (v::H) ((ok.step EQ).step t₂) ((r.step EQ).step t₂) (.cons (s5.mono t₂.le) bf) Q E fun d I v s' Z' aq=>g d I v s' Z' (((EQ.trans t₂).after r).trans aq)
theorem FM.expr (he:aF c k O Y e fun d I=>aX (.next O I)) (hs:∀{V},swapsWith e none pos.line V=pure false:=by intros;rfl):FM c k O Y (.Expr e pos) aX:=by
 intro A V s bs Z ok w Q E q;have hk:V.scope.kind= .function:=w.rd.fn;refine wpAny_Expr_any (he A V s Z ok w.rd _ E fun d I v s' Z' aq s5 h=>q (.next O I) .next s' Z' aq.run (w.after aq) .next h) ?_ hs;unfold interactive;refine U hk ?_;rfl
theorem aF.newList (he:iA c k O Y es ds) (hz:ds.length≤1000000) (h:∀a,Y a=none→Sc (.val (.ref a)) (Y.put a (some (.list ds)))):aF c k O Y (.List es pos) Sc:=by
 intro A V s Z ok x Q E q;refine List_ (he A V s Z pos ok x _ E fun H s₁ aB EQ s5=>iS ?_ (by show H.toArray.size≤sizeLine;refine U jL (U s5.length (U cV ?_));exact Ev ‹_› (by decide)));have r₁:=x.step EQ;exact q _ _ _ _ _ ((EQ.after x).trans (aO.new (t:=s₁.toks) (cl:=.list ds) (o:={cls:=.type "list",data:=.seq H.toArray}) r₁.cells r₁.top r₁.sub rfl ⟨_,_,rfl,by simpa using s5⟩ (aI _))) (.val _) (h _ (x.fresh EQ.grow.1))
theorem aF.newDict (h:∀a,Y a=none→Sc (.val (.ref a)) (Y.put a (some (.dict [])))):aF c k O Y (.Dict [] [] pos) Sc:=by
 intro A V s Z ok x Q E q;rw[eval_Dict_empty];refine u8 (gb ?_);unfold PySem.newDict;refine iS ?_ (by size_fits);exact q _ _ _ _ _ (aO.new (t:=s.toks) (cl:=.dict []) (o:={cls:=.type "dict",data:=.dict #[]}) x.cells x.top x.sub rfl ⟨[],⟨#[],0,⟨rfl,rfl,rfl⟩,rfl,fun J h=>by simp at h,.nil,yT⟩,rfl,.nil⟩ (aI _)) (.val _) (h _ (x.fresh (aI _)))
theorem q8 (r:bB c Z h V O Y) (ha:Y a=some (.list l)):∃H n,h.get? a=some {cls:=.type "list",data:=.seq H n}∧au Z H.toList l:=by
 refine Op (r.cells a _ ha) fun aH J=>?_;refine wS aH fun o xz V_=>eO V_ fun H n ad2 FS=>?_;subst ad2;exact pB H n xz FS
theorem di.append (ha:Y a=some (.list l)) (hz:l.length≤1000000) (h:Sc (.val .none) (Y.put a (some (.list (l++[d]))))):di c k O Y (.builtin "list.append") [.val (.ref a),d] Sc:=by
 intro A V s Z H ok r t Q E q;refine fJ (nA t) fun bk bL s4 h₁ h₂=>?_;subst s4;refine h₁.v ?_;refine eO (q8 r ha) fun its n xz FS=>?_;have hsz:its.size=l.length:=by exact ZB FS.length (U gP rfl)
 refine append_at xz (fun h' av bK=>q _ _ _ _ Z ?_ (.val _) h) (by refine U hsz (U cV ?_);lia);refine aO.put (t:=s.toks) r.cells r.top r.sub (by refine U ha ?_;simp) av bK (fun H=>by simp) ⟨_,_,rfl,?_⟩ (aI _);exact U HR (FS.append (.cons h₂ .nil))
theorem aF.append (xz:f8 c k O Y o (.val (.ref a))) (he:f8 c k O Y e d) (ha:Y a=some (.list l)) (hz:l.length≤1000000) (h:Sc (.val .none) (Y.put a (some (.list (l++[d])))))
 (fO:∀V,attributeBase o "append" V (eval o V)=eval o V:=by intro;rfl) (hs:∀V,starEach [e] V=[(false,eval e V)]:=by intro;rfl)
 (f6:(c9.endLine==pos.line)=true:=by rfl):aF c k O Y (.Call (.Attribute o "append" c9) [e] [] pos) Sc:=
 aF.nq xz (.seq (.cell ha)) Di F.slot_list_append F.type_list_append (.cons he .nil hs) (.append ha hz h) fO (fun V=>by rw[hs];rfl) (fun V=>by rw[hs];rfl) f6
theorem MK {h:Heap} {D:Addr} {its its':Array Value} {n:Nat} (xz:h.get? D=some {cls:=.type "list",data:=.seq its n}) (f:Array Value→Array Value) (he:f its=its'):∃gv,(h.update D (Obj.mapSeq f)).get? D=some {cls:=.type "list",data:=.seq its' gv}:=by
 have q:=PySem.IsL.update (h:=h) (l:=D) (items:=its) (n:=n) xz f;rw[he]at q;exact⟨_,q⟩
theorem au.split:∀{l:List D} {H:List Value},au Z H (l++m)→∃p q,H=p++q∧au Z p l∧au Z q m:=by
 intro l
 induction l with
 |nil=>intro H h;exact⟨[],H,rfl,.nil,h⟩
 |cons x l ih=>
  intro H h;change au Z H (x::(l++m))at h;refine h.c fun{a b} h1 h2=>?_;refine fJ (ih h2) fun p q e jx b'=>?_;exact sR (a::p) q (by refine U e ?_;rfl) (.cons h1 jx) b'
theorem di.afJ (ha:Y a=some (.list (l++[d]))) (hz:l.length≤1000000) (h:Sc d (Y.put a (some (.list l)))):di c k O Y (.builtin "list.pop") [.val (.ref a)] Sc:=by
 intro A V s Z H ok r t Q E q;refine wS (iN t) fun bk s4 h₁=>?_;subst s4;refine h₁.v ?_;refine eO (q8 r ha) fun its n xz FS=>?_;refine fJ (FS.split) fun p q' ep hp Ch=>?_;refine wS (iN Ch) fun y s4 No=>?_;subst s4;have I6:its=(p++[y]).toArray:=by exact ZB ep (U AE rfl)
 subst I6;have hpl:=hp.length;have BL:(p++[y]).toArray.size≤sizeLine:=by refine U jL (U dZ (U hpl (U cV ?_)));simp;exact Ev ‹_› (by decide)
 have hk:(p++[y]).toArray.size-1=p.length:=by refine U jL (U dZ ?_);rfl
 have wk:(p++[y]).toArray[(p++[y]).toArray.size-1]?=some y:=by refine U hk ?_;simp
 refine vH PySem.F.slot_list_pop ⟨_,xz,rfl⟩ PySem.F.entry_list_pop (PySem.F.args_list_pop_1 _) (PySem.MeetsSeq.list_pop_last a _ n y wk BL) ⟨xz,?_⟩;obtain⟨gv,bK⟩:=MK (its':=p.toArray) xz (fun x=>x.eraseIdxIfInBounds ((p++[y]).toArray.size-1)) (by
  show(p++[y]).toArray.eraseIdxIfInBounds ((p++[y]).toArray.size-1)=p.toArray;rw[hk,PySem.W.kl_erase,fV])
 exact q _ _ _ _ Z (aO.put (t:=s.toks) (eN:=.list _) r.cells r.top r.sub (by refine U ha ?_;simp) (nh ..) bK (fun H=>by simp) ⟨_,_,rfl,by simpa using hp⟩ (aI _)) No h
theorem di.clear {a:Addr} {l:List D} (ha:Y a=some (.list l)) (hz:l.length≤1000000) (h:Sc (.val .none) (Y.put a (some (.list [])))):di c k O Y (.builtin "list.clear") [.val (.ref a)] Sc:=by
 intro A V s Z H ok r t Q E q;refine wS (iN t) fun bk s4 h₁=>?_;subst s4;refine h₁.v ?_;refine eO (q8 r ha) fun its n xz FS=>?_;have hsz:its.size=l.length:=by exact ZB FS.length (U gP rfl)
 refine vH PySem.F.slot_list_clear ⟨_,xz,rfl⟩ PySem.F.entry_list_clear (PySem.F.args_list_clear_1 _) (PySem.AutoSeq1.list_clear_list_0 a its n (by refine U hsz (U cV ?_);lia)) ⟨xz,?_⟩;refine aP (MK (its':=#[]) xz (fun J=>#[]) rfl) fun gv bK=>?_;exact q _ _ _ _ Z (aO.put (t:=s.toks) (eN:=.list _) r.cells r.top r.sub (by refine U ha ?_;simp) (nh ..) bK (fun H=>by simp) ⟨_,_,rfl,.nil⟩ (aI _)) (.val _) h
end
end
section
theorem ad5:entryFor table "issubclass.nested" =some Builtin.«issubclass.nested»:=entryFor_of_fast (by kernel_rfl)
theorem YZ:builtinKind "issubclass.nested" =none:=by decide+kernel
theorem abK:plainId "issubclass.nested" =true:=by decide+kernel
theorem W4 (a b c):argsOk "issubclass.nested" ⟨[a,b,c],[]⟩:=by unfold argsOk;kernel_rfl
theorem abE:typeOf (.type "str")=pure (.type "type"):=by kernel_rfl
theorem ae9:isSubtype (.type "str") (.type "str")=pure true:=by rw[l_];kernel_rfl
theorem afy (dep) (tk):PySem.Meets (Builtin.«issubclass.nested» ⟨[.type "str",.type "str",.int dep tk],[]⟩) (fun J R s=>R (.ok (.ret (.bool true))) s):=by
 intro _ _ _ _ _ hs;have hm:=abE;have hself:=ae9
 repeat(any_goals (first|assumption|(rw[ak hm])|(rw[hself])|wp_step))
theorem YL
 (N2:s.heap.get? yo=some {cls:=.type "tuple",data:=.seq H n}) (s5:∃r,H.toList= .type "str" ::r) (Ch:∀t,s.toks≤t→Q (.done (.ret (.bool true))) {s with toks:=t}):wpAny (model prog w) A (Builtin.«issubclass.nested» ⟨[.type "str",.ref yo,.int 0 tk],[]⟩) Q E s:=by
 obtain⟨h,g,d,t,os⟩:=s;have Jy:(⟨h,g,d,t,os⟩:Shared).TypeIs (.ref yo) "tuple" :=⟨_,N2,rfl⟩;have f1:=PySem.F.isi_sub_tuple
 repeat(any_goals (first|assumption|wp_step))
 refine PySem.wpAny_arrayLoop ?_;simp only[Bh];refine aP s5 fun r hr=>?_;rw[hr,pI];refine u8 (u8 (PySem.call_function_meets YZ abK ad5 (W4 _ _ _) (afy _ _) ?_));show wpAny _ _ (truthy (.bool true)>>=_) _ _ _;refine u8 (m:=truthy (.bool true)) (On ?_);exact u8 (On (On (On (On (Ch _ (aI _))))))
theorem aet:PySem.Meets (Builtin.«issubclass» ⟨[.type "str",.ref yo],[]⟩) (fun J R s=>s.heap.get? yo=some {cls:=.type "tuple",data:=.seq H n}∧(∃r,H.toList= .type "str" ::r)∧∀t,s.toks≤t→R (.ok (.ret (.bool true))) {s with toks:=t}):=
 fun J J J J J hs=>issubclass_outer (YL hs.1 hs.2.1 hs.2.2)
section
variable {c:ah} {k:Nat} {O:XV} {Y:B}
theorem b8.Wr:b8 c k O Y (.type "type") [.str x] (.val (.type "str")):=by
 intro A V s Z H ok r t Q E g;refine wS (iN t) fun v s4 h=>?_;subst s4;refine h.s fun J=>?_;exact PySem.call_type_of (Tx:="str") rfl (by decide+kernel) (kR g r.top r.sub (.val _))
theorem b8.aap:b8 c k O Y (.builtin "issubclass") [.val (.type "str"),.tup (.val (.type "str")::l)] (.val (.bool true)):=by
 intro A V s Z H ok r t Q E g;refine fJ (nA t) fun bk bL s4 h₁ h₂=>?_;subst s4;refine h₁.v ?_;refine h₂.t fun{a H m} hz hl=>?_;obtain⟨r',hr⟩:∃r',H.toList= .type "str" ::r':=by
  generalize H.toList=q at hl;refine hl.c fun a b=>?_;refine a.v ?_;exact⟨_,rfl⟩
 exact call_issubclass aet ⟨r.sub.get hz,⟨r',hr⟩,fun t FS=>gV g r.top r.sub (.val _) FS⟩
theorem b8.aco:b8 c k O Y (.builtin "isinstance") [.str x,.val (.type "bytes")] (.val (.bool false)):=by
 intro A V s Z H ok r t Q E g;refine fJ (nA t) fun bk bL s4 h₁ h₂=>?_;subst s4;refine h₁.s fun J=>?_;refine h₂.v ?_;exact PySem.call_isinstance (PySem.isinstance_false_str (by decide+kernel) (by kernel_rfl) (by rw[l_];kernel_rfl)) (gV g r.top r.sub (.val _) (b9 _))
theorem dB.seq (hs:aL c O Y d l) (hz:l.length≤1000000):dB c k O Y d (!l.isEmpty):=by
 intro A V s Z v ok r h Q E g;refine dW (hs _ V Z v r h) fun a H n s4 hg FS=>?_;subst s4;have e:(!H.isEmpty)=(!l.isEmpty):=by
  have h1:=FS.length;rw[gP]at h1;rcases H with⟨H⟩;cases H<;>cases l<;>simp_all
 refine Jq ⟨_,hg,rfl,_,rfl⟩ (by refine ZB gP (U FS.length ?_);exact qv ‹_›) ?_;exact U e (g _ Z ((aD.refl r.top r.sub).toks (bX _ 2)))
theorem sU:qs c (.builtin n):=.inl fun a e=>(by injection e)
theorem ue:qs c (.type n):=.inl fun a e=>(by injection e)
theorem fX {a:Addr} {st:Stmt} {q:Str} {dV:Value} (h:FnAt c a st q dV):qs c (.ref a):=by
 refine dW (h.obj) fun o pm cd h1 h2 J=>?_;exact .inr ⟨_,o,_,rfl,h1,h2⟩
theorem aF.pop (xz:f8 c k O Y o (.val (.ref a))) (ha:Y a=some (.list (l++[d]))) (hz:l.length≤1000000) (h:Sc d (Y.put a (some (.list l))))
 (fO:∀V,attributeBase o "pop" V (eval o V)=eval o V:=by intro;rfl)
 (f6:(c9.endLine==pos.line)=true:=by rfl):aF c k O Y (.Call (.Attribute o "pop" c9) [] [] pos) Sc:=
 aF.nq xz (.seq (.cell ha)) Di F.slot_list_pop F.type_list_pop .nil (.afJ ha hz h) fO (fun V=>by rfl) (fun V=>by rfl) f6
theorem aF.clear (xz:f8 c k O Y o (.val (.ref a))) (ha:Y a=some (.list l)) (hz:l.length≤1000000) (h:Sc (.val .none) (Y.put a (some (.list []))))
 (fO:∀V,attributeBase o "clear" V (eval o V)=eval o V:=by intro;rfl)
 (f6:(c9.endLine==pos.line)=true:=by rfl):aF c k O Y (.Call (.Attribute o "clear" c9) [] [] pos) Sc:=
 aF.nq xz (.seq (.cell ha)) Di F.slot_list_clear F.type_list_clear .nil (.clear ha hz h) fO (fun V=>by rfl) (fun V=>by rfl) f6
theorem az.Vv (h:az c k O Y e false):az c k O Y (.BoolOp .And (e::es) pos) false:=az.yl (b':=false) h (fun q=>(by injection q))
theorem az.to (h:az c k O Y e b) (q:b=b'):az c k O Y e b':=q▸h
end
end
section
open PySem.Builtin PySem.Builtin.Str
noncomputable def ww (l:List Str):List D:=l.map .str
theorem Mb:∀l:List (Str×Tok),au Z (strValues l) (ww (l.map Prod.fst))
 |[]=>.nil
 |(x,t)::l=>.cons (.str x t) (Mb l)
theorem vY:∀{H:List Value} {ys:List Str},au Z H (ww ys)→StrsAre H ys
 |_,[],h=>by refine h.n ?_;exact .nil
 |_,y::ys,h=>by
  refine h.c fun h1 h2=>?_;refine h1.s fun J=>?_;exact .cons _ _ (vY h2)
section
variable {c:ah} {k:Nat} {O:XV} {Y:B} {Sc:D→B→Prop}
theorem aew (g:gk c s Z (.list ds) Q) (top:c.H0.StaysIn s.heap) (sub:Sub Z s.heap) (h:au Z H ds) (FS:s.toks≤t):Q (.ref s.heap.objs.size) {s with heap:=s.heap.push {cls:=.type "list",data:=.seq H.toArray},toks:=t}:=by
 have st:=(aD.push top sub {cls:=.type "list",data:=.seq H.toArray} rfl (by simp)).toks (t:=t) FS;exact g _ _ _ st (.list (TW.ai ..) (by simpa using h.mono st.le))
theorem b8.split (No:(y.length==0)=false) (hx:x.length≤100000):b8 c k O Y (.builtin "str.split") [.str x,.str y] (.list (ww (Txt.split x y))):=by
 intro A V s Z H ok r t Q E g;refine fJ (nA t) fun bk bL s4 h₁ h₂=>?_;subst s4;clear t;refine h₁.s fun t=>?_;refine h₂.s fun u=>?_;refine h_ ?_;have qg:∀(l:List (Str×Tok)) (tk:Nat),l.map Prod.fst=Txt.split x y→cB s {s with heap:=s.heap.push {cls:=.type "list",data:=.seq (strValues l).toArray},toks:=tk}→Q (.ref s.heap.objs.size) {s with heap:=s.heap.push {cls:=.type "list",data:=.seq (strValues l).toArray},toks:=tk}:=fun l tk e up=>by
  refine aew g r.top r.sub ?_ up.toks;exact ZB e (Mb l)
 have hsz:x.length≤sizeLine:=by refine U cV ?_;exact Ev ‹_› (by decide)
 cases h1:(decide (x.length<y.length)||decide (PySem.Builtin.Str.strKind x<PySem.Builtin.Str.strKind y))
 ·cases hf:(occurrences x y 0 x.length (x.length+1)).isEmpty
  ·refine vH Du (vB _ _ _) IU (E3 _ _) (meets_str_split_sep x y t u h1 No hf hsz ?_) ?_
   ·rw[I5];have:=StrLaws.occ_length_le x y 0 x.length (x.length+1);refine U cV ?_;lia
   ·show wants _ E _ {s with toks:=_,heap:=s.heap.push {cls:=.type "list",data:=.seq (strsFrom s.toks (partsBetween x (occurrences x y 0 x.length (x.length+1)) y.length)).toArray}};rw[strsFrom_eq];exact qg (numbered s.toks _) _ ((numbered_texts _ _).trans ((Tk (HV h1)).trans (Tk (HV hf))).symm)
  ·exact vH Du (vB _ _ _) IU (E3 _ _) (meets_str_split_not_found x y t u h1 No hf)
    (qg [(x,t)] _ ((Tk (HV h1)).trans (ak hf)).symm)
 ·exact vH Du (vB _ _ _) IU (E3 _ _) (meets_str_split_cannot_occur x y t u h1)
   (qg [(x,t)] _ (ak h1).symm)
theorem f8.split (xz:f8 c k O Y o (.str x)) (he:f8 c k O Y e (.str y)) (No:(y.length==0)=false) (hx:x.length≤100000)
 (fO:∀V,attributeBase o "split" V (eval o V)=eval o V:=by intro;rfl) (hs:∀V,starEach [e] V=[(false,eval e V)]:=by intro;rfl)
 (f6:(c9.endLine==pos.line)=true:=by rfl):f8 c k O Y (.Call (.Attribute o "split" c9) [e] [] pos) (.list (ww (Txt.split x y))):=
 f8.nq xz .str Bu Du F.type_str_split (.cons he .nil hs) (b8.split No hx) fO (fun V=>by rw[hs];rfl) (fun V=>by rw[hs];rfl) f6
theorem b8.join (hs:aL c O Y d (ww ys)) (hok:(ys.map (fun x=>x.length)).sum+ys.length*x.length≤1000000):b8 c k O Y (.builtin "str.join") [.str x,d] (.str (Txt.join x ys)):=by
 intro A V s Z H ok r t Q E g;refine fJ (nA t) fun bk bL s4 h₁ h₂=>?_;subst s4;clear t;refine h₁.s fun J=>?_;refine dW (hs _ V Z bL r h₂) fun a its n s4 hg FS=>?_;subst s4;exact h_ (PyProof.Rows.join_list ⟨_,hg,rfl,n,rfl⟩ (vY FS) (by exact Ev ‹_› (by decide)) fun t' tk up=>gV g r.top r.sub (.str _ _) up.toks)
theorem f8.join (xz:f8 c k O Y o (.str x)) (he:f8 c k O Y e d) (aaK:aL c O Y d (ww ys)) (hok:(ys.map (fun x=>x.length)).sum+ys.length*x.length≤1000000)
 (fO:∀V,attributeBase o "join" V (eval o V)=eval o V:=by intro;rfl) (hs:∀V,starEach [e] V=[(false,eval e V)]:=by intro;rfl)
 (f6:(c9.endLine==pos.line)=true:=by rfl):f8 c k O Y (.Call (.Attribute o "join" c9) [e] [] pos) (.str (Txt.join x ys)):=
 f8.nq xz .str Bu F.slot_str_join F.type_str_join (.cons he .nil hs) (b8.join aaK hok) fO (fun V=>by rw[hs];rfl) (fun V=>by rw[hs];rfl) f6
theorem f8.A_ {v:Expr} {lo hi:Option Expr} {p pos:Pos} {x:Str} {i j:Option Int} (s5:f8 c k O Y v (.str x)) (hl:fy c k O Y lo i) (hh:fy c k O Y hi j) (hx:x.length≤1000000)
 (hsub:∀t y,∃ops,subscripted (.Slice lo hi Option.none p) false (.str x t) y=operate ops (getItem (.str x t) y):=by intros;exact⟨_,rfl⟩):f8 c k O Y (.Subscript v (.Slice lo hi Option.none p) pos) (.str (Txt.slice x i j)):=by
 intro A V s Z ok r Q E g;refine Subscript_ (s5 A V s Z ok r _ E fun bk s₁ aB EQ h₁=>Of hl hh fy.none (ok.step EQ) (r.step EQ) fun a b cz s₂ bA t₂ jP mP pd=>?_);refine h₁.s fun tk=>?_;have r₂:=(r.step EQ).step t₂;have hsz:x.length≤sizeLine:=by refine U cV ?_;exact Ev ‹_› (by decide)
 have st:=aD.alloc (c:=c) (Z:=bA) t₂.top t₂.sub {cls:=.type "slice",data:=.fields #[a,b,cz]};cases pd;obtain⟨ops,G0⟩:=hsub tk (.ref s₂.heap.objs.size);refine rQ (T:="str") (vB _ _ _) F.slot_str_getitem.lookup ?_ G0;refine h_ ?_
 induction jP with
 |none=>
  induction mP with
  |none=>exact DF (l:=Option.none) (u:=Option.none) (st:=Option.none) ⟨_,d7 _ rfl,rfl,rfl⟩ rfl (Ea ⟨Ev (z3 x _ _) hsz,fun t' tk up=>g _ _ _ (((EQ.trans t₂).trans st).toks up.toks) (.str _ _)⟩)
  |int j u=>exact DF (l:=Option.none) (u:=some (j,u)) (st:=Option.none) ⟨_,d7 _ rfl,rfl,rfl⟩ rfl (Ea ⟨Ev (z3 x _ _) hsz,fun t' tk up=>g _ _ _ (((EQ.trans t₂).trans st).toks up.toks) (.str _ _)⟩)
 |int i w=>
  induction mP with
  |none=>exact DF (l:=some (i,w)) (u:=Option.none) (st:=Option.none) ⟨_,d7 _ rfl,rfl,rfl⟩ rfl (Ea ⟨Ev (z3 x _ _) hsz,fun t' tk up=>g _ _ _ (((EQ.trans t₂).trans st).toks up.toks) (.str _ _)⟩)
  |int j u=>exact DF (l:=some (i,w)) (u:=some (j,u)) (st:=Option.none) ⟨_,d7 _ rfl,rfl,rfl⟩ rfl (Ea ⟨Ev (z3 x _ _) hsz,fun t' tk up=>g _ _ _ (((EQ.trans t₂).trans st).toks up.toks) (.str _ _)⟩)
theorem O1:∀{H:List Value} {ns:List Int},au Z H (ns.map .int)→∃xs:List (Int×Tok),H=xs.map (fun p=>.int p.1 p.2)∧xs.map Prod.fst=ns
 |_,[],h=>by refine h.n ?_;exact⟨[],rfl,rfl⟩
 |_,n::ns,h=>by
  refine h.c fun h1 h2=>?_;refine h1.i fun t=>?_;refine wS (O1 h2) fun xs s4 eE=>?_;subst s4 eE;exact⟨(n,t)::xs,rfl,rfl⟩
theorem b8.sum {d:D} {ns:List Int} (hh:c.hd=false) (hs:aL c O Y d (ns.map .int)):b8 c k O Y (.builtin "sum") [d] (.int ns.sum):=by
 intro A V s Z H ok r t Q E g;refine wS (iN t) fun bk s4 h₁=>?_;subst s4;refine dW (hs _ V Z bk r h₁) fun a its n s4 hg FS=>?_;subst s4;refine wS (O1 FS) fun xs e1 e2=>?_;have e3:its=intItems xs.toArray:=by
  apply HG.mp;refine U e1 ?_;simp[intItems]
 subst e3;refine h_ (sum_intListG (ok.hand hh) ⟨_,hg,rfl,n,rfl⟩ fun h' tk t' dM up=>?_);have fY:preSum (numAt xs.toArray) xs.toArray.size=ns.sum:=by
  rw[preSum_eq,←e2];simp only[jL];exact U (xu (by simp)) rfl
 refine U fY ?_;refine g _ _ Z ⟨⟨up.size,fun b o e=>⟨o,dM b o e,.refl _⟩⟩,fun b o e=>dM b o (r.top b o e),.refl ..,fun b o e=>⟨dM b o (r.sub.get e),(r.sub b o e).2⟩,up.toks,⟨_,_,rfl⟩⟩ (.int _ _)
theorem f8.sum {e:Expr} {p pos:Pos} {d:D} {ns:List Int} (hh:c.hd=false) (hf:f8 c k O Y (.Name "sum" p) (.val (.builtin "sum"))) (he:f8 c k O Y e d) (hs:aL c O Y d (ns.map .int))
 (hst:∀V,starEach [e] V=[(false,eval e V)]:=by intro;rfl):f8 c k O Y (.Call (.Name "sum" p) [e] [] pos) (.int ns.sum):=
 f8.call hf (.inl fun a e=>(by injection e)) (.cons he .nil hst) (b8.sum hh hs) (fun V=>by rw[hst];rfl)
end
end
theorem Ua (t:aV c):
 wE c k (vars [("path",.loc)] [.str x] [("kind",.loc)] [("type",.type "type"),("issubclass",.builtin "issubclass"),("str",.type "str"),("bytes",.type "bytes")]) B.no (gM (bH 15)) (p7 (.str x)):=by
 kst_p
 refine wE.cons (FM.assign (d:=.val (.type "str")) (f8.call (by kd_p) ue (.cons (by kd_p) .nil (by kd_p)) b8.Wr (by kd_p)) (by kd_in) ?_);refine wE.cons (FM.ifs (b:=true) (az.plain (d:=.val (.bool true)) (f8.call (by kd_p) sU (.cons (by kd_p) (.cons (f8.tuple (.cons (by kd_p) (.cons (by kd_p) .nil (by kd_p)) (by kd_p)) (by simp)) .nil (by kd_p)) (by kd_p)) b8.aap (by kd_p)) dB.bool) (fun J=>wE.cons (FM.ret (by kd_p) ?_)) (fun h=>(by injection h)));rfl
theorem Ll (t:aV c):cu c (k+1) (.ref 214) [.str x] (.str x):=
 cu.fn (st:=bH 15) (qual:="fspath") (dV:=.none) (t.fn rfl rfl rfl rfl) (by kd_p)
  (bC (t.dw (by kd_p) (by kd_p) (by decide)) (bC (t.dw (by kd_p) (by kd_p) (by decide)) (bC (t.dw (by kd_p) (by kd_p) (by decide)) (bC (t.dw (by kd_p) (by kd_p) (by decide)) cI)))) rfl (fun J J=>jg fun J=>rfl) (fun bP=>Ua (t.at (L:=bP)))
noncomputable abbrev aQ:Str:=Str.ofString "/"
theorem Mk (t:aV c) (hf:f8 c (k+1) O Y (.Name "fspath" p) (.val (.ref 214))) (he:f8 c (k+1) O Y e (.str x)) (hs:∀V,starEach [e] V=[(false,eval e V)]:=by kd_p):f8 c (k+1) O Y (.Call (.Name "fspath" p) [e] [] pos) (.str x):=
 f8.call hf (fX (st:=bH 15) (t.fn rfl rfl rfl rfl)) (.cons he .nil hs) (cu.r (Ll t)) (fun V=>by rw[hs];rfl)
theorem Jo (hf:f8 c k O Y (.Name "isinstance" p) (.val (.builtin "isinstance"))) (he:f8 c k O Y e (.str x)) (hb:f8 c k O Y b (.val (.type "bytes"))) (hs:∀V,starEach [e,b] V=[(false,eval e V),(false,eval b V)]:=by kd_p) (oX:∀V,starEach [b] V=[(false,eval b V)]:=by kd_p):az c k O Y (.Call (.Name "isinstance" p) [e,b] [] pos) false:=
 az.plain (f8.call hf sU (.cons he (.cons hb .nil oX) (fun V=>by rw[hs,oX])) b8.aco (fun V=>by rw[hs];rfl)) dB.bool
theorem afQ (t:aV c) (hx:x.length≤1000) (h1:(Txt.slice x none (some 1) !=aQ)=false) (h2:((Txt.slice x (some 1) (some 2) !=aQ)||(Txt.slice x (some 2) (some 3)==aQ))=true):
 wE c (k+1) (vars [("p",.loc)] [.str x] [("sep",.loc),("empty",.loc)] [("fspath",.ref 214),("isinstance",.builtin "isinstance"),("bytes",.type "bytes")]) B.no (gM (bH 19)) (p7 (.tup [.str Str.empty,.str aQ,.str (Txt.slice x (some 1) none)])):=by
 kst_p
 refine wE.cons (FM.assign (d:=.str x) (Mk t (by kd_p) (by kd_p)) (by kd_in) ?_);refine wE.cons (FM.ifs (b:=false) (Jo (by kd_p) (by kd_p) (by kd_p)) (fun h=>(by injection h)) fun J=>?_);refine wE.cons (FM.assign (d:=.str aQ) (by kd_p) (by kd_in) ?_);refine wE.cons (FM.assign (d:=.str Str.empty) (by kd_p) (by kd_in) ?_);refine wE.nil ?_;refine wE.cons (FM.ifs (b:=false) ?_ (fun h=>(by injection h)) fun J=>?_)
 ·exact ZB h1 (az.cmp (f8.A_ (by kd_p) .none (.some (by kd_p)) (by kd_p)) (by kd_p) Rs.qj)
 refine wE.cons (FM.ifs (b:=true) ?_ (fun J=>?_) (fun h=>(by injection h)))
 ·refine ZB h2 (ZB (tT (Txt.slice x (some 2) (some 3)==aQ)) ?_);refine az.q4 (az.cmp (f8.A_ (by kd_p) (.some (by kd_p)) (.some (by kd_p)) (by kd_p)) (by kd_p) Rs.qj) fun J=>?_;exact az.q4 (az.cmp (f8.A_ (by kd_p) (.some (by kd_p)) (.some (by kd_p)) (by kd_p)) (by kd_p) Rs.eqStr) fun J=>az.zu
 refine wE.cons (FM.ret (d:=.tup [.str Str.empty,.str aQ,.str (Txt.slice x (some 1) none)]) (f8.tuple (.cons (by kd_p) (.cons (by kd_p) (.cons (f8.A_ (by kd_p) (.some (by kd_p)) .none (by kd_p)) .nil (by kd_p)) (by kd_p)) (by kd_p)) (by simp)) ?_);rfl
theorem YW (t:aV c) (hx:x.length≤1000) (h1:(Txt.slice x none (some 1) !=aQ)=false) (h2:((Txt.slice x (some 1) (some 2) !=aQ)||(Txt.slice x (some 2) (some 3)==aQ))=true):cu c (k+2) (.ref 228) [.str x] (.tup [.str Str.empty,.str aQ,.str (Txt.slice x (some 1) none)]):=
 cu.fn (st:=bH 19) (qual:="splitroot") (dV:=.none) (t.fn rfl rfl rfl rfl) (by kd_p)
  (bC (t.glob (by kd_p)) (bC (t.dw (by kd_p) (by kd_p) (by decide)) (bC (t.dw (by kd_p) (by kd_p) (by decide)) cI))) rfl (fun J J=>jg fun J=>rfl) (fun bP=>afQ (t.at (L:=bP)) hx h1 h2)
noncomputable abbrev oB:Str:=Str.ofString "."
noncomputable abbrev nJ:Str:=Str.ofString ".."
noncomputable def yp (x:Str):Bool:=!(x.length !=0)||(x==oB)
noncomputable def gG (wP:List Str) (x:Str):List Str:=if yp x then wP else if x !=nJ then wP++[x]else wP.dropLast
noncomputable def jl (wP xs:List Str):List Str:=xs.foldl gG wP
noncomputable def qV (p:Str):Str:=aQ++Txt.join aQ (jl [] (Txt.split (Txt.slice p (some 1) none) aQ))
theorem WL (h:∀y∈wP,(y==nJ)=false):∀y∈gG wP x,(y==nJ)=false:=by
 intro y No;unfold gG at No;split at No
 ·exact h y No
 ·split at No
  ·obtain No|No:=b_.mp No
   ·exact h y No
   ·obtain rfl:=fG.mp No
    simp_all
  ·exact h y (List.dropLast_subset _ No)
theorem Z9:(gG wP x).length≤wP.length+1:=by
 unfold gG;split
 ·exact b9 _
 ·split
  ·simp
  ·simp;lia
theorem Zf (h:∀y∈wP,y.length≤b) (hx:x.length≤b):∀y∈gG wP x,y.length≤b:=by
 intro y No;unfold gG at No;split at No
 ·exact h y No
 ·split at No
  ·obtain No|No:=b_.mp No
   ·exact h y No
   ·obtain rfl:=fG.mp No;exact hx
  ·exact h y (List.dropLast_subset _ No)
theorem Fw {l:List Str} {b:Nat} (h:∀y∈l,y.length≤b):(l.map (fun x=>x.length)).sum≤l.length*b:=by
 induction l with
 |nil=>simp
 |cons x l ih=>
  have h1:=h x (.head _);have h2:=ih fun y No=>h y (.tail _ No);simp only[aK,List.sum_cons,bW,Nat.add_mul,Nat.one_mul];exact Ev (mw h1 h2) (bT (uF ..))
inductive Pr (x:Str) (cs:List Str) (a:Addr) (aE:List D) (O:XV) (Y:B):Prop
 |mk (done ay:List Str) (wP:List Str) (o:Option D):(aE=ww ay)→(cs=done++ay)→(Y=B.no.put a (some (.list (ww wP))))→(wP.length≤done.length)→((∀y∈wP,y.length≤1000))→((∀y∈wP,(y==nJ)=false))→(jl [] cs=jl wP ay)→(O=[⟨"path",.loc,some (.str (Txt.slice x (some 1) none))⟩,⟨"sep",.loc,some (.str aQ)⟩,⟨"dot",.loc,some (.str oB)⟩,⟨"dotdot",.loc,some (.str nJ)⟩,⟨"_",.loc,some (.str Str.empty)⟩,⟨"initial_slashes",.loc,some (.str aQ)⟩,⟨"comps",.loc,some (.list (ww cs))⟩,⟨"new_comps",.loc,some (.val (.ref a))⟩,⟨"comp",.loc,o⟩,⟨"fspath",.bz,some (.val (.ref 214))⟩,⟨"isinstance",.bz,some (.val (.builtin "isinstance"))⟩,⟨"bytes",.bz,some (.val (.type "bytes"))⟩,⟨"splitroot",.bz,some (.val (.ref 228))⟩])→Pr x cs a aE O Y
theorem VL (t:aV c) (hx:x.length≤1000) (xm:x.length≠0) (h1:(Txt.slice x none (some 1) !=aQ)=false) (h2:((Txt.slice x (some 1) (some 2) !=aQ)||(Txt.slice x (some 2) (some 3)==aQ))=true)
 (hs:(Txt.split (Txt.slice x (some 1) none) aQ).length≤300∧∀y∈Txt.split (Txt.slice x (some 1) none) aQ,y.length≤1000):
 wE c (k+2) (vars [("path",.loc)] [.str x] [("sep",.loc),("dot",.loc),("dotdot",.loc),("_",.loc),("initial_slashes",.loc),("comps",.loc),("new_comps",.loc),("comp",.loc)] [("fspath",.ref 214),("isinstance",.builtin "isinstance"),("bytes",.type "bytes"),("splitroot",.ref 228)]) B.no (gM (bH 20)) (p7 (.str (qV x))):=by
 kst_p
 have hh:=t.hd;refine wE.cons (FM.assign (d:=.str x) (Mk t (by kd_p) (by kd_p)) (by kd_in) ?_);refine wE.cons (FM.ifs (b:=false) (Jo (by kd_p) (by kd_p) (by kd_p)) (fun h=>(by injection h)) fun J=>?_);refine wE.cons (FM.assign (d:=.str aQ) (by kd_p) (by kd_in) ?_);refine wE.cons (FM.assign (d:=.str oB) (by kd_p) (by kd_in) ?_);refine wE.cons (FM.assign (d:=.str nJ) (by kd_p) (by kd_in) ?_);refine wE.nil ?_;refine wE.cons (FM.ifs (b:=false) ?_ (fun h=>(by injection h)) fun J=>wE.nil ?_)
 ·have:false= !(x.length !=0):=by simp[xm]
  exact U this (az.not (az.plain (by kd_p) (dB.str (Ev hx (by decide)))))
 refine wE.cons (FM.A7 hh (d:=.tup [.str Str.empty,.str aQ,.str (Txt.slice x (some 1) none)]) (f8.call (by kd_p) (fX (st:=bH 19) (t.fn rfl rfl rfl rfl)) (.cons (by kd_p) .nil (by kd_p)) (cu.r (YW t hx h1 h2)) (by kd_p)) ?_);refine bl.tuple (bl.name (by kd_in) (bl.name (by kd_in) (bl.name (by kd_in) ?_)));dsimp only[rX];have hr:(Txt.slice x (some 1) none).length≤1000:=Ev (z3 x _ _) hx;refine wE.cons (FM.assign (f8.split (by kd_p) (by kd_p) (by kd_p) (Ev hr (by decide))) (by kd_in) ?_);generalize aeK:Txt.split (Txt.slice x (some 1) none) aQ=cs at hs;have cP:qV x=aQ++Txt.join aQ (jl [] cs):=by unfold qV;exact U aeK rfl
 refine wE.cons (FM.iT (aF.newList .nil (by simp) fun a J=>⟨_,by kd_in,?_⟩));refine wE.cons (FM.for hh gI (items:=ww cs) (bF.list (by kd_p)) (Pr x cs a)
  ⟨[],cs,[],_,rfl,rfl,rfl,aI _,by simp,by simp,rfl,rfl⟩ (fun J J J J=>trivial) ?_ ?_)
 ·intro d rest NE I Go;obtain⟨done,ay,wP,o,ur,he,rfl,hl,hb,hd,hg,rfl⟩:=Go;obtain _|⟨y,ay⟩:=ay
  ·injection ur
  refine Op (jd ur) fun s4 eE=>?_;subst s4 eE;have No:y.length≤1000:=hs.2 y (by refine U he ?_;simp);have gi:done.length+ay.length+1≤300:=by have:=hs.1;rw[he]at this;simp at this;exact this
  have ig:(ww wP).length=wP.length:=by simp[ww]
  have uW:=Ev (bX done.length (ay.length+1)) gi;have hda:=j7 ig hl uW;refine bl.name (by kd_in) ?_;have hnext:∀rI,rI=gG wP y→∃(MD om:List Str) (z0:List Str) (o:Option D),ww ay=ww om∧cs=MD++om∧B.no.put a (some (.list (ww rI)))=B.no.put a (some (.list (ww z0)))∧z0.length≤MD.length∧(∀y∈z0,y.length≤1000)∧(∀y∈z0,(y==nJ)=false)∧jl [] cs=jl z0 om∧o=some (D.str y):=by
   rintro _ rfl;refine⟨done++[y],ay,_,_,rfl,by rw[he,j6];rfl,rfl,?_,Zf hb No,WL hd,by rw[hg];rfl,rfl⟩;simp;exact Ev Z9 (gw hl)
  refine wE.cons (FM.ifs (b:=yp y) ?_ (fun dQ=>wE.cons (FM.cont ?_)) fun dQ=>wE.nil ?_)
  ·unfold yp;exact ZB (tT (y==oB)) (az.q4 (az.not (az.plain (by kd_p) (dB.str (Ev No (by decide))))) fun J=>az.q4 (az.cmp (by kd_p) (by kd_p) Rs.eqStr) fun J=>az.zu)
  ·refine v_ (hnext wP (by unfold gG;exact U (ak dQ) rfl)) fun cz t' jx o' e1 e2 e3 fY e5 nu oj s4=>?_;subst s4;exact⟨cz,t',jx,_,e1,e2,e3,fY,e5,nu,oj,rfl⟩
  refine wE.cons (FM.ifs (b:=y !=nJ) ?_ (fun BD=>?_) fun BD=>?_)
  ·refine ZB (tT (y !=nJ)) ?_;refine az.q4 (az.cmp (by kd_p) (by kd_p) Rs.qj) fun J=>?_;refine ZB (tT false) ?_;refine az.q4 (az.Vv ((az.not (az.plain (d:=.str aQ) (by kd_p) (dB.str (by kd_p)))).to (by kd_p))) fun J=>?_;refine ZB (tT false) ?_;refine az.q4 ?_ fun J=>az.zu;refine ZB (HC (!(ww wP).isEmpty)) ?_;refine az.yl (az.plain (by kd_p) (dB.seq (aL.cell (B.ai ..)) (Ev hda (by decide)))) fun bg=>?_;obtain rfl|⟨AA,z,rfl⟩:=PB wP
   ·injection bg
   have hz:(z==nJ)=false:=hd z (by simp);refine ZB hz (ZB (wH (z==nJ)) ?_);refine az.yl (az.cmp (f8.sub (d₁:=.val (.ref a)) (d₂:=.int (-1)) (by kd_p) (f8.neg f8.int) (Rs.wg (aL.cell (B.ai ..)) (by decide) ?_ ?_ (Ev hda (by decide)))) (by kd_p) Rs.eqStr) fun J=>az.OP
   ·simp[ww];exact Gv (kG _)
   ·simp only[ww,List.concat_eq_append,gK,aK,sq,dZ,cj,bW,g6];refine U (show((-1:Int)+((AA.length+(0+1):Nat):Int)).toNat=(AA.map D.str).length by rw[cj];exact Ht) ?_;simp
  ·refine wE.cons (FM.expr (aF.append (a:=a) (l:=ww wP) (d:=.str y) (by kd_p) (by kd_p) (B.ai ..) (Ev hda (by decide)) ?_));refine wE.nil ?_;refine wE.nil ?_;refine v_ (hnext (wP++[y]) (by unfold gG;refine U dQ (U BD ?_);rfl)) fun cz t' jx o' e1 e2 e3 fY e5 nu oj s4=>?_;subst s4;refine⟨cz,t',jx,_,e1,e2,?_,fY,e5,nu,oj,rfl⟩;refine U B.m6 (ZB e3 ?_);simp[ww]
  ·refine wE.cons (FM.ifs (b:=!(ww wP).isEmpty) (az.plain (by kd_p) (dB.seq (aL.cell (B.ai ..)) (Ev hda (by decide)))) (fun bg=>?_) fun bg=>wE.nil ?_)
   ·obtain rfl|⟨AA,z,rfl⟩:=PB wP
    ·injection bg
    refine wE.cons (FM.expr (aF.pop (a:=a) (l:=ww AA) (d:=.str z) (by kd_p) ?_ ?_ ?_))
    ·rw[B.ai];simp[ww]
    ·simp[ww];simp at hl;exact f7 (g9 hl) uW (by decide)
    refine wE.nil ?_;refine wE.nil ?_;refine wE.nil ?_;refine v_ (hnext AA (by unfold gG;refine U dQ (U BD ?_);simp)) fun cz t' jx o' e1 e2 e3 fY e5 nu oj s4=>?_;subst s4;refine⟨cz,t',jx,_,e1,e2,?_,fY,e5,nu,oj,rfl⟩;exact U B.m6 (ZB e3 rfl)
   ·refine wE.nil ?_;refine wE.nil ?_;have B3:wP=[]:=by cases wP with
     |nil=>rfl
     |cons z r=>simp[ww]at bg
    refine v_ (hnext wP (by unfold gG;refine U dQ (U BD (U B3 ?_));rfl)) fun cz t' jx o' e1 e2 e3 fY e5 nu oj s4=>?_;subst s4;exact⟨cz,t',jx,_,e1,e2,e3,fY,e5,nu,oj,rfl⟩
 ·intro NE I Go;obtain⟨done,ay,wP,o,ur,he,rfl,hl,hb,hd,hg,rfl⟩:=Go;obtain _|⟨y,ay⟩:=ay
  rotate_left
  ·injection ur
  have B3:jl [] cs=wP:=by refine U hg ?_;rfl
  have ig:(ww wP).length=wP.length:=by simp[ww]
  rw[fV]at he;subst he;refine wE.nil ?_;refine wE.cons (FM.assign (d:=.val (.ref a)) (by kd_p) (by kd_in) ?_);have jm:aQ.length=1:=by decide+kernel
  have hsum:=Fw hb;have v8:(Txt.join aQ wP).length≤700000:=by
   unfold Txt.join;rw[yx,jm];exact HP (Ev hl hs.1) hsum
  have hnl:(qV x).length=1+(Txt.join aQ wP).length:=by rw[cP,B3,CM,jm]
  refine wE.cons (FM.assign (d:=.str (qV x)) ?_ (by kd_in) ?_)
  ·refine U cP (U B3 ?_);refine f8.bin (by kd_p) (f8.join (by kd_p) (by kd_p) (aL.cell (B.ai ..)) ?_) (Rs.qH (KX v8 jm));exact U jm (Hs (Ev hl hs.1) hsum)
  refine wE.cons (FM.ret (f8.Dy (d:=.str (qV x)) (by kd_p) (dB.str (Ev (bT hnl) (Ev (jQ v8 1) (by decide)))) (fun J=>rfl) (fun h=>absurd h (by refine U hnl ?_;simp))) ?_);rfl
theorem Ow (t:aV c) (hx:x.length≤1000) (xm:x.length≠0) (h1:(Txt.slice x none (some 1) !=aQ)=false) (h2:((Txt.slice x (some 1) (some 2) !=aQ)||(Txt.slice x (some 2) (some 3)==aQ))=true)
 (hs:(Txt.split (Txt.slice x (some 1) none) aQ).length≤300∧∀y∈Txt.split (Txt.slice x (some 1) none) aQ,y.length≤1000):cu c (k+3) (.ref 235) [.str x] (.str (qV x)):=
 cu.fn (st:=bH 20) (qual:="normpath") (dV:=.none) (t.fn rfl rfl rfl rfl) (by kd_p)
  (bC (t.glob (by kd_p)) (bC (t.dw (by kd_p) (by kd_p) (by decide)) (bC (t.dw (by kd_p) (by kd_p) (by decide)) (bC (t.glob (by kd_p)) cI)))) rfl (fun J J=>jg fun J=>rfl) (fun bP=>VL (t.at (L:=bP)) hx xm h1 h2 hs)
section
theorem Qc (h:Q (s.heap.get? a) s):wpAny M A (loadIfAlive a) Q E s:=by
 intro Γ p _;unfold loadIfAlive;rw[Sem.wp_loadIfAlive];exact h
structure aZ where
 it:Addr
 src:Addr
 j:Nat
 H:Array Value
noncomputable def aZ.at (q:aZ) (h:Heap):Prop:=h.IsListIter q.it q.src q.j∧h.IsList q.src q.H
noncomputable def aZ.up (q:aZ):aZ:={q with j:=q.j+1}
theorem aZ.at.ext {q:aZ} {h h':Heap} (x:q.at h) (e:∀b o,b=q.it∨b=q.src→h.get? b=some o→h'.get? b=some o):q.at h':=by
 refine Op x fun aai Sy=>wS Sy fun o' bK r'=>?_;obtain⟨o,xz,r⟩:=aai;exact⟨⟨o,e _ _ (.inl rfl) xz,r⟩,o',e _ _ (.inr rfl) bK,r'⟩
noncomputable abbrev aZ.v (q:aZ):Value:=.ref q.it
noncomputable def aZ.apart (zs:List aZ):Prop:=(zs.map (fun x=>x.it)).Nodup∧∀q∈zs,q.src∉zs.map (fun x=>x.it)
theorem aZ.apart.tail (h:aZ.apart (q::zs)):aZ.apart zs:=⟨(dm.mp h.1).2,fun p hp Ch=>h.2 p (.tail _ hp) (.tail _ Ch)⟩
theorem aZ.apart.ne (hd:aZ.apart (q::zs)):∀p∈zs,p.it≠q.it∧p.src≠q.it:=fun p hp=>by
 refine Op hd fun h1 h2=>?_;rw[aK,dm]at h1;refine⟨fun e=>h1.1 ?_,fun e=>h2 p (.tail _ hp) ?_⟩
 ·exact ZB e (ao.mpr ⟨p,hp,rfl⟩)
 ·exact U e (.head _)
inductive rt:List aZ→List Value→Prop
 |nil:rt [] []
 |cons {q:aZ} {zs:List aZ} {x:Value} {xs:List Value}:q.H[q.j]?=some x→rt zs xs→rt (q::zs) (x::xs)
section
variable {prog:Program} {w:World} {A:Around} {E:Value→Shared→Prop}
theorem V6
 (hF:∀(it) (wP) (s) (Q:ForInStep (Option Fin×Array Value)→Shared→Prop),wpAny (model prog w) A (Builtin.SmallTypes.nextOf (.ref it)) (fun x s'=>Q (.yield (none,wP.push x)) s') E s→wpAny (model prog w) A (F (.ref it) (none,wP)) Q E s):
 ∀(zs) (xs) (wP) (s) (Q:Option Fin×Array Value→Shared→Prop),aZ.apart zs→rt zs xs→(∀q∈zs,q.at s.heap)→
  (∀h':Heap,(∀q∈zs,q.up.at h')→(∀b o,b∉zs.map (fun x=>x.it)→s.heap.get? b=some o→h'.get? b=some o)→h'.objs.size=s.heap.objs.size→Q (none,wP++xs.toArray) {s with heap:=h'})→
  wpAny (model prog w) A (forIn (zs.map aZ.v) ((none:Option Fin),wP) F) Q E s:=by
 intro zs
 induction zs with
 |nil=>
  intro xs wP s Q _ hg _ h;cases hg;refine On ?_;have:=h s.heap (by simp) (fun J J J e=>e) rfl;simpa using this
 |cons q zs ih=>
  intro xs wP s Q hd hg hat h;cases hg with
  | @cons _ _ x xs hx hg=>
  rw[aK,pI];refine Op (hat q (.head _)) fun h1 h2=>?_;refine u8 (hF _ _ _ _ (BB h1 h2 hx fun h₁ q3 av=>?_));have r9:=hd.ne;refine ih xs (wP.push x) {s with heap:=h₁} Q hd.tail hg (fun p hp=>(hat p (.tail _ hp)).ext fun b o hb e=>av.extBut b o (by obtain rfl|rfl:=hb;exact(r9 p hp).1;exact(r9 p hp).2) e) fun h' ha hk hs=>?_;have FA:q.src≠q.it:=fun e=>hd.2 q (.head _) (by refine U e ?_;exact .head _);have e:wP.push x++xs.toArray=wP++(x::xs).toArray:=by simp
  refine U e ?_;refine h h' (fun p hp=>?_) (fun b o hb e=>hk b o (fun hm=>hb (.tail _ hm)) (av.extBut b o (fun q'=>hb (q'▸ .head _)) e)) (hs.trans av.1);obtain rfl|hp:=a_.mp hp
  ·refine(show p.up.at h₁ from⟨q3,h2.extBut av.extBut FA⟩).ext fun b o hb e=>hk b o ?_ e;obtain rfl|rfl:=hb
   ·exact(dm.mp hd.1).1
   ·exact fun hm=>hd.2 p (.head _) (.tail _ hm)
  ·exact ha p hp
inductive xW:List aZ→Prop
 |here {q:aZ} {zs:List aZ}:q.H[q.j]?=none→xW (q::zs)
 |later {q:aZ} {zs:List aZ} {x:Value}:q.H[q.j]?=some x→xW zs→xW (q::zs)
theorem Sm (hh:A.handled=none)
 (hF:∀(it) (wP) (s) (Q:ForInStep (Option Fin×Array Value)→Shared→Prop),wpAny (model prog w) A (Builtin.SmallTypes.nextOf (.ref it)) (fun x s'=>Q (.yield (none,wP.push x)) s') E s→wpAny (model prog w) A (F (.ref it) (none,wP)) Q E s):
 ∀(zs) (wP) (s) (Q:Option Fin×Array Value→Shared→Prop),aZ.apart zs→xW zs→(∀q∈zs,q.at s.heap)→
  (∀h' e,(∀b o,b∉zs.map (fun x=>x.it)→s.heap.get? b=some o→h'.get? b=some o)→(∃o,h'.get? e=some o∧o.cls= .type "StopIteration")→E (.ref e) {s with heap:=h'})→
  wpAny (model prog w) A (forIn (zs.map aZ.v) ((none:Option Fin),wP) F) Q E s:=by
 intro zs
 induction zs with
 |nil=>intro wP s Q _ hg;cases hg
 |cons q zs ih=>
  intro wP s Q hd hg hat h;cases hg with
  |here hx=>
   rw[aK,pI];refine Op (hat q (.head _)) fun h1 h2=>?_;refine u8 (hF _ _ _ _ (Mc hh h1 h2 hx fun h₁ e hk he=>?_));exact h h₁ e (fun b o hb e=>hk b o (fun q'=>hb (q'▸ .head _)) e) he
  |later hx hg=>
   rw[aK,pI];refine Op (hat q (.head _)) fun h1 h2=>?_;refine u8 (hF _ _ _ _ (BB h1 h2 hx fun h₁ q3 av=>?_));have r9:=hd.ne;refine ih (wP.push _) {s with heap:=h₁} Q hd.tail hg (fun p hp=>(hat p (.tail _ hp)).ext fun b o hb e=>av.extBut b o (by obtain rfl|rfl:=hb;exact(r9 p hp).1;exact(r9 p hp).2) e) fun h' e hk he=>?_;exact h h' e (fun b o hb e=>hk b o (fun hm=>hb (.tail _ hm)) (av.extBut b o (fun q'=>hb (q'▸ .head _)) e)) he
noncomputable abbrev cY (H:Array Value) (n:Nat):Obj:={cls:=.type "tuple",data:=.seq H n}
theorem Ub (done r:List Value) (y x:Value):((done++y::r).toArray).setIfInBounds done.length x=(done++[x]++r).toArray:=by
 simp[List.set_append]
theorem X6
 (hF:∀(it) (k) (s) (Q:ForInStep (Option Fin×Unit)→Shared→Prop),(∀mD:Value→Shared→Prop,wpAny (model prog w) A (Builtin.SmallTypes.nextOf (.ref it)) (fun x s'=>∃kept n,s'.heap.get? TO=some (cY kept n)∧kept.size≤1000∧∀h' gv,h'.get? TO=some (cY (kept.setIfInBounds k x) gv)→Heap.SameBut TO s'.heap h'→Q (.yield (none,())) {s' with heap:=h'}) mD s)→wpAny (model prog w) A (F (.ref it,k) (none,())) Q E s):
 ∀(zs) (xs) (done) (n) (s) (Q:Option Fin×Unit→Shared→Prop),aZ.apart zs→rt zs xs→(∀q∈zs,q.at s.heap)→(∀q∈zs,TO≠q.it∧TO≠q.src)→
  done.length+zs.length≤1000→s.heap.get? TO=some (cY (done++zs.map fun J=>Value.none).toArray n)→
  (∀h' gv,(∀q∈zs,q.up.at h')→(∀b o,b∉zs.map (fun x=>x.it)→b≠TO→s.heap.get? b=some o→h'.get? b=some o)→h'.objs.size=s.heap.objs.size→h'.get? TO=some (cY (done++xs).toArray gv)→Q (none,()) {s with heap:=h'})→
  wpAny (model prog w) A (forIn ((zs.map aZ.v).zipIdx done.length) ((none:Option Fin),()) F) Q E s:=by
 intro zs
 induction zs with
 |nil=>
  intro xs done n s Q _ hg _ _ _ hT h;cases hg;exact On (h s.heap n (by simp) (fun J J J J e=>e) rfl (by simpa using hT))
 |cons q zs ih=>
  intro xs done n s Q hd hg hat FS wZ hT h;cases hg with
  | @cons _ _ x xs hx hg=>
  rw[aK,List.zipIdx_cons,pI];refine Op (hat q (.head _)) fun h1 h2=>?_;refine Op (FS q (.head _)) fun t1 fM=>?_;have r9:=hd.ne;refine u8 (hF _ _ _ _ fun mD=>BB h1 h2 hx fun h₁ q3 av=>?_);refine sR _ n (av.extBut TO _ t1 hT) (by simpa using wZ) (fun h₂ gv R5 IJ=>?_);rw[aK,Ub]at R5;have FA:q.src≠q.it:=fun e=>hd.2 q (.head _) (by refine U e ?_;exact .head _);have step:∀b o,b≠q.it→b≠TO→s.heap.get? b=some o→h₂.get? b=some o:=fun b o b1 fC e=>IJ.extBut b o fC (av.extBut b o b1 e);have key:=ih xs (done++[x]) gv {s with heap:=h₂} Q hd.tail hg (fun p hp=>(hat p (.tail _ hp)).ext fun b o hb e=>step b o (by obtain rfl|rfl:=hb;exact(r9 p hp).1;exact(r9 p hp).2) (by obtain rfl|rfl:=hb;exact(FS p (.tail _ hp)).1.symm;exact(FS p (.tail _ hp)).2.symm) e) (fun p hp=>FS p (.tail _ hp)) (by simp at wZ⊢;exact oZ ‹_›) R5;rw[dZ]at key;refine key fun h' m ha hk hs HQ=>?_;refine h h' m (fun p hp=>?_) (fun b o hb fC e=>hk b o (fun hm=>hb (.tail _ hm)) fC (step b o (fun q'=>hb (q'▸ .head _)) fC e)) (hs.trans (IJ.1.trans av.1)) (by simpa using HQ);obtain rfl|hp:=a_.mp hp
  ·have S6:p.up.at h₂:=(show p.up.at h₁ from⟨q3,h2.extBut av.extBut FA⟩).ext fun b o hb e=>IJ.extBut b o (by obtain rfl|rfl:=hb;exact t1.symm;exact fM.symm) e;refine S6.ext fun b o hb e=>hk b o ?_ (by obtain rfl|rfl:=hb;exact t1.symm;exact fM.symm) e;obtain rfl|rfl:=hb
   ·have:=hd.1;rw[aK,dm]at this;exact this.1
   ·exact fun hm=>hd.2 p (.head _) (.tail _ hm)
  ·exact ha p hp
noncomputable abbrev gZ (f0 f1:Value) (TI TO:Addr):Obj:={cls:=.type "zip",dict:=none,data:=.fields #[f0,f1,.bool false,.ref TI,.ref TO],slots:=#[]}
theorem Bx {β:Type} {l:List Value} {b:β} {F:Value→β→Sem (ForInStep β)}:forIn l.toArray b F=forIn l b F:=by simp
theorem adZ {z TI TO T:Addr} {f1:Value} {zs:List aZ} {xs:List Value} {n:Nat} {s:Shared} {Q:Value→Shared→Prop}
 (hz:s.heap.get? z=some (gZ (rawInt T) f1 TI TO)) (i7:s.heap.get? TI=some (cY (zs.map aZ.v).toArray n)) (hT:∃o,s.heap.get? T=some o) (bg:zs≠[]) (hd:aZ.apart zs) (hg:rt zs xs) (hat:∀q∈zs,q.at s.heap) (jn:∀q∈zs,z≠q.it∧z≠q.src)
 (hf:(f1== .bool true)=true∨(f1== .bool true)=false)
 (qF:∀h' jo,h'.get? z=some (gZ (rawInt T) jo TI TO)→(∀q∈zs,q.up.at h')→(∀b o,b≠z→b∉zs.map (fun x=>x.it)→s.heap.get? b=some o→h'.get? b=some o)→h'.objs.size=s.heap.objs.size→
  Q (.ref h'.objs.size) {s with heap:=h'.push (cY xs.toArray 0)}) (hl:xs.length≤1000):
 wpAny (model prog w) A (Builtin.«zip.__next__» ⟨[.ref z],[]⟩) (fun fin s'=>∃v,fin= .done (.ret v)∧Q v s') E s:=by
 show wpAny _ _ (field (.ref z) 2>>=_) _ _ _;refine u8 (gQ hz rfl (x:=.bool false) rfl ?_);show wpAny _ _ (field (.ref z) 3>>=_) _ _ _;refine u8 (gQ hz rfl (x:=.ref TI) rfl ?_);refine u8 (nC i7 rfl ?_);dsimp only;refine U (Tk (by cases zs<;>simp_all)) ?_;show wpAny _ _ (Builtin.SmallTypes.ownedTupleIsFree (.ref z)>>=_) _ _ _;have main:∀h₀ jo,h₀.get? z=some (gZ (rawInt T) jo TI TO)→(∀q∈zs,q.at h₀)→(∀b o,b≠z→s.heap.get? b=some o→h₀.get? b=some o)→h₀.objs.size=s.heap.objs.size→∀F (K:Option Fin×Array Value→Sem Fin),(∀(it:Addr) (wP:Array Value) (s:Shared) (Q:ForInStep (Option Fin×Array Value)→Shared→Prop),wpAny (model prog w) A (Builtin.SmallTypes.nextOf (.ref it)) (fun x s'=>Q (.yield (none,wP.push x)) s') E s→wpAny (model prog w) A (F (.ref it) (none,wP)) Q E s)→
  (∀wP:Array Value,K (none,wP)=(newTuple wP.toList>>=fun v=>ret v))→
  wpAny (model prog w) A (forIn (zs.map aZ.v).toArray ((none:Option Fin),(#[]:Array Value)) F>>=K) (fun fin s'=>∃v,fin= .done (.ret v)∧Q v s') E {s with heap:=h₀}:=by
  intro h₀ jo Lw E1 Hl zq F K hF iB;refine U Bx ?_;refine u8 (V6 hF zs xs #[] {s with heap:=h₀} _ hd hg E1 fun h' ha hk hs=>?_);rw[iB];refine u8 (x7 ?_ (by simpa [cV]using(by exact Ev ‹_› (by decide):xs.length≤16777216)));refine On ⟨_,rfl,?_⟩;have:=qF h' jo (hk z _ (fun hm=>by refine wS (ao.mp hm) fun q Ch e=>?_;exact(jn q Ch).1 e.symm) Lw) ha (fun b o b1 fC e=>hk b o fC (Hl b o b1 e)) (hs.trans zq);simpa using this
 refine u8 ?_;unfold Builtin.SmallTypes.ownedTupleIsFree;refine u8 (gQ hz rfl (x:=rawInt T) rfl ?_);refine aP hT fun lN hT=>?_;show wpAny _ _ (loadIfAlive ((T:Int)).toNat>>=_) _ _ _;refine u8 (Qc ?_);rw[qB,hT];refine U (Tk (by simp)) ?_;refine u8 (gQ hz rfl (x:=f1) rfl ?_);obtain hf|hf:=hf
 ·refine U (Tk (by simp[bne,hf])) ?_;refine On ?_;refine U (Tk (by decide)) ?_;refine main s.heap f1 hz hat (fun J J J e=>e) rfl _ _ ?_ (fun J=>rfl)
  ·intro it wP s Q h;refine u8 (b4 ?_);show wpAny _ _ (Builtin.SmallTypes.nextOf (.ref it)>>=fun v=>pure (some v)) _ _ _;exact u8 (d8 h (fun x s' hx=>On (On hx)) fun J J e=>e)
 ·refine U (ak (by simp[bne,hf])) ?_;refine u8 (sQ hz (by simp) fun h₁ pQ iI=>On ?_);refine U (Tk (by decide)) ?_;refine main h₁ (.bool true) pQ (fun q Ch=>(hat q Ch).ext fun b o hb e=>iI.extBut b o (by obtain rfl|rfl:=hb;exact(jn q Ch).1.symm;exact(jn q Ch).2.symm) e) (fun b o b1 e=>iI.extBut b o b1 e) iI.1 _ _ ?_ (fun J=>rfl)
  ·intro it wP s Q h;refine u8 (b4 ?_);show wpAny _ _ (Builtin.SmallTypes.nextOf (.ref it)>>=fun v=>pure (some v)) _ _ _;exact u8 (d8 h (fun x s' hx=>On (On hx)) fun J J e=>e)
theorem aaa {z TI TO T:Addr} {f1:Value} {zs:List aZ} {n:Nat} {s:Shared} {Q:PySem.Fin→Shared→Prop} (hh:A.handled=none)
 (hz:s.heap.get? z=some (gZ (rawInt T) f1 TI TO)) (i7:s.heap.get? TI=some (cY (zs.map aZ.v).toArray n)) (hT:∃o,s.heap.get? T=some o) (bg:zs≠[]) (hd:aZ.apart zs) (hg:xW zs) (hat:∀q∈zs,q.at s.heap) (jn:∀q∈zs,z≠q.it∧z≠q.src)
 (hf:(f1== .bool true)=true∨(f1== .bool true)=false)
 (gY:∀h' e,(∀b o,b≠z→b∉zs.map (fun x=>x.it)→s.heap.get? b=some o→h'.get? b=some o)→(∃o,h'.get? e=some o∧o.cls= .type "StopIteration")→E (.ref e) {s with heap:=h'}):
 wpAny (model prog w) A (Builtin.«zip.__next__» ⟨[.ref z],[]⟩) Q E s:=by
 show wpAny _ _ (field (.ref z) 2>>=_) _ _ _;refine u8 (gQ hz rfl (x:=.bool false) rfl ?_);show wpAny _ _ (field (.ref z) 3>>=_) _ _ _;refine u8 (gQ hz rfl (x:=.ref TI) rfl ?_);refine u8 (nC i7 rfl ?_);dsimp only;refine U (Tk (by cases zs<;>simp_all)) ?_;show wpAny _ _ (Builtin.SmallTypes.ownedTupleIsFree (.ref z)>>=_) _ _ _;have main:∀h₀ jo,h₀.get? z=some (gZ (rawInt T) jo TI TO)→(∀q∈zs,q.at h₀)→(∀b o,b≠z→s.heap.get? b=some o→h₀.get? b=some o)→∀F (K:Option Fin×Array Value→Sem Fin),(∀(it:Addr) (wP:Array Value) (s:Shared) (Q:ForInStep (Option Fin×Array Value)→Shared→Prop),wpAny (model prog w) A (Builtin.SmallTypes.nextOf (.ref it)) (fun x s'=>Q (.yield (none,wP.push x)) s') E s→wpAny (model prog w) A (F (.ref it) (none,wP)) Q E s)→
  wpAny (model prog w) A (forIn (zs.map aZ.v).toArray ((none:Option Fin),(#[]:Array Value)) F>>=K) Q E {s with heap:=h₀}:=by
  intro h₀ jo Lw E1 Hl F K hF;exact U Bx (u8 (Sm hh hF zs #[] {s with heap:=h₀} _ hd hg E1 fun h' e hk he=>gY h' e (fun b o b1 fC x=>hk b o fC (Hl b o b1 x)) he))
 refine u8 ?_;unfold Builtin.SmallTypes.ownedTupleIsFree;refine u8 (gQ hz rfl (x:=rawInt T) rfl ?_);refine aP hT fun lN hT=>?_;show wpAny _ _ (loadIfAlive ((T:Int)).toNat>>=_) _ _ _;refine u8 (Qc ?_);rw[qB,hT];refine U (Tk (by simp)) ?_;refine u8 (gQ hz rfl (x:=f1) rfl ?_);obtain hf|hf:=hf
 ·refine U (Tk (by simp[bne,hf])) ?_;refine On ?_;refine U (Tk (by decide)) ?_;refine main s.heap f1 hz hat (fun J J J e=>e) _ _ ?_;intro it wP s Q h;refine u8 (b4 ?_);show wpAny _ _ (Builtin.SmallTypes.nextOf (.ref it)>>=fun v=>pure (some v)) _ _ _;exact u8 (d8 h (fun x s' hx=>On (On hx)) fun J J e=>e)
 ·refine U (ak (by simp[bne,hf])) ?_;refine u8 (sQ hz (by simp) fun h₁ pQ iI=>On ?_);refine U (Tk (by decide)) ?_;refine main h₁ (.bool true) pQ (fun q Ch=>(hat q Ch).ext fun b o hb e=>iI.extBut b o (by obtain rfl|rfl:=hb;exact(jn q Ch).1.symm;exact(jn q Ch).2.symm) e) (fun b o b1 e=>iI.extBut b o b1 e) _ _ ?_;intro it wP s Q h;refine u8 (b4 ?_);show wpAny _ _ (Builtin.SmallTypes.nextOf (.ref it)>>=fun v=>pure (some v)) _ _ _;exact u8 (d8 h (fun x s' hx=>On (On hx)) fun J J e=>e)
theorem abV {Q:Value→Shared→Prop}
 (hz:s.heap.get? z=some (gZ .none f1 TI TO)) (i7:s.heap.get? TI=some (cY (zs.map aZ.v).toArray n)) (hTO:s.heap.get? TO=some (cY (zs.map fun J=>Value.none).toArray m)) (bg:zs≠[]) (hd:aZ.apart zs) (hg:rt zs xs) (hat:∀q∈zs,q.at s.heap)
 (jn:∀q∈zs,z≠q.it∧z≠q.src) (Ac:∀q∈zs,TO≠q.it∧TO≠q.src) (t7:z≠TO)
 (qF:∀h' jo,h'.get? z=some (gZ (rawInt s.heap.objs.size) jo TI TO)→(∃m,h'.get? TO=some (cY xs.toArray m))→(∀q∈zs,q.up.at h')→(∀b o,b≠z→b≠TO→b∉zs.map (fun x=>x.it)→s.heap.get? b=some o→h'.get? b=some o)→h'.objs.size=s.heap.objs.size+1→
  h'.get? s.heap.objs.size=some (cY xs.toArray 0)→Q (.ref s.heap.objs.size) {s with heap:=h'}) (hl:xs.length≤1000) (w6:zs.length≤1000):
 wpAny (model prog w) A (Builtin.«zip.__next__» ⟨[.ref z],[]⟩) (fun fin s'=>∃v,fin= .done (.ret v)∧Q v s') E s:=by
 show wpAny _ _ (field (.ref z) 2>>=_) _ _ _;refine u8 (gQ hz rfl (x:=.bool false) rfl ?_);show wpAny _ _ (field (.ref z) 3>>=_) _ _ _;refine u8 (gQ hz rfl (x:=.ref TI) rfl ?_);refine u8 (nC i7 rfl ?_);dsimp only;refine U (Tk (by cases zs<;>simp_all)) ?_;show wpAny _ _ (Builtin.SmallTypes.ownedTupleIsFree (.ref z)>>=_) _ _ _;refine u8 ?_;unfold Builtin.SmallTypes.ownedTupleIsFree;refine u8 (gQ hz rfl (x:=.none) rfl (On ?_));simp only[mC];refine u8 (pJ ?_);refine u8 (gQ hz rfl (x:=.ref TO) rfl ?_);refine u8 (sQ hz (by simp) fun h₁ pQ iI=>?_);replace pQ:h₁.get? z=some (gZ .ellipsis f1 TI TO):=pQ;have abh:∀q∈zs,q.at h₁:=fun q Ch=>(hat q Ch).ext fun b o hb e=>iI.extBut b o (by obtain rfl|rfl:=hb;exact(jn q Ch).1.symm;exact(jn q Ch).2.symm) e;refine u8 (X6 (TO:=TO) ?_ zs xs [] m {s with heap:=h₁} _ hd hg abh Ac (by simpa using w6) (iI.extBut TO _ t7.symm hTO) fun h₂ m' ha hk hs hT=>?_)
 ·intro it k s Q h;refine u8 (wpAny_onRaise ?_);show wpAny _ _ (Builtin.SmallTypes.nextOf (.ref it)>>=fun v=>pure (some v)) _ _ _;refine u8 (d8 (h _) (fun x s' hx=>On ?_) fun J J e=>e);refine fJ hx fun kept gv hk agJ Ch=>?_;refine u8 (nC hk rfl ?_);refine u8 (s9 hk rfl ?_ (by refine U cV ?_;exact Ev ‹_› (by decide)) (by show(kept.setIfInBounds _ _).size≤_;refine U Array.size_setIfInBounds (U cV ?_);exact Ev ‹_› (by decide)));refine u8 (wU (On ?_));have e:=kZ (Obj.mapSeq fun afg=>afg.setIfInBounds k x) hk rfl;exact Ch _ _ (e.trans rfl) (nh ..)
 have AO:h₂.get? z=some (gZ .ellipsis f1 TI TO):=hk z _ (fun hm=>by refine wS (ao.mp hm) fun q Ch e=>?_;exact(jn q Ch).1 e.symm) t7 pQ;have NT:h₂.get? TO=some (cY xs.toArray m'):=by simpa using hT
 dsimp only;refine u8 (nC NT rfl ?_);refine u8 (x7 ?_ (by simpa [cV]using(by exact Ev ‹_› (by decide):xs.length≤16777216)));have hsz:h₂.objs.size=s.heap.objs.size:=hs.trans iI.1;have acg:(h₂.push {cls:=.type "tuple",data:=.seq xs.toArray.toList.toArray}).get? z=some (gZ .ellipsis f1 TI TO):=bY _ AO;show wpAny _ _ (Builtin.SmallTypes.ownedTupleHandOut (.ref z) (.ref h₂.objs.size)>>=_) _ _ _;unfold Builtin.SmallTypes.ownedTupleHandOut;refine u8 (u8 (sQ acg (by simp) fun h₄ GD Gk=>?_));replace GD:h₄.get? z=some (gZ (rawInt h₂.objs.size) f1 TI TO):=GD;refine sQ GD (by simp) fun Bd aaB Fc=>?_;have up:∀b o,b≠z→h₂.get? b=some o→Bd.get? b=some o:=fun b o b1 e=>Fc.extBut b o b1 (Gk.extBut b o b1 (bY _ e));have M_:z<h₂.objs.size:=cJ AO;refine On ⟨_,rfl,?_⟩;show Q (.ref h₂.objs.size) _;refine U hsz ?_;refine qF Bd _ (by refine ZB hsz ?_;exact aaB) ⟨m',up TO _ t7.symm NT⟩ (fun q Ch=>(ha q Ch).ext fun b o hb e=>up b o (by obtain rfl|rfl:=hb;exact(jn q Ch).1.symm;exact(jn q Ch).2.symm) e) (fun b o b1 fC lW e=>up b o b1 (hk b o lW fC (iI.extBut b o b1 e))) ?_ ?_
 ·rw[Fc.1,Gk.1,eX,hsz]
 ·refine ZB hsz ?_;exact Fc.extBut _ _ (iE M_) (Gk.extBut _ _ (iE M_) (by simpa using d7 h₂ (o:={cls:=.type "tuple",data:=.seq xs.toArray.toList.toArray}) rfl))
end
end
inductive kT:List aZ→cC→Prop
 |nil:kT [] []
 |cons {q:aZ} {zs:List aZ} {o:Obj} {os:cC}:o.cls= .type "list_iterator"→o.data= .fields #[.ref q.src,.int q.j 0]→kT zs os→kT (q::zs) ((q.it,o)::os)
inductive l9 (Z:TW):List aZ→List (List D)→Prop
 |nil:l9 Z [] []
 |cons {q:aZ} {zs:List aZ} {ds:List D} {eZ:List (List D)}:au Z (q.H.toList.drop q.j) ds→l9 Z zs eZ→l9 Z (q::zs) (ds::eZ)
inductive xM:List (List D)→List D→List (List D)→Prop
 |nil:xM [] [] []
 |cons {h:D} {t:List D} {rs:List (List D)} {hs:List D} {ts:List (List D)}:xM rs hs ts→xM ((h::t)::rs) (h::hs) (t::ts)
inductive v9:List (List D)→List D→Prop
 |fin {rs:List (List D)}:[]∈rs→v9 rs []
 |row {rs ts:List (List D)} {hs l:List D}:xM rs hs ts→v9 ts l→v9 rs (.tup hs::l)
theorem l9.mono (le:fS Z Z') (h:l9 Z zs eZ):l9 Z' zs eZ:=
 h.rec (motive:=fun zs eZ J=>l9 Z' zs eZ) .nil fun a J b=>.cons (a.mono le) b
theorem kT.keys {zs:List aZ} {os:cC} (h:kT zs os):os.map Prod.fst=zs.map (fun x=>x.it):=
 h.rec (motive:=fun zs os J=>os.map Prod.fst=zs.map (fun x=>x.it)) rfl fun{q _ _ _} J J J b=>cQ (fun x=>q.it::x) b
theorem kT.Ul {h:Heap} {zs:List aZ} {os:cC} (bO:kT zs os):gc h os→∀q∈zs,h.IsListIter q.it q.src q.j:=by
 induction bO with
 |nil=>intro _ q Ch;exact(eF Ch).elim
 |cons h1 h2 r ih=>
  intro st q Ch;refine bD Ch ?_ fun Ch=>?_
  ·exact gg _ (st _ (.head _)) h1 h2
  ·exact ih (fun p hp=>st p (.tail _ hp)) q Ch
theorem kT.fields {zs:List aZ} {os:cC} (bO:kT zs os):∀p∈os,p.2.cls= .type "list_iterator"∧∃H,p.2.data= .fields H:=by
 induction bO with
 |nil=>intro q Ch;exact(eF Ch).elim
 |cons h1 h2 r ih=>
  intro p hp;refine bD hp ?_ fun hp=>?_
  ·exact⟨h1,_,h2⟩
  ·exact ih p hp
theorem kT.of:∀{zs:List aZ},(∀q∈zs,h.IsListIter q.it q.src q.j)→∃os,kT zs os∧gc h os
 |[],_=>⟨[],.nil,fun p hp=>by cases hp⟩
 |q::zs,bO=>by
  refine wS (kT.of (zs:=zs) fun p hp=>bO p (.tail _ hp)) fun os h1 h2=>?_;refine aU (bO q (.head _)) fun o xz hc hd=>?_;refine⟨(q.it,o)::os,.cons hc hd h1,fun p hp=>?_⟩;refine bD hp ?_ fun hp=>?_
  ·exact xz
  ·exact h2 p hp
theorem l9.give {eZ:List (List D)} {ts:List (List D)} (bO:l9 Z zs eZ) (ef:xM eZ hs ts):∃xs,rt zs xs∧au Z xs hs∧l9 Z (zs.map aZ.up) ts:=by
 induction ef generalizing zs with
 |nil=>rcases bO;exact⟨[],.nil,.nil,.nil⟩
 | @cons d t rs hs ts hr ih=>
  obtain _|⟨h,r⟩:=bO
  rename_i q zs;refine aU (ih r) fun xs g t' u=>?_;rcases e:q.H.toList.drop q.j with _|⟨v,r'⟩
  ·rw[e]at h;exact h.x
  ·rw[e]at h;obtain _|⟨t1,fM⟩:=h
   refine Op (rR e) fun g1 g2=>?_;exact gg (v::xs) (.cons g1 g) (.cons t1 t') (.cons (by show au Z (q.H.toList.drop (q.j+1)) _;refine U g2 ?_;exact fM) u)
theorem l9.af6 (bO:l9 Z zs eZ):[]∈eZ→xW zs:=by
 induction bO with
 |nil=>intro h;exact(eF h).elim
 | @cons q zs ds eZ h r ih=>
  intro hm;rcases e:q.H.toList.drop q.j with _|⟨v,r'⟩
  ·exact .here (x6 e)
  ·refine Op (rR e) fun g1 g2=>?_;rw[e]at h;obtain e'|hm:=a_.mp hm
   ·rw[←e']at h;cases h
   ·exact .later g1 (ih hm)
inductive sG (Z:TW) (l:List D) (it:Addr):cC→Prop
 |mk (TI TO:Addr) (zs:List aZ) (eZ:List (List D)) (f0 f1:Value) (n m:Nat) (kept:Array Value) (its:cC):
  kT zs its→Z TI=some (cY (zs.map aZ.v).toArray n)→zs≠[]→zs.length≤1000→
  (∀q∈zs,∃n,Z q.src=some {cls:=.type "list",data:=.seq q.H n})→l9 Z zs eZ→v9 eZ l→(((it,gZ f0 f1 TI TO)::(TO,cY kept m)::its).map Prod.fst).Nodup→
  ((f0= .none∧kept=(zs.map fun J=>Value.none).toArray∧l≠[])∨∃T o,f0=rawInt (T:Nat)∧Z T=some o)→sG Z l it ((it,gZ f0 f1 TI TO)::(TO,cY kept m)::its)
theorem Rg (v:Value):(v== .bool true)=true∨(v== .bool true)=false:=by cases(v== .bool true)<;>simp
noncomputable def QI:Expr→Prop
 | .Name _ _=>True
 |_=>False
theorem sG.apart (cK:∀p∈(it,gZ f0 f1 TI TO)::(TO,cY kept m)::its,Z p.1=none) (hz:kT zs its)
 (fT:∀q∈zs,∃n,Z q.src=some {cls:=.type "list",data:=.seq q.H n}) (nd:(((it,gZ f0 f1 TI TO)::(TO,cY kept m)::its).map Prod.fst).Nodup) (sub:Sub Z h) (st:gc h ((it,gZ f0 f1 TI TO)::(TO,cY kept m)::its)):
 aZ.apart zs∧(∀q∈zs,q.at h)∧(∀q∈zs,it≠q.it∧it≠q.src)∧(∀q∈zs,TO≠q.it∧TO≠q.src)∧it≠TO:=by
 have hk:=hz.keys;simp only[aK]at nd;rw[hk]at nd;have hnd:=nd;rw[dm,dm]at hnd;refine b5 hnd fun n1 b6 dS=>?_;have ne:∀q∈zs,∀a,Z a=none→a≠q.src:=fun q Ch a ha e=>by
  refine aP (fT q Ch) fun n e'=>?_;rw[←e,ha]at e';injection e'
 have zn:∀q∈zs,Z q.it=none:=fun q Ch=>by
  have:q.it∈its.map Prod.fst:=by refine U hk ?_;exact ao.mpr ⟨q,Ch,rfl⟩
  refine wS (ao.mp this) fun p hp e=>?_;exact ZB e (cK p (.tail _ (.tail _ hp)))
 refine Cs ⟨dS,fun q Ch hm=>?_⟩ (fun q Ch=>?_) (fun q Ch=>⟨fun e=>n1 ?_,ne q Ch _ (cK _ (.head _))⟩) (fun q Ch=>⟨fun e=>b6 ?_,ne q Ch _ (cK _ (.tail _ (.head _)))⟩) (fun e=>n1 ?_)
 ·refine wS (ao.mp hm) fun p hp e=>?_;exact ne q Ch _ (zn p hp) e
 ·refine aP (fT q Ch) fun n e=>?_;exact⟨hz.Ul (fun p hp=>st p (.tail _ (.tail _ hp))) q Ch,_,sub.get e,rfl,n,rfl⟩
 ·exact U e (.tail _ (ao.mpr ⟨q,Ch,rfl⟩))
 ·exact U e (ao.mpr ⟨q,Ch,rfl⟩)
 ·exact U e (.head _)
theorem aad (h:rt zs xs):xs.length=zs.length:=by
 induction h with
 |nil=>rfl
 |cons _ _ ih=>simp[ih]
theorem PO {c:ah} {s:Shared} {Z:TW} {h':Heap} {os:cC} {T:Addr} {lN:Obj} (sub:Sub Z s.heap) (top:c.H0.StaysIn s.heap) (cK:∀p∈os,Z p.1=none∧c.H0.get? p.1=none) (hT:T=s.heap.objs.size) (hg:h'.get? T=some lN) (hc:lN.cls≠ .type "frame")
 (hk:∀b o,b∉os.map Prod.fst→s.heap.get? b=some o→h'.get? b=some o) (hs:s.heap.objs.size≤h'.objs.size)
 (hf:∀b o,b∈os.map Prod.fst→s.heap.get? b=some o→kc o→∃o',h'.get? b=some o'∧kc o'):dN c (os.map Prod.fst) s {s with heap:=h'} Z (Z.put T lN):=by
 have nm:∀b o,Z b=some o∨c.H0.get? b=some o→b∉os.map Prod.fst:=fun b o e hm=>by
  refine wS (ao.mp hm) fun p hp s4=>?_;subst s4;refine Op (cK p hp) fun a b=>?_;obtain e|e:=e
  ·rw[a]at e;injection e
  ·rw[b]at e;injection e
 refine⟨⟨hs,fun b o hb e=>⟨o,hk b o hb e,.refl _⟩⟩,fun b o e=>hk b o (nm b o (.inr e)) (top b o e),⟨fun a o e=>?_,fun a o e=>?_⟩,fun a o e=>?_,⟨aI _,hs⟩,fun b o e h=>?_,⟨_,_,rfl⟩⟩
 ·unfold TW.put;by_cases q:a=T
  ·subst q;rw[hT,gR sub (aI _)]at e;injection e
  ·exact U (Tk q) e
 ·unfold TW.put at e;by_cases q:a=T
  ·exact .inr (by refine U q (U hT ?_);exact aI _)
  ·rw[Tk q]at e;exact .inl e
 ·unfold TW.put at e;by_cases q:a=T
  ·subst q;rw[ak rfl]at e;obtain rfl:=bh e;exact⟨hg,hc⟩
  ·rw[Tk q]at e;exact⟨hk a o (nm a o (.inl e)) (sub.get e),(sub a o e).2⟩
 ·by_cases hm:b∈os.map Prod.fst
  ·exact hf b o hm e h
  ·exact⟨o,hk b o hm e,h⟩
theorem XR (zs:List aZ):(zs.map aZ.up).map aZ.v=zs.map aZ.v:=by refine U cO ?_;rfl
theorem YC (zs:List aZ):(zs.map aZ.up).map (fun x=>x.it)=zs.map (fun x=>x.it):=by refine U cO ?_;rfl
theorem aam:qO c sG (fun J=>True) QI where
 mono:=fun le ⟨TI,TO,zs,eZ,f0,f1,n,m,kept,its,h2,h3,h4,h5,h6,ia,qS,p5,u0⟩=>⟨TI,TO,zs,eZ,f0,f1,n,m,kept,its,h2,le _ _ h3,h4,h5,fun q Ch=>aP (h6 q Ch) fun n e=>⟨n,le _ _ e⟩,ia.mono le,qS,p5,u0.imp id fun⟨T,o,a,b⟩=>⟨T,o,a,le _ _ b⟩⟩
 rows:=by
  intro Z l it os Go;obtain⟨TI,TO,zs,eZ,f0,f1,n,m,kept,its,h2,h3,h4,h5,h6,ia,qS,p5,u0⟩:=Go;refine⟨p5,fun p hp=>?_⟩;obtain rfl|hp:=a_.mp hp
  ·exact⟨by simp,fun x=>by simp⟩
  obtain rfl|hp:=a_.mp hp
  ·exact⟨by simp,fun x=>by simp⟩
  ·refine Op (h2.fields p hp) fun a Td=>aP Td fun H b=>?_;exact⟨by refine U a ?_;simp,fun x=>by refine U b ?_;simp⟩
 iter:=by
  intro A s Z it os l Q E st Go q;obtain⟨TI,TO,zs,eZ,f0,f1,n,m,kept,its,h2,h3,h4,h5,h6,ia,qS,p5,u0⟩:=Go;have hz:=st _ (.head _);have hT:s.TypeIs (.ref it) "zip" :=⟨_,hz,rfl⟩;refine FT hT F.slot_zip_iter (lY F.slot_zip_iter hT F.entry_zip_iter ?_ (F.args_zip_iter_1 _));show wpAny _ _ (ret (.ref it)) _ _ s;exact On ⟨_,rfl,"zip",_,hT,vp.lookup,q⟩
 go:=by
  rintro A s Z it os l v br Q E oW sub top cK st mK q;cases br with
  |Name=>exact On (q s os (.id top sub) rfl st mK)
  |_=>exact oW.elim
 next:=by
  intro A V s Z O Y it os d l Q E hh r _ cK st Go q;obtain⟨TI,TO,zs,eZ,f0,f1,n,m,kept,its,h2,h3,h4,h5,h6,ia,qS,p5,u0⟩:=Go;refine pU (sG.apart (fun p hp=>(cK p hp).1) h2 h6 p5 r.sub st) fun ap hat jn Ac t7=>?_;cases qS with
  | @row rs ts hs l XS Yo=>
  refine aU (ia.give XS) fun xs g dz tt=>?_;have hz:=st _ (.head _);have hTO:=st _ (.tail _ (.head _));have hT:s.TypeIs (.ref it) "zip" :=⟨_,hz,rfl⟩;have Rz:xs.length≤1000:=by refine U (aad g) ?_;exact h5
  have hkeys:=h2.keys;have fin:∀(h':Heap) (T T0:Addr) (jo:Value) (D3:Array Value) (m':Nat),T=s.heap.objs.size→h'.get? T=some (cY xs.toArray 0)→h'.get? it=some (gZ (rawInt T0) jo TI TO)→(T0=T∨∃o,Z T0=some o)→h'.get? TO=some (cY D3 m')→(∀q∈zs,q.up.at h')→(∀b o,b≠it→b≠TO→b∉zs.map (fun x=>x.it)→s.heap.get? b=some o→h'.get? b=some o)→s.heap.objs.size≤h'.objs.size→Q (some (.ref T)) {s with heap:=h'}:=by
   intro h' T T0 jo D3 m' e1 e2 e3 i6 fY e5 nu oj;obtain⟨its',i1,cR⟩:=kT.of (h:=h') (zs:=zs.map aZ.up) fun q Ch=>by
    refine wS (ao.mp Ch) fun p hp s4=>?_;subst s4;exact(e5 p hp).1
   have hk':its'.map Prod.fst=its.map Prod.fst:=by rw[i1.keys,YC,hkeys]
   have le:fS Z (Z.put T (cY xs.toArray 0)):=fun a o e=>by
    unfold TW.put;by_cases q:a=T
    ·subst q;rw[e1,gR r.sub (aI _)]at e;injection e
    ·exact U (Tk q) e
   refine q (.ref T) {s with heap:=h'} (Z.put T (cY xs.toArray 0)) ((it,gZ (rawInt T0) jo TI TO)::(TO,cY D3 m')::its') (PO r.sub r.top cK e1 e2 (by simp) (fun b o hb e=>?_) oj fun b o hb e hf=>?_) (by simp[hk']) (fun p hp=>?_) ⟨TI,TO,zs.map aZ.up,ts,_,jo,n,m',D3,its',i1,by rw[XR];exact le _ _ h3,by simpa using h4,by simpa using h5,fun q Ch=>?_,tt.mono le,Yo,?_,.inr ?_⟩ (.tup (TW.ai ..) (by simpa using dz.mono le))
   ·refine nu b o (fun q=>hb (q▸ .head _)) (fun q=>hb (q▸ .tail _ (.head _))) (fun hm=>hb ?_) e;refine U aK (U aK (U hkeys ?_));exact .tail _ (.tail _ hm)
   ·rw[aK,aK]at hb;obtain rfl|hb:=a_.mp hb
    ·rw[hz]at e;obtain rfl:=bh e;exact absurd rfl (hf.qP _)
    obtain rfl|hb:=a_.mp hb
    ·exact absurd hf.2 (by first|(rw[st _ (.tail _ (.head _))]at e;obtain rfl:=bh e;simp)|simp)
    ·refine wS (ao.mp hb) fun p hp s4=>?_;subst s4;rw[st p (.tail _ (.tail _ hp))]at e;obtain rfl:=bh e;refine Op (h2.fields p hp) fun _ Wb=>aP Wb fun H hd=>?_;exact absurd hd (hf.qP H)
   ·obtain rfl|hp:=a_.mp hp
    ·exact e3
    obtain rfl|hp:=a_.mp hp
    ·exact fY
    ·exact cR p hp
   ·refine wS (ao.mp Ch) fun p hp s4=>?_;subst s4;refine aP (h6 p hp) fun n e=>?_;exact⟨n,le _ _ e⟩
   ·simp only[aK,hk']at p5⊢;exact p5
   ·obtain rfl|⟨o,e⟩:=i6
    ·exact pB _ _ rfl (TW.ai ..)
    ·exact pB T0 o rfl (le _ _ e)
  unfold pyNext;rcases u0 with⟨rfl,rfl,_⟩|⟨T,lN,rfl,Cp⟩
  ·refine u8 (rq (sf (name:=Str.ofString "__next__") hT vp
    (lY vp hT Gb (abV hz (r.sub.get h3) hTO h4 ap g hat jn Ac t7 (fun h' jo a1 a2 iP iQ tX xj=>On ?_) Rz h5) (H8 _))))
   refine aP a2 fun m' a2=>?_;exact fin h' _ _ jo _ m' rfl xj a1 (.inl rfl) a2 iP iQ (by lia)
  ·refine u8 (rq (sf (name:=Str.ofString "__next__") hT vp
    (lY vp hT Gb (adZ hz (r.sub.get h3) ⟨lN,r.sub.get Cp⟩ h4 ap g hat jn (Rg _) (fun h' jo a1 iP iQ tX=>On ?_) Rz) (H8 _))))
   have Te:h'.get? TO=some (cY kept m):=iQ TO _ t7.symm (fun hm=>by refine wS (ao.mp hm) fun q Ch e=>?_;exact(Ac q Ch).1 e.symm) hTO;refine fin (h'.push (cY xs.toArray 0)) h'.objs.size T jo kept m tX (d7 _ rfl) (bY _ a1) (.inr ⟨lN,Cp⟩) (bY _ Te) (fun q Ch=>(iP q Ch).ext fun b o J e=>bY _ e) (fun b o b1 fC lW e=>bY _ (iQ b o b1 lW e)) ?_;rw[eX];lia
 fin:=by
  intro A V s Z O Y it os Q E hh r _ cK st Go q;obtain⟨TI,TO,zs,eZ,f0,f1,n,m,kept,its,h2,h3,h4,h5,h6,ia,qS,p5,u0⟩:=Go;refine pU (sG.apart (fun p hp=>(cK p hp).1) h2 h6 p5 r.sub st) fun ap hat jn Ac t7=>?_;cases qS with
  |fin hm=>
  have g:=ia.af6 hm;rcases u0 with⟨_,_,x⟩|⟨T,lN,rfl,Cp⟩
  ·exact absurd rfl x
  have hz:=st _ (.head _);have hTO:=st _ (.tail _ (.head _));have hT:s.TypeIs (.ref it) "zip" :=⟨_,hz,rfl⟩;have hkeys:=h2.keys;refine h_ ?_;unfold pyNext;refine u8 (rq (sf (name:=Str.ofString "__next__") hT vp
   (lY vp hT Gb (aaa hh hz (r.sub.get h3) ⟨lN,r.sub.get Cp⟩ h4 ap g hat jn (Rg _) (fun h' e hk he=>?_)) (H8 _))))
  refine wS he fun o xz hc=>?_;refine u8 (F5 (T:="StopIteration") (b:=true) ⟨o,xz,hc⟩ isSubtype_stop ?_);refine On fun u=>?_;have nm:∀b o,Z b=some o∨c.H0.get? b=some o→b≠it∧b∉zs.map (fun x=>x.it):=fun b o e=>by
   have key:∀p∈(it,gZ (rawInt T) f1 TI TO)::(TO,cY kept m)::its,b≠p.1:=fun p hp q=>by
    refine Op (cK p hp) fun x y=>?_;obtain e|e:=e
    ·rw[q,x]at e;injection e
    ·rw[q,y]at e;injection e
   refine⟨key _ (.head _),fun hm=>?_⟩;rw[←hkeys]at hm;refine wS (ao.mp hm) fun p hp e'=>?_;exact key p (.tail _ (.tail _ hp)) e'.symm
  refine q _ Z ⟨⟨u.size,fun b o hb e=>⟨o,hk b o (fun q=>hb (q▸ .head _)) (fun hm=>hb ?_) e,.refl _⟩⟩,fun b o e=>hk b o (nm b o (.inr e)).1 (nm b o (.inr e)).2 (r.top b o e),.refl ..,fun b o e=>⟨hk b o (nm b o (.inl e)).1 (nm b o (.inl e)).2 (r.sub.get e),(r.sub b o e).2⟩,u,fun b o e hf=>?_,⟨_,_,rfl⟩⟩
  ·refine U aK (U aK (U hkeys ?_));exact .tail _ (.tail _ hm)
  ·by_cases b1:b=it
   ·subst b1;rw[hz]at e;obtain rfl:=bh e;exact absurd rfl (hf.qP _)
   by_cases fC:b∈zs.map (fun x=>x.it)
   ·rw[←hkeys]at fC;refine wS (ao.mp fC) fun p hp s4=>?_;subst s4;rw[st p (.tail _ (.tail _ hp))]at e;obtain rfl:=bh e;refine Op (h2.fields p hp) fun _ ZS=>aP ZS fun H hd=>?_;exact absurd hd (hf.qP H)
   ·exact⟨o,hk b o b1 fC e,hf⟩
theorem Kw:jX c sG (fun J=>True) QI:=aam.dg
section
section
variable {prog:Program} {w:World} {A:Around} {E:Value→Shared→Prop}
theorem afc {F:Value→Array Value→Sem (ForInStep (Array Value))}
 (hF:∀(l) (wP) (s) (Q:ForInStep (Array Value)→Shared→Prop),wpAny (model prog w) A (pyIter (.ref l)) (fun x s'=>Q (.yield (wP.push x)) s') E s→wpAny (model prog w) A (F (.ref l) wP) Q E s):
 ∀(ls:List (Addr×Array Value)) (wP) (s) (Q:Array Value→Shared→Prop),(∀q∈ls,s.heap.IsList q.1 q.2)→
  (∀(h':Heap) (zs:List aZ),zs.map (fun q=>(q.src,q.H))=ls→(∀q∈zs,q.j=0∧s.heap.objs.size≤q.it∧h'.IsListIter q.it q.src q.j)→(zs.map (fun x=>x.it)).Nodup→(∀b o,s.heap.get? b=some o→h'.get? b=some o)→s.heap.objs.size≤h'.objs.size→Q (wP++(zs.map aZ.v).toArray) {s with heap:=h'})→
  wpAny (model prog w) A (forIn (ls.map fun q=>Value.ref q.1) wP F) Q E s:=by
 intro ls
 induction ls with
 |nil=>
  intro wP s Q _ h;refine On ?_;simpa using h s.heap [] rfl (by simp) (by simp) (fun J J e=>e) (aI _)
 |cons l ls ih=>
  intro wP s Q hl h;rw[aK,pI];refine u8 (hF _ _ _ _ (wI (hl l (.head _)) ?_));refine ih _ {s with heap:=s.heap.push {cls:=.type "list_iterator",data:=.fields #[.ref l.1,.int 0 0]}} Q (fun q Ch=>(hl q (.tail _ Ch)).push _) fun h' zs e1 e2 e3 fY e5=>?_;have hsz:(s.heap.push {cls:=.type "list_iterator",data:=.fields #[.ref l.1,.int 0 0]}).objs.size=s.heap.objs.size+1:=eX ..;have key:=h h' (⟨s.heap.objs.size,l.1,0,l.2⟩::zs) (U aK (U e1 rfl)) (fun q Ch=>?_) ?_ (fun b o e=>fY b o (bY _ e)) (Ev (Ev (b9 _) (bT (eX ..).symm)) e5)
  ·have e:wP.push (Value.ref s.heap.objs.size)++(zs.map aZ.v).toArray=wP++(((⟨s.heap.objs.size,l.1,0,l.2⟩:aZ)::zs).map aZ.v).toArray:=by simp
   exact U e key
  ·refine bD Ch ?_ fun Ch=>?_
   ·exact⟨rfl,aI _,_,fY _ _ (d7 _ rfl),rfl,rfl⟩
   ·refine b5 (e2 q Ch) fun a b d=>?_;have b':(s.heap.push {cls:=.type "list_iterator",data:=.fields #[.ref l.1,.int 0 0]}).objs.size≤q.it:=b;rw[hsz]at b';exact⟨a,g9 b',d⟩
  ·rw[aK,dm];refine⟨fun hm=>?_,e3⟩;refine wS (ao.mp hm) fun q Ch e=>?_;have b':(s.heap.push {cls:=.type "list_iterator",data:=.fields #[.ref l.1,.int 0 0]}).objs.size≤q.it:=(e2 q Ch).2.1;rw[hsz,e]at b';exact absurd b' (Ik _)
theorem abk (ls:List (Addr×Array Value)) (wR:ls.length≤1000):PySem.Meets (Builtin.«zip.__new__» ⟨.type "zip" ::ls.map (fun q=>Value.ref q.1),[]⟩) (fun J R s=>(∀q∈ls,s.heap.IsList q.1 q.2)∧
 ∀(h':Heap) (zs:List aZ) (z TI TO:Addr),zs.map (fun q=>(q.src,q.H))=ls→(∀q∈zs,q.j=0∧s.heap.objs.size≤q.it∧h'.IsListIter q.it q.src q.j)→(zs.map (fun x=>x.it)).Nodup→(∀b o,s.heap.get? b=some o→h'.get? b=some o)→s.heap.objs.size≤h'.objs.size→
  h'.get? TI=some (cY (zs.map aZ.v).toArray 0)→h'.get? TO=some (cY (zs.map fun J=>Value.none).toArray 0)→h'.get? z=some (gZ .none (.bool false) TI TO)→s.heap.objs.size≤TI→s.heap.objs.size≤TO→s.heap.objs.size≤z→(z::TO::zs.map (fun x=>x.it)).Nodup→z≠TI→TO≠TI→
  R (.ok (.ret (.ref z))) {s with heap:=h'}):=
 .of_wp fun prog w A R s h=>by
  obtain⟨hp,g,d,tk,os⟩:=s;refine Op h fun hl h=>?_;have hsub:=PySem.sub_zip;wp_walk;show wpAny (model prog w) A.in1 (forIn (ls.map fun q=>Value.ref q.1) (#[]:Array Value) fun x its=>(do let v←holding its.toList (pyIter x);pure (ForInStep.yield (its.push v)))) _ _ _;refine afc (fun l wP s Q h=>u8 (b4 (d8 h (fun x s' hx=>On hx) fun J J e=>e))) ls #[] _ _ hl fun h₁ zs e1 e2 e3 fY e5=>?_;refine On ?_;have w6:zs.length=ls.length:=by rw[←e1,cj]
  have i9:((#[]:Array Value)++(zs.map aZ.v).toArray).toList=zs.map aZ.v:=by simp
  refine U i9 ?_;have AI:zs.length≤sizeLine:=by refine U w6 (U cV ?_);exact Ev ‹_› (by decide)
  refine u8 (x7 ?_ (by rw[cj];exact AI));refine u8 (x7 ?_ (by rw[cj,cj];exact AI));show wpAny _ _ (newObj (.type "zip") (.fields #[.none,.bool false,.bool false,.ref h₁.objs.size,.ref (h₁.push {cls:=.type "tuple",data:=.seq (zs.map aZ.v).toArray}).objs.size])>>=fun v=>ret v) _ _ _;refine u8 (iS ?_ (by size_fits));refine On ⟨_,rfl,?_⟩;have C3:(h₁.push {cls:=.type "tuple",data:=.seq (zs.map aZ.v).toArray}).objs.size=h₁.objs.size+1:=eX ..;have em:List.map (fun x=>Value.none) (zs.map aZ.v)=zs.map fun J=>Value.none:=by refine U cO ?_;rfl
  have hit:∀q∈zs,q.it<h₁.objs.size:=fun q Ch=>by refine wS ((e2 q Ch).2.2) fun J e J=>?_;exact cJ e
  have s8:((h₁.push {cls:=.type "tuple",data:=.seq (zs.map aZ.v).toArray}).push {cls:=.type "tuple",data:=.seq (List.map (fun x=>Value.none) (zs.map aZ.v)).toArray}).objs.size=h₁.objs.size+2:=by rw[eX,C3]
  have nd:(((h₁.push {cls:=.type "tuple",data:=.seq (zs.map aZ.v).toArray}).push {cls:=.type "tuple",data:=.seq (List.map (fun x=>Value.none) (zs.map aZ.v)).toArray}).objs.size::(h₁.push {cls:=.type "tuple",data:=.seq (zs.map aZ.v).toArray}).objs.size::zs.map (fun x=>x.it)).Nodup:=by
   rw[C3,s8,dm,dm];refine⟨fun hm=>?_,fun hm=>?_,e3⟩
   ·obtain e|hm:=a_.mp hm
    ·lia
    ·refine wS (ao.mp hm) fun q Ch e=>?_;have:=hit q Ch;rw[e]at this;exact absurd this (eL.mpr (bX _ 2))
   ·refine wS (ao.mp hm) fun q Ch e=>?_;have:=hit q Ch;rw[e]at this;exact absurd this (eL.mpr (bX _ 1))
  refine h _ zs _ h₁.objs.size (h₁.push {cls:=.type "tuple",data:=.seq (zs.map aZ.v).toArray}).objs.size e1 (fun q Ch=>?_) e3 (fun b o e=>bY _ (bY _ (bY _ (fY b o e)))) ?_ (bY _ (bY _ (d7 _ rfl))) ?_ (d7 _ rfl) e5 ?_ ?_ nd ?_ ?_
  ·refine b5 (e2 q Ch) fun a b Vh=>wS Vh fun o xz r=>?_;exact⟨a,b,o,bY _ (bY _ (bY _ xz)),r⟩
  ·rw[eX];exact Ev e5 (Ev (bX _ 2) (Ev (bT s8.symm) (b9 _)))
  ·exact bY _ ((d7 _ rfl).trans (U em rfl))
  ·exact U C3 (Ev e5 (b9 _))
  ·exact U s8 (Ev e5 (bX _ 2))
  ·exact U s8 (iE (O7 (by decide)))
  ·exact U C3 (iE (jM _))
end
theorem Zs {α:Type} {l:List α} (h:l.length=2):∃a b,l=[a,b]:=by
 rcases l with _|⟨a,_|⟨b,_|⟨d,l⟩⟩⟩<;>simp_all
theorem abQ {α:Type} {l:List α} (h:l.length=3):∃a b d,l=[a,b,d]:=by
 rcases l with _|⟨a,_|⟨b,_|⟨d,_|⟨e,l⟩⟩⟩⟩<;>simp_all
theorem VF (a b c):checkTypeCall "zip" ⟨[a,b,c],[]⟩=pure ():=by kernel_rfl
theorem Zv (a b c):checkBuiltinCall "zip.__new__" ⟨[.type "zip",a,b,c],[]⟩=pure ():=by kernel_rfl
theorem WU (a b c d):argsOk "object.__init__" ⟨[a,b,c,d],[]⟩:=by
 delta argsOk;rw[signature?_of (id:="object.__init__") (n:=['_','_','t','i','n','i','_','_']) (o:=['t','c','e','j','b','o']) (by kernel_rfl) PySem.F.owner_object];kernel_rfl
theorem QJ:∀{H:List Value} {eZ:List (List D)},au Z H (eZ.map .list)→∃ls:List (Addr×Array Value),H=ls.map (fun q=>Value.ref q.1)∧(∀q∈ls,∃n,Z q.1=some {cls:=.type "list",data:=.seq q.2 n})∧
 ∀zs:List aZ,zs.map (fun q=>(q.src,q.H))=ls→(∀q∈zs,q.j=0)→l9 Z zs eZ
 |[],[],_=>⟨[],rfl,by simp,fun zs h J=>by induction zs with|nil=>exact .nil|cons=>cases h⟩
 |[],_::_,h=>by cases h
 |_::_,[],h=>by cases h
 |v::H,ds::eZ,.cons h r=>by
  refine aU (QJ r) fun ls s4 h1 h2=>?_;subst s4;refine h.l fun{a xs n} hz FS=>?_;refine gg ((a,xs)::ls) rfl (fun q Ch=>?_) (fun zs e ff=>?_)
  ·refine bD Ch ?_ fun Ch=>?_
   ·exact⟨n,hz⟩
   ·exact h1 q Ch
  ·induction zs with
   |nil=>injection e
   |cons z zs=>
    rw[aK]at e;injection e with e1 e2;injection e1 with e3 fY;refine .cons ?_ (h2 zs e2 fun q Ch=>ff q (.tail _ Ch));refine U (ff z (.head _)) (U fY (U yc ?_));exact FS
section
variable {c:ah} {k:Nat} {O:XV} {Y:B}
theorem aD.keep (top:c.H0.StaysIn s.heap) (sub:Sub Z s.heap) (hk:∀b o,s.heap.get? b=some o→h'.get? b=some o) (hs:s.heap.objs.size≤h'.objs.size) (FS:s.toks≤t):aD c s Z {s with heap:=h',toks:=t} Z:=
 ⟨⟨hs,fun b o e=>⟨o,hk b o e,.refl _⟩⟩,fun b o e=>hk b o (top b o e),.refl ..,fun b o e=>⟨hk b o (sub.get e),(sub b o e).2⟩,FS,⟨_,_,rfl⟩⟩
theorem GC (hs:aL c O Y d l) (hb:l.length≤1000000) (r:bB c Z s.heap V O Y) (s5:aR Z v d) {Q:List Value→Shared→Prop} {E:Value→Shared→Prop}
 (q:∀H s',aD c s Z s' Z→au Z H l→Q H s'):PySem.W.StarOf c.M A E v Q s:=by
 refine dW (hs _ V Z v r s5) fun a H n s4 hg FS=>?_;subst s4;have HQ:s.TypeIs (.ref a) "list" :=⟨_,hg,rfl⟩;have hsz:H.size≤sizeLine:=by refine ZB gP (U FS.length (U cV ?_));exact Ev ‹_› (by decide)
 have z:wpAny c.M A (collect (.ref a)) Q E s:=h_ (wpAny_collect_seq a (.inl rfl) hg rfl rfl (fun h' hk u=>q _ _ (aD.keep (t:=s.toks) r.top r.sub hk u.size (aI _)) FS) hsz);delta PySem.W.StarOf notIterableAtAll;exact u8 (xU HQ PySem.F.slot_list_iter.lookup (On ⟨rfl,z⟩))
theorem TW.tC (h:Z a=none):fS Z (Z.put a o):=fun b o' e=>by
 delta TW.put;by_cases q:b=a
 ·subst q;rw[h]at e;injection e
 ·exact U (Tk q) e
theorem aD.DA (x:aD c s Z s' Z') (M2:s.heap.objs.size≤a) (hz:Z' a=none) (xz:s'.heap.get? a=some o) (hc:o.cls≠ .type "frame"):aD c s Z s' (Z'.put a o):=by
 refine⟨x.grow,x.top,⟨x.ext.1.trans (TW.tC hz),fun b o' e=>?_⟩,fun b o' e=>?_,x.tok,x.rest⟩
 ·unfold TW.put at e;by_cases q:b=a
  ·exact .inr (q▸M2)
  ·rw[Tk q]at e;exact x.ext.2 b o' e
 ·unfold TW.put at e;by_cases q:b=a
  ·subst q;rw[ak rfl]at e;obtain rfl:=bh e;exact⟨xz,hc⟩
  ·rw[Tk q]at e;exact x.sub b o' e
theorem bF.VG {eZ:List (List D)} (hf:f8 c k O Y (.Name "zip" p) (.val (.type "zip"))) (he:f8 c k O Y e (.list (eZ.map .list))) (M2:eZ.length=2∨eZ.length=3) (hr:v9 eZ l) (hl:l≠[]):
 bF c k O Y (.Call (.Name "zip" p) [.Starred e c_] [] pos) sG l:=by
 intro A V s Z ok r Q E q;refine rN (hf A V s Z ok r _ _ fun v s₁ aB EQ s5=>?_);refine s5.v ?_;show wpAny c.M A (callWith pos (.type "zip") [] [(true,(do let v←eval e V;standAt pos;pure v))] []) _ E s₁;refine l6 (c:=c) (.inl fun a e=>(by injection e)) (PySem.W.ks_lone (he A V s₁ aB (ok.step EQ) (r.step EQ) _ E fun v s₂ bA t₂ s5=>GC aL.list (by rw[cj];lia) ((r.step EQ).step t₂) s5 fun H aG t₃ bf=>⟨t₃.top,?_⟩));refine aU (QJ bf) fun ls s4 h1 h2=>?_;subst s4;have pn:ls.length=eZ.length:=by have:=bf.length;simpa using this
 have fin:∀(h':Heap) (zs:List aZ) (z TI TO:Addr),zs.map (fun q=>(q.src,q.H))=ls→(∀q∈zs,q.j=0∧aG.heap.objs.size≤q.it∧h'.IsListIter q.it q.src q.j)→(zs.map (fun x=>x.it)).Nodup→(∀b o,aG.heap.get? b=some o→h'.get? b=some o)→aG.heap.objs.size≤h'.objs.size→
  h'.get? TI=some (cY (zs.map aZ.v).toArray 0)→h'.get? TO=some (cY (zs.map fun J=>Value.none).toArray 0)→h'.get? z=some (gZ .none (.bool false) TI TO)→aG.heap.objs.size≤TI→aG.heap.objs.size≤TO→aG.heap.objs.size≤z→(z::TO::zs.map (fun x=>x.it)).Nodup→z≠TI→TO≠TI→
  ({aG with heap:=h'}:Shared).TypeIs (.ref z) "zip"∧wpAny c.M A (pyIter (.ref z)) Q E {aG with heap:=h'}:=by
  intro h' zs z TI TO e1 e2 e3 fY e5 nu oj OO JZ UO WY UD SI W0;refine⟨⟨_,OO,rfl⟩,?_⟩;refine wS (kT.of (h:=h') (zs:=zs) fun q Ch=>(e2 q Ch).2.2) fun its i1 cR=>?_;have zn:∀a,aG.heap.objs.size≤a→bA a=none:=fun a ha=>gR t₃.sub ha;have l5:=(EQ.trans t₂).trans t₃;have Bq:aD c s Z {aG with heap:=h'} (bA.put TI (cY (zs.map aZ.v).toArray 0)):=(l5.trans (aD.keep (t:=aG.toks) l5.top t₃.sub fY e5 (aI _))).DA (Ev l5.grow.1 JZ) (zn _ JZ) nu (by simp);have w6:zs.length=ls.length:=by rw[←e1,cj]
  have le:fS bA (bA.put TI (cY (zs.map aZ.v).toArray 0)):=TW.tC (zn _ JZ);have hkeys:=i1.keys;have hst:gc h' ((z,gZ .none (.bool false) TI TO)::(TO,cY (zs.map fun J=>Value.none).toArray 0)::its):=fun p hp=>by
   refine bD hp ?_ fun hp=>?_
   ·exact OO
   refine bD hp ?_ fun hp=>?_
   ·exact oj
   ·exact cR p hp
  have mK:sG (bA.put TI (cY (zs.map aZ.v).toArray 0)) l z ((z,gZ .none (.bool false) TI TO)::(TO,cY (zs.map fun J=>Value.none).toArray 0)::its):=by
   refine⟨TI,TO,zs,eZ,_,_,0,0,_,its,i1,TW.ai ..,?_,by refine U w6 (U pn ?_);lia,fun q Ch=>?_,(h2 zs e1 fun q Ch=>(e2 q Ch).1).mono le,hr,?_,.inl ⟨rfl,rfl,hl⟩⟩
   ·rintro rfl;simp at w6;lia
   ·obtain⟨n,e⟩:=h1 (q.src,q.H) (by refine ZB e1 ?_;exact ao.mpr ⟨q,Ch,rfl⟩);exact⟨n,le _ _ e⟩
   ·refine U aK (U aK (U hkeys ?_));exact UD
  refine Kw.iter hst mK (q z _ _ _ Bq hst (fun p hp=>?_) mK);have key:aG.heap.objs.size≤p.1∧p.1≠TI:=by
   refine bD hp ?_ fun hp=>?_
   ·exact⟨WY,SI⟩
   refine bD hp ?_ fun hp=>?_
   ·exact⟨UO,W0⟩
   ·have hm:p.1∈zs.map (fun x=>x.it):=by refine ZB hkeys ?_;exact ao.mpr ⟨p,hp,rfl⟩
    refine wS (ao.mp hm) fun q Ch e=>?_;refine⟨e▸(e2 q Ch).2.1,fun x=>?_⟩;refine aU ((e2 q Ch).2.2) fun o xz hc J=>?_;have e':q.it=TI:=e.trans x;rw[e',nu]at xz;obtain rfl:=bh xz;simp at hc
  refine⟨Ev l5.grow.1 key.1,?_⟩;delta TW.put;exact U (Tk key.2) (zn _ key.1)
 have aW:∀q∈ls,aG.heap.IsList q.1 q.2:=fun q Ch=>by
  refine aP (h1 q Ch) fun n e=>?_;exact⟨_,t₃.sub.get e,rfl,n,rfl⟩
 show wpAny c.M A (call (.type "zip") (ls.map fun q=>Value.ref q.1)) _ E aG;have hm:=abk ls (by refine U pn ?_;lia);obtain M2|M2:=M2
 ·obtain⟨a,b,rfl⟩:∃a b,ls=[a,b]:=Zs (pn.trans M2);exact Dv (Q:=fun obj s'=>wpAny c.M A (pyIter obj) Q E s') PySem.F.called_zip (by decide) (PySem.F.typeCall_zip_2 _ _) (PySem.F.newCall_zip_2 _ _) (fun obj=>NF obj _ _) L4 hm ⟨aW,fin⟩
 ·obtain⟨a,b,d,rfl⟩:∃a b d,ls=[a,b,d]:=abQ (pn.trans M2);exact Dv (Q:=fun obj s'=>wpAny c.M A (pyIter obj) Q E s') PySem.F.called_zip (by decide) (VF _ _ _) (Zv _ _ _) (fun obj=>WU obj _ _ _) L4 hm ⟨aW,fin⟩
end
end
noncomputable def o8:List Str→List (List Str)→List (List Str)
 |[],_=>[]
 |x::xs,rest=>if rest.all (fun r=>!r.isEmpty)then(x::rest.map (fun x=>x.headD Str.empty))::o8 xs (rest.map List.tail)else []
theorem vz (x xs rest):o8 (x::xs) rest=if rest.all (fun r=>!r.isEmpty)then(x::rest.map (fun x=>x.headD Str.empty))::o8 xs (rest.map List.tail)else []:=rfl
theorem agh (r):o8 [] r=[]:=rfl
noncomputable abbrev CI (r:List Str):D:=.tup (ww r)
theorem PY:∀{rest:List (List Str)},rest.all (fun r=>!r.isEmpty)=true→xM (rest.map ww) (ww (rest.map (fun x=>x.headD Str.empty))) ((rest.map List.tail).map ww)
 |[],_=>.nil
 |[]::rest,h=>by simp at h
 |(x::xs)::rest,h=>.cons (PY (rest:=rest) (by simpa using h))
theorem K9:∀(first) (rest:List (List Str)),v9 ((first::rest).map ww) ((o8 first rest).map CI)
 |[],rest=>.fin (by simp[ww])
 |x::xs,rest=>by
  rw[vz];split
  ·rename_i h;exact .row (hs:=ww (x::rest.map (fun x=>x.headD Str.empty))) (ts:=(xs::rest.map List.tail).map ww) (.cons (PY h)) (K9 xs (rest.map List.tail))
  ·rename_i h;refine .fin ?_;refine wS (List.all_eq_false.mp (by simpa using h:rest.all (fun r=>!r.isEmpty)=false)) fun r hr e=>?_;have:r=[]:=by cases r<;>simp_all
   subst this;exact ao.mpr ⟨[],.tail _ hr,rfl⟩
noncomputable def mX (r:List Str):Bool:=(r.filter (fun x=>x !=r.headD Str.empty)).isEmpty
noncomputable def rW (first:List Str) (rest:List (List Str)):List Str:=((o8 first rest).takeWhile mX).map (fun x=>x.headD Str.empty)
noncomputable def C4 (l:List Str):Str:=if(Txt.join aQ l).length !=0 then Txt.join aQ l else aQ
noncomputable def dh (p:Str):List Str:=Txt.split p aQ
noncomputable def rU (p:Str) (ps:List Str):Str:=C4 (rW (dh p) (ps.map dh))
theorem Qe:∀(first) (rest:List (List Str)),(o8 first rest).length≤first.length
 |[],_=>aI _
 |x::xs,rest=>by
  rw[vz];split
  ·refine U bW (U bW ?_);exact gw (Qe xs (rest.map List.tail))
  ·exact fz _
theorem L2:∀(first) (rest:List (List Str)),∀r∈o8 first rest,r≠[]∧r.length=rest.length+1∧r.headD Str.empty∈first
 |[],_,r,h=>by cases h
 |x::xs,rest,r,h=>by
  rw[vz]at h;split at h
  ·refine bD h ?_ fun h=>?_
   ·exact⟨by simp,by simp,by simp⟩
   ·refine b5 (L2 xs (rest.map List.tail) r h) fun a b d=>?_;exact⟨a,by simpa using b,.tail _ d⟩
  ·cases h
theorem FM.mono {c:ah} {k:Nat} {O:XV} {Y:B} {st:Stmt} {Sc Im:fD→Prop} (h:FM c k O Y st Im) (q:∀o,Im o→Sc o):FM c k O Y st Sc:=fun A V s bs Z ok w Q E e=>h A V s bs Z ok w Q E fun o f s' Z' r cU dG hp=>e o f s' Z' r cU dG (q o hp)
theorem FM.Rd (hh:c.hd=false) (dg:jX c J Src oW)
 (hi:bF c k O Y iter J items) (Inv:List D→XV→B→Prop) (DO:XV→B→Prop) (h0:Inv items O Y) (fT:∀l NE I,Inv l NE I→Src I)
 (turn:∀d rest NE I,Inv (d::rest) NE I→bl c NE I br d fun dJ=>wE c k dJ I body (FD (Inv rest) (F7 DO Sc)))
 (fin:∀NE I,Inv [] NE I→DO NE I) (Xg:∀NE I,DO NE I→Sc (.next NE I))
 (hs:∀V x,foldedSetIterable iter V x=pure x:=by intros;rfl) (tN:oW br:=by trivial):FM c k O Y (.For br iter body [] pos) Sc:=
 FM.mono (FM.for (Sc:=F7 DO Sc) hh dg hi Inv h0 fT turn (fun NE I h=>wE.nil (fin NE I h)) hs tN) fun o h=>by
  induction o with
  |next NE I=>exact Xg NE I h
  |ret=>exact h
  |brk=>exact h.elim
  |cont=>exact h.elim
inductive Ks (p:Str) (ps:List Str) (a:Addr) (aE:List D) (O:XV) (Y:B):Prop
 |mk (rows:List (List Str)) (wP:List Str) (o:Option D):(aE=rows.map CI)→(Y=B.no.put a (some (.list (ww wP))))→(rW (dh p) (ps.map dh)=wP++(rows.takeWhile mX).map (fun x=>x.headD Str.empty))→((∀r∈rows,r≠[]∧r.length=ps.length+1∧(r.headD Str.empty).length≤1000))→(wP.length+rows.length≤300)→((∀y∈wP,y.length≤1000))→(O=[⟨"paths",.loc,some (.list (ww (p::ps)))⟩,⟨"head",.loc,some (.val (.ref a))⟩,⟨"row",.aM,o⟩,⟨"zip",.bz,some (.val (.type "zip"))⟩])→Ks p ps a aE O Y
theorem ZV (t:aV c) (M2:ps.length=1∨ps.length=2) (hb:∀q∈p::ps,q.length≤1000∧(dh q).length≤300∧dh q≠[]∧∀y∈dh q,y.length≤1000):
 wE c k (vars [("paths",.loc)] [.list (ww (p::ps))] [("head",.loc),("row",.aM)] [("zip",.type "zip")]) B.no (gM (bH 27)) (p7 (.str (rU p ps))):=by
 kst_p
 have hh:=t.hd;have hp0:=hb p (.head _);have pS:ps.length≤2:=M2.elim (fun e=>Ev (bT e) (by decide)) bT;refine wE.cons (FM.iT (aF.newList .nil (by simp) fun a K=>⟨_,by kd_in,?_⟩));have Su:o8 (dh p) (ps.map dh)≠[]:=by
  rcases e:dh p with _|⟨x,xs⟩
  ·exact absurd e hp0.2.2.1
  ·rw[vz];rw[ak]
   ·simp
   ·simp only[j8,ao,Bo,forall_exists_index,and_imp,forall_apply_eq_imp_iff₂,List.isEmpty_eq_false_iff];intro q Ch;exact(hb q (.tail _ Ch)).2.2.1
 refine wE.cons (FM.Rd hh Kw (items:=(o8 (dh p) (ps.map dh)).map CI) (bF.VG (eZ:=((p::ps).map dh).map ww) (by kd_p) ?_ ?_ (K9 _ _) (by simpa using Su)) (Ks p ps a)
  (fun O Y=>∃(wP:List Str) (o:Option D),Y=B.no.put a (some (.list (ww wP)))∧rW (dh p) (ps.map dh)=wP∧wP.length≤300∧(∀y∈wP,y.length≤1000)∧
   O=[⟨"paths",.loc,some (.list (ww (p::ps)))⟩,⟨"head",.loc,some (.val (.ref a))⟩,⟨"row",.aM,o⟩,⟨"zip",.bz,some (.val (.type "zip"))⟩])
  ⟨_,[],_,rfl,rfl,rfl,fun r hr=>?_,?_,by simp,rfl⟩ (fun K K K K=>trivial) ?_ ?_ ?_)
 ·have e:((p::ps).filter fun K=>true).map (fun q=>D.list (ww (dh q)))=(((p::ps).map dh).map ww).map .list:=by refine U (lz.mpr (by simp)) ?_;simp[cO]
  refine ZB e ?_;exact f8.mV hh gI (caps:=[]) (gs:=[]) (ts:=[("path",.loc)]) (by intros;rfl) (by kd_p) (by simp) cI (bF.list (l:=ww (p::ps)) (by kd_p)) trivial (dR.one (xs:=p::ps) (P:=fun K=>true) (F:=fun q=>.list (ww (dh q))) .str (by simp;exact Ev pS (by decide)) fun q Ch=>by
   kst_p
   exact⟨eH.nil,fun K=>f8.split (by kd_p) (by kd_p) (by kd_p) (Ev (hb q Ch).1 (by decide))⟩)
 ·simp;assumption
 ·refine b5 (L2 _ _ r hr) fun a b d=>?_;exact⟨a,by simpa using b,hp0.2.2.2 _ d⟩
 ·have:=Qe (dh p) (ps.map dh);have:=hp0.2.1;simp;exact Ev ‹_› ‹_›
 ·intro d rest NE I Go;obtain⟨rows,wP,o,hr,rfl,tZ,bE,aW,kU,rfl⟩:=Go;obtain _|⟨r,rows⟩:=rows
  ·injection hr
  obtain⟨rfl,rfl⟩:=jd hr;refine b5 (bE r (.head _)) fun aft adi acy=>?_;have jG:(ww r)[((0:Int)).toNat]?=some (.str (r.headD Str.empty)):=by
   obtain _|⟨y,ys⟩:=r
   ·exact absurd rfl aft
   ·rfl
  have nH:r.length≤3:=Ev (bT adi) (gw pS);refine bl.name (by kd_in) ?_;refine wE.cons (FM.ifs (b:=!((r.filter (fun x=>x !=r.headD Str.empty)).map D.str).isEmpty) (az.plain (f8.mV hh x_ (caps:=[("row",CI r)]) (gs:=[]) (ts:=[("step",.loc)]) (out:=(r.filter (fun x=>x !=r.headD Str.empty)).map D.str) (by intros;rfl) (by dsimp only[List.map];decide+kernel) ?_ cI (bF.tup (l:=ww r) (by kd_p)) trivial (dR.one (xs:=r) (F:=.str) .str (by kd_p) fun y No=>by
   kst_p
   exact⟨eH.one (az.cmp (by kd_p) (f8.sub (by kd_p) f8.int (Rs.xx (by decide) jG (by simp[ww];exact Ev nH (by decide)))) Rs.qj),fun K=>by kd_p⟩)) (dB.list (Ev (by rw[cj];exact iD _ _) (by exact Ev ‹_› (by decide):r.length≤1000000)))) (fun cW=>?_) fun cW=>wE.nil ?_)
  ·intro y No;refine bD No ?_ fun No=>?_
   ·exact⟨.aM,.inl rfl,by walk_at "v"⟩
   ·cases No
  ·refine wE.cons (FM.brk ?_);refine zm wP _ rfl ?_ (Ev (bX ..) aW) kU rfl;have:mX r=false:=by delta mX;simpa using cW
   refine U tZ (U List.takeWhile_cons (U this ?_));simp
  ·have:mX r=true:=by delta mX;simpa using cW
   refine wE.cons (FM.expr (aF.append (a:=a) (l:=ww wP) (d:=.str (r.headD Str.empty)) (by kd_p) (f8.sub (by kd_p) f8.int (Rs.xx (by decide) jG (by simp[ww];exact Ev nH (by decide)))) (B.ai ..) (by simp[ww];exact f7 (bX ..) aW (by decide)) ?_));refine wE.nil ?_;refine⟨rows,wP++[r.headD Str.empty],_,rfl,?_,?_,fun r' h=>bE r' (.tail _ h),by simp at aW⊢;exact oZ aW,fun y No=>?_,rfl⟩
   ·refine U B.m6 ?_;simp[ww]
   ·refine U tZ (U List.takeWhile_cons (U this ?_));simp
   ·obtain No|No:=b_.mp No
    ·exact kU y No
    ·obtain rfl:=fG.mp No;exact acy
 ·intro NE I Go;obtain⟨rows,wP,o,hr,rfl,tZ,bE,aW,kU,rfl⟩:=Go;obtain _|⟨r,rows⟩:=rows
  ·exact zm wP o rfl (by refine U tZ ?_;simp) (by simpa using aW) kU rfl
  ·injection hr
 ·intro NE I Go;obtain⟨wP,o,rfl,tZ,aW,kU,rfl⟩:=Go;have jm:aQ.length=1:=by decide+kernel
  have hsum:=Fw kU;have v8:(Txt.join aQ wP).length≤700000:=by
   delta Txt.join;rw[yx,jm];exact HP aW hsum
  refine wE.cons (FM.ret (d:=.str (rU p ps)) (f8.Dy (f8.join (ys:=wP) (by kd_p) (by kd_p) (aL.cell (B.ai ..)) (by refine U jm ?_;exact Hs aW hsum)) (dB.str (show(Txt.join aQ wP).length≤1000000 from Ev v8 (by decide))) (fun h=>?_) (fun h=>?_)) rfl)
  ·delta rU C4;exact U tZ (U (ak h) rfl)
  ·delta rU C4;refine U tZ (U (Tk (by simp[h])) ?_);kd_p
theorem adp (t:aV c) (M2:ps.length=1∨ps.length=2) (hb:∀q∈p::ps,q.length≤1000∧(dh q).length≤300∧dh q≠[]∧∀y∈dh q,y.length≤1000):cu c (k+1) (.ref 271) [.list (ww (p::ps))] (.str (rU p ps)):=
 cu.fn (st:=bH 27) (qual:="_law_shared") (dV:=.none) (t.fn rfl rfl rfl rfl) (by kd_p)
  (bC (t.dw (by kd_p) (by kd_p) (by decide)) cI) rfl (fun K K=>jg fun K=>rfl) (fun bP=>ZV (t.at (L:=bP)) M2 hb)
section
noncomputable def cN (l:List (Str×D)) (k:Str):Option D:=(l.find? fun bR=>bR.1=k).map Prod.snd
noncomputable def fZ (l:List (Str×D)) (k:Str) (d:D):List (Str×D):=if l.any (fun bR=>bR.1=k)then l.map (fun bR=>if bR.1=k then(bR.1,d)else bR)else l++[(k,d)]
noncomputable def gz (l:List (Str×D)) (k:Str):List (Str×D):=l.filter fun bR=>decide (bR.1≠k)
section
variable {c:ah} {k:Nat} {O:XV} {Y:B} {Sc:D→B→Prop}
theorem oh (x) (t):(PySem.strKind p w).is x (.str x t)=true:=by
 show Value.isStrOf x (.str x t)=true;simp[Value.isStrOf]
theorem yR {α:Type} {f:α→Str} {g:α→Value} {P:List α→List (Str×D)→Prop} (h0:P [] []) (h1:∀p kvs d l,aR Z (g p) d→kvs.map f=l.map Prod.fst→au Z (kvs.map g) (l.map Prod.snd)→P kvs l→P (p::kvs) ((f p,d)::l)) {kvs:List α}:∀{l:List (Str×D)},kvs.map f=l.map Prod.fst→au Z (kvs.map g) (l.map Prod.snd)→P kvs l:=by
 induction kvs with
 |nil=>
  intro l h _;obtain _|⟨q,l⟩:=l
  ·exact h0
  ·injection h
 |cons p kvs ih=>
  intro l h bO;obtain _|⟨q,l⟩:=l
  ·injection h
  ·refine Op (jd h) fun e h=>?_;change au Z (g p::kvs.map g) (q.2::l.map Prod.snd)at bO;obtain _|⟨a,b⟩:=bO
   have e':q=(f p,q.2):=by exact U e rfl
   exact U e' (h1 p kvs q.2 l a h b (ih h b))
theorem wV (h:kvs.map Prod.fst=l.map Prod.fst) (bO:au Z (kvs.map Prod.snd) (l.map Prod.snd)) (x):(cN l x=none→valueAt kvs x=none)∧∀d,cN l x=some d→∃v,valueAt kvs x=some v∧aR Z v d:=by
 refine yR (f:=fun p:Str×Value=>p.1) (g:=Prod.snd) (P:=fun kvs l=>(cN l x=none→valueAt kvs x=none)∧∀d,cN l x=some d→∃v,valueAt kvs x=some v∧aR Z v d) ?_ ?_ h bO
 ·exact⟨fun J=>rfl,fun d h=>by injection h⟩
 ·intro p kvs d l a _ _ ih;delta cN valueAt at*;by_cases e:p.1=x
  ·simp only[rD,e,decide_true,Cb];exact⟨fun h=>(by injection h),fun d h=>by obtain rfl:=bh h;exact⟨_,rfl,a⟩⟩
  ·simp only[rD,e,tP];exact ih
theorem adE {kvs:List (Str×Value)} {l:List (Str×D)} (h:kvs.map Prod.fst=l.map Prod.fst) (x):kvs.any (fun bR=>bR.1=x)=l.any (fun bR=>bR.1=x):=by
 have e1:kvs.any (fun bR=>bR.1=x)=(kvs.map Prod.fst).any (fun n=>n=x):=by refine U List.any_map ?_;rfl
 have e2:l.any (fun bR=>bR.1=x)=(l.map Prod.fst).any (fun n=>n=x):=by refine U List.any_map ?_;rfl
 exact U e1 (U e2 (U h rfl))
theorem au.concat (h:au Z H l) (h':aR Z v d):au Z (H++[v]) (l++[d]):=h.append (.cons h' .nil)
theorem FQ {Z:TW} {kvs:List (Str×Value)} {l:List (Str×D)} (h:kvs.map Prod.fst=l.map Prod.fst) (t:au Z (kvs.map Prod.snd) (l.map Prod.snd)) {x:Str} {v:Value} {d:D} (s5:aR Z v d):(stored kvs x v).map Prod.fst=(fZ l x d).map Prod.fst∧au Z ((stored kvs x v).map Prod.snd) ((fZ l x d).map Prod.snd):=by
 delta stored fZ;refine U (adE h x) ?_;rcases l.any (fun bR=>bR.1=x)with _|_
 ·simp only[j3,jA,gK,aK,sq,h];exact⟨trivial,t.concat s5⟩
 ·simp only[mC];refine yR (f:=fun p:Str×Value=>p.1) (g:=Prod.snd) (P:=fun(kvs:List (Str×Value)) (l:List (Str×D))=>(kvs.map fun bR=>if bR.1=x then(bR.1,v)else bR).map Prod.fst=(l.map fun bR=>if bR.1=x then(bR.1,d)else bR).map Prod.fst∧au Z ((kvs.map fun bR=>if bR.1=x then(bR.1,v)else bR).map Prod.snd) ((l.map fun bR=>if bR.1=x then(bR.1,d)else bR).map Prod.snd)) ?_ ?_ h t
  ·exact⟨rfl,.nil⟩
  ·intro p kvs cz l a _ _ ih;simp only[aK];by_cases q:p.1=x
   ·simp only[q,mC];exact⟨by exact U ih.1 rfl,.cons s5 ih.2⟩
   ·simp only[q,jA];exact⟨by exact U ih.1 rfl,.cons a ih.2⟩
theorem QC (h:kvs.map Prod.fst=l.map Prod.fst) (bO:au Z (kvs.map Prod.snd) (l.map Prod.snd)) (x):(without kvs x).map Prod.fst=(gz l x).map Prod.fst∧au Z ((without kvs x).map Prod.snd) ((gz l x).map Prod.snd):=by
 refine yR (f:=fun p:Str×Value=>p.1) (g:=Prod.snd) (P:=fun kvs l=>(without kvs x).map Prod.fst=(gz l x).map Prod.fst∧au Z ((without kvs x).map Prod.snd) ((gz l x).map Prod.snd)) ?_ ?_ h bO
 ·exact⟨rfl,.nil⟩
 ·intro p kvs d l a _ _ ih;delta without gz at*;by_cases e:p.1=x
  ·simp only[je,e,ne_eq,not_true_eq_false,tP,j3,jA];exact ih
  ·simp only[je,e,ne_eq,not_false_eq_true,decide_true,mC,aK,ih.1];exact⟨trivial,.cons a ih.2⟩
theorem sP (r:bB c Z h V O Y) (ha:Y a=some (.dict l)):(a==sysModules)=false∧∃kvs,h.DictOf (strKind c.p c.w) a kvs∧kvs.map Prod.fst=l.map Prod.fst∧au Z (kvs.map Prod.snd) (l.map Prod.snd)∧∃o,h.get? a=some o∧o.cls= .type "dict"∧o.dict=none:=by
 refine b5 (r.cells a _ ha) fun aH J h0=>?_;refine wS aH fun o xz ZM=>aU ZM fun kvs h1 h2 h3=>?_;have HS:=h1;refine eO HS fun es ep hx J=>?_;refine⟨FL.mpr fun e=>r.glob.2.2.1 (e▸h0),kvs,yq.mpr ⟨o,xz,h1⟩,h2,h3,o,xz,hx.1,hx.2.1⟩
theorem Ep (r:bB c Z s.heap V O Y) (ha:Y a=some (.dict l)) (hd:h'.DictOf (strKind c.p c.w) a kvs) (h1:kvs.map Prod.fst=l'.map Prod.fst) (h2:au Z (kvs.map Prod.snd) (l'.map Prod.snd)) (av:Heap.SameBut a s.heap h') (FS:s.toks≤t):
 aO c Y s Z (Y.put a (some (.dict l'))) {s with heap:=h',toks:=t} Z:=by
 refine wS (yq.mp hd) fun o xz hk=>?_;have hk':=hk;refine fJ hk' fun es ep J E7 J=>?_;exact aO.put r.cells r.top r.sub (by refine U ha ?_;simp) av xz (fun H=>by refine U E7 ?_;simp) ⟨kvs,hk,h1,h2⟩ FS
theorem yM {Z:TW} {kvs:List (Str×Value)} {l:List (Str×D)} (h:kvs.map Prod.fst=l.map Prod.fst):kvs.length=l.length:=by
 have:=cQ List.length h;simpa using this
theorem Rs.u7 (ha:Y a=some (.dict l)) (hx:cN l x=some d)
 (hsub:∀o j,subscripted bV false o j=operate [o,j] (getItem o j):=by intros;rfl):Rs c k O Y (subscriptTail v bV) (.val (.ref a)) (.str x) d:=by
 intro A V s Z bk bL ok r h₁ h₂ Q E g;refine h₁.v ?_;refine h₂.s fun J=>?_;refine Op (sP r ha) fun _ YV=>d9 YV fun kvs hd e1 e2 Zn=>aU Zn fun o xz hc _=>?_;refine wS ((wV e1 e2 x).2 d hx) fun y No ty=>?_;exact rQ (T:="dict") ⟨o,xz,hc⟩ slot_dict_getitem.lookup (wpAny_getItem_of (knd:=PySem.strKind c.p c.w) (k:=x) (oh ..) hd.mapOf No (gV g r.top r.sub ty (b9 _))) (hsub _ _)
theorem Rs.inDict (ha:Y a=some (.dict l)):Rs c k O Y (compareOp .In) (.str x) (.val (.ref a)) (.val (.bool (cN l x).isSome)):=by
 intro A V s Z bk bL ok r h₁ h₂ Q E g;refine h₁.s fun J=>?_;refine h₂.v ?_;refine Op (sP r ha) fun hs TR=>d9 TR fun kvs hd e1 e2 _=>?_;have s5:(valueAt kvs x).isSome=(cN l x).isSome:=by
  refine Op (wV e1 e2 x) fun h1 h2=>?_
  induction q:cN l x with
  |none=>refine U (h1 q) ?_;rfl
  |some d=>refine wS (h2 d q) fun v s5 J=>?_;refine U s5 ?_;rfl
 refine wpAny_in_of (knd:=PySem.strKind c.p c.w) (k:=x) (oh ..) hs hd.mapOf ?_;exact U s5 (gV g r.top r.sub (.val _) (b9 _))
theorem FM.Aa (he:aF c k O Y e fun d I=>f8 c k O I o (.val (.ref a))∧f8 c k O I i (.str x)∧∃l,I a=some (.dict l)∧l.length≤1000000∧aX (.next O (I.put a (some (.dict (fZ l x d))))))
 (hs:∀{V},swapsWith e (some (.Subscript o i p)) pos.line V=pure false:=by intros;rfl):FM c k O Y (.Assign [.Subscript o i p] e pos) aX:=by
 intro A V s bs Z ok w Q E q;refine wpAny_Assign_Subscript (he A V s Z ok w.rd _ E fun d I v s₁ aB aq s5 VM=>b5 VM fun xz hi aaf=>aU aaf fun l ha hz Ab=>?_) hs;have w₁:=w.after aq;have jK:=ok.after aq;refine xz A V s₁ aB jK w₁.rd _ E fun Bv s₂ bA t₂ rj=>hi A V s₂ bA (jK.step t₂) (w₁.rd.step t₂) _ E fun FH aG eB t₃ uS=>?_;refine rj.v ?_;refine uS.s fun J=>?_;have w₃:=(w₁.step t₂).step t₃;refine Op (sP w₃.rd ha) fun _ afU=>d9 afU fun kvs hd e1 e2 _=>?_;refine wpAny_setItem_pairs (knd:=PySem.strKind c.p c.w) (k:=x) (oh ..) hd (fun h' hd' av=>?_) (by refine U (yM (Z:=eB) e1) (U cV ?_);exact Ev ‹_› (by decide));refine Op (FQ e1 e2 (x:=x) ((s5.mono t₂.le).mono t₃.le)) fun i1 cR=>?_;have xC:=Ep (t:=aG.toks+1) w₃.rd ha hd' i1 cR av (b9 _);exact q (.next O _) .next _ _ (((aq.run.trans (t₂.run I)).trans (t₃.run I)).trans xC.run) (w₃.after xC) .next Ab
theorem kL.dict (ha:Y a=some (.dict l)):kL c O Y (.val (.ref a)) "dict" :=fun s V Z v r t=>by
 refine t.v ?_;refine Op (sP r ha) fun _ ZP=>d9 ZP fun _ _ _ _ U4=>aU U4 fun o xz hc hd=>?_;exact⟨⟨o,xz,hc⟩,fun b e=>by cases e;exact⟨o,xz,hd⟩⟩
theorem di.QU (ha:Y a=some (.dict l)) (hx:cN l x=some d) (hz:l.length≤1000000) (h:Sc d (Y.put a (some (.dict (gz l x))))):di c k O Y (.builtin "dict.pop") [.val (.ref a),.str x] Sc:=by
 intro A V s Z H ok r t Q E q;refine fJ (nA t) fun bk bL s4 h₁ h₂=>?_;subst s4;refine h₁.v ?_;refine h₂.s fun J=>?_;refine Op (sP r ha) fun _ aeQ=>d9 aeQ fun kvs hd e1 e2 Xb=>aU Xb fun o xz hc _=>?_;refine wS ((wV e1 e2 x).2 d hx) fun y No ty=>?_;refine Op (QC e1 e2 x) fun i1 cR=>?_;refine CY E2 hd.typeIs PySem.F.entry_dict_pop (PySem.F.args_dict_pop_2 _ _) (meets_dict_pop_there (PySem.strKind c.p c.w) a (k:=x) (oh ..) [] (.inl rfl) rfl) ⟨kvs,y,hd,by refine U (yM (Z:=Z) e1) (U cV ?_);exact Ev ‹_› (by decide),No,fun h' hd' av=>?_⟩;exact q _ _ _ _ Z (Ep (t:=s.toks+1) r ha hd' i1 cR av (b9 _)) ty h
theorem b8.cN (ha:Y a=some (.dict l)):b8 c k O Y (.builtin "dict.get") [.val (.ref a),.str x] ((cN l x).getD (.val .none)):=by
 intro A V s Z H ok r t Q E g;refine fJ (nA t) fun bk bL s4 h₁ h₂=>?_;subst s4;refine h₁.v ?_;refine h₂.s fun J=>?_;refine Op (sP r ha) fun hs afv=>d9 afv fun kvs hd e1 e2 SN=>aU SN fun o xz hc _=>?_;refine CY OD hd.typeIs PySem.F.entry_dict_get (PySem.F.args_dict_get_2 _ _) (meets_dict_get (PySem.strKind c.p c.w) a (k:=x) (oh ..) hs) ⟨_,hd.mapOf,gV g r.top r.sub ?_ (b9 _)⟩;refine Op (wV e1 e2 x) fun h1 h2=>?_
 induction Ch:Internal.cN l x with
 |none=>refine U (h1 Ch) ?_;exact .val _
 |some d=>refine wS (h2 d Ch) fun v s5 tv=>?_;refine U s5 ?_;exact tv
theorem FM.del (xz:f8 c k O Y o (.val (.ref a))) (hi:aF c k O Y i fun d I=>d= .str x∧∃l,I a=some (.dict l)∧(Internal.cN l x).isSome=true∧l.length≤1000000∧aX (.next O (I.put a (some (.dict (gz l x)))))):FM c k O Y (.Delete [.Subscript o i p] pos) aX:=by
 intro A V s bs Z ok w Q E q;refine wpAny_Delete (wpAny_deleteEach_cons (wpAny_delete_Subscript ?_));refine xz A V s Z ok w.rd _ E fun Bv s₁ aB EQ rj=>?_;refine rj.v ?_;have w₁:=w.step EQ;refine hi A V s₁ aB (ok.step EQ) w₁.rd _ E fun d I FH s₂ bA aq uS af0=>Op af0 fun e X7=>d9 X7 fun l ha hx hz Ab=>?_;subst e;refine uS.s fun J=>?_;have w₂:=w₁.after aq;refine Op (sP w₂.rd ha) fun _ VW=>d9 VW fun kvs hd e1 e2 _=>?_;refine Op (QC e1 e2 x) fun i1 cR=>?_;have iC:(valueAt kvs x).isSome=true:=by
  refine Op (wV e1 e2 x) fun _ h2=>?_;refine aP (xO.mp hx) fun d hd'=>?_;refine wS (h2 d hd') fun v s5 J=>?_;refine U s5 ?_;rfl
 delta delItem
 try with_reducible refine b4 ?_
 refine u8 (wpAny_sequenceKey hd.typeIs (by decide) ?_);refine u8 (sf (name:=Str.ofString "__delitem__") hd.typeIs Ot
  (CY Ot hd.typeIs PySem.F.entry_dict_delitem (PySem.F.args_dict_delitem_2 _ _) (meets_dict_delitem_pairs (PySem.strKind c.p c.w) a (k:=x) (oh ..)) ⟨kvs,hd,by refine U (yM (Z:=Z) e1) (U cV ?_);exact Ev ‹_› (by decide),iC,fun h' hd' av=>?_⟩))
 have zj:=Ep (t:=s₂.toks+1) w₂.rd ha hd' i1 cR av (b9 _);exact On (wpAny_deleteEach_nil (q (.next O _) .next _ _ (((EQ.run Y).trans aq.run).trans zj.run) (w₂.after zj) .next Ab))
theorem Ji (r:bB c Z h V O Y) (ha:Y a=some (.set l)):∃n,n≤l.length∧h.SetOf (PySem.strKind c.p c.w) a (fun x=>decide (x∈l)) n∧∃o,h.get? a=some o∧o.cls= .type "set"∧o.dict=none:=by
 refine b5 (r.cells a _ ha) fun aH J h0=>?_;refine wS aH fun o xz WQ=>Lq WQ fun es ep pN hx hd he hm hb hf M2=>?_;exact⟨es.size,M2,⟨o,es,ep,pN,xz,hx,hd,he,hm,hb,hf,rfl⟩,o,xz,hx.1,hx.2.1⟩
theorem kL.set (ha:Y a=some (.set l)):kL c O Y (.val (.ref a)) "set" :=fun s V Z v r t=>by
 refine t.v ?_;refine aU (Ji r ha) fun _ _ _ Vx=>aU Vx fun o xz hc hd=>?_;exact⟨⟨o,xz,hc⟩,fun b e=>by cases e;exact⟨o,xz,hd⟩⟩
theorem Rs.inSet (ha:Y a=some (.set l)):Rs c k O Y (compareOp .In) (.str x) (.val (.ref a)) (.val (.bool (decide (x∈l)))):=by
 intro A V s Z bk bL ok r h₁ h₂ Q E g;refine h₁.s fun J=>?_;refine h₂.v ?_;refine aU (Ji r ha) fun n J hS J=>?_;exact wpAny_inSet_of (knd:=PySem.strKind c.p c.w) (k:=x) (oh ..) rfl hS (gV g r.top r.sub (.val _) (b9 _))
theorem di.WH (ha:Y a=some (.set l)) (hz:l.length≤1000) (h:Sc (.val .none) (Y.put a (some (.set (l++[x]))))):di c k O Y (.builtin "set.add") [.val (.ref a),.str x] Sc:=by
 intro A V s Z H ok r t Q E q;refine fJ (nA t) fun bk bL s4 h₁ h₂=>?_;subst s4;refine h₁.v ?_;refine h₂.s fun J=>?_;refine aU (Ji r ha) fun n M2 hS J=>?_;refine call_set_add (knd:=PySem.strKind c.p c.w) (k:=x) (oh ..) rfl hS (by show n+1<4096;exact f9 (gw (Ev ‹_› ‹_›)) (by decide)) fun h' av hS'=>?_;refine v_ hS' fun o' es ep pN bK hx hd he hm hb hf hsz=>?_;refine q _ _ _ _ Z (aO.put (t:=s.toks+1) (eN:=.set (l++[x])) r.cells r.top r.sub (by refine U ha ?_;simp) av bK (fun H=>by refine U hd ?_;simp) ⟨es,ep,pN,hx,hd,he,fun k'=>?_,hb,hf,?_⟩ (b9 _)) (.val _) h
 ·rw[←hm k'];simp only[b_,fG,sV,o5]
 ·refine U hsz (U dZ ?_);refine Ev (m:=n+1) ?_ (gw M2);split
  ·exact b9 _
  ·exact aI _
theorem di.newSet (h:∀a,Y a=none→Sc (.val (.ref a)) (Y.put a (some (.set [])))):di c k O Y (.type "set") [] Sc:=by
 intro A V s Z H ok r t Q E q;refine t.n ?_;refine call_set_0 fun cL=>?_;refine q _ _ _ _ Z (aO.new (t:=s.toks) (cl:=.set []) (o:={cls:=.type "set",dict:=none,data:=.set #[] 0 (.fresh 0 0 cL)}) r.cells r.top r.sub rfl ⟨#[],0,_,⟨rfl,rfl,rfl⟩,rfl,fun J h=>by simp at h,fun k=>by simp,by show 0<4096;decide,by cases cL<;>rfl,aI _⟩ (aI _)) (.val _) (h _ (r.fresh (aI _)))
end
end
section
theorem Us:Slot "map" "__init__" "object.__init__" :=
 .of (owner:="object") (n:="__init__") (by rw[oi,oG];kernel_rfl) (by decide+kernel) (by decide+kernel) (by decide+kernel)
  (by first|exact .inl (by decide+kernel)|exact .inr (by decide+kernel)) (by rw[l_];kernel_rfl)
theorem K1:Slot "map" "__iter__" "map.__iter__" :=
 .of (owner:="map") (n:="__iter__") (by rw[oi,oG];kernel_rfl) (by decide+kernel) (by decide+kernel) (by decide+kernel)
  (by first|exact .inl (by decide+kernel)|exact .inr (by decide+kernel)) (by rw[l_];kernel_rfl)
theorem zG:Slot "map" "__next__" "map.__next__" :=
 .of (owner:="map") (n:="__next__") (by rw[oi,oG];kernel_rfl) (by decide+kernel) (by decide+kernel) (by decide+kernel)
  (by first|exact .inl (by decide+kernel)|exact .inr (by decide+kernel)) (by rw[l_];kernel_rfl)
theorem Og:Manifest.owners.lookup (String.ofList ['p','a','m'].reverse)=some Manifest.sig_map:=by kernel_rfl
theorem ab7 (a):argsOk "map.__iter__" ⟨[a],[]⟩:=by
 unfold argsOk;rw[signature?_of (id:="map.__iter__") (n:=['_','_','r','e','t','i','_','_']) (o:=['p','a','m']) (by kernel_rfl) Og];kernel_rfl
theorem K5 (a):argsOk "map.__next__" ⟨[a],[]⟩:=by
 unfold argsOk;rw[signature?_of (id:="map.__next__") (n:=['_','_','t','x','e','n','_','_']) (o:=['p','a','m']) (by kernel_rfl) Og];kernel_rfl
theorem MQ:entryFor table "map.__next__" =some Builtin.«map.__next__»:=z9 (by kernel_rfl)
theorem ac6:entryFor table "map.__new__" =some Builtin.«map.__new__»:=z9 (by kernel_rfl)
theorem VH:entryFor table "map.__iter__" =some Builtin.«dict_keyiterator.__iter__»:=
 entryFor_alias (id':="dict_keyiterator.__iter__") (by kernel_rfl) (by first|rfl|decide+kernel|(unfold String.splitOn;simp+decide [String.splitOnAux])) (by decide+kernel) (by kernel_rfl)
theorem OG:mroOf (.type "map")=pure [.type "map",.type "object"]:=by rw[mroOf_type];kernel_rfl
theorem abt:typeLookup (.type "map") "__new__" =pure (some (.builtin "map.__new__")):=by rw[oi,oG];kernel_rfl
theorem Up:TypeCalled "map" "map.__new__" "object.__init__" :=
 ⟨by decide+kernel,by decide+kernel,⟨_,_,OG⟩,madeBy_type OG abt (by decide+kernel),by decide+kernel,by rw[l_];kernel_rfl,Us⟩
theorem ab5 (a b):checkTypeCall "map" ⟨[a,b],[]⟩=pure ():=by kernel_rfl
theorem adO (a b):checkBuiltinCall "map.__new__" ⟨[.type "map",a,b],[]⟩=pure ():=by kernel_rfl
theorem aeH:isSubtype (.type "map") (.type "map")=pure true:=by rw[l_];kernel_rfl
theorem W3:typeLookup (.type "map") "__len__" =pure none:=by rw[oi,oG];kernel_rfl
theorem Yb:typeLookup (.type "map") "__length_hint__" =pure none:=by rw[oi,oG];kernel_rfl
noncomputable abbrev i0 (TI:Addr) (f:Value):Obj:={cls:=.type "map",dict:=none,data:=.fields #[.ref TI,f],slots:=#[]}
noncomputable abbrev kH (h:Heap) (l:Addr):Heap:=h.push {cls:=.type "list_iterator",data:=.fields #[.ref l,.int 0 0]}
noncomputable abbrev mQ (h:Heap) (l:Addr):Heap:=(kH h l).push {cls:=.type "tuple",data:=.seq #[.ref h.objs.size]}
theorem aa4 (f) (l) (xs):PySem.Meets (Builtin.«map.__new__» ⟨[.type "map",f,.ref l],[]⟩) (fun J R s=>s.heap.IsList l xs∧
 R (.ok (.ret (.ref (mQ s.heap l).objs.size))) {s with heap:=(mQ s.heap l).push (i0 (kH s.heap l).objs.size f)}):=
 .of_wp fun prog w A R s h=>by
  obtain⟨hp,g,d,tk,os⟩:=s;refine Op h fun wR h=>?_;have hsub:=aeH;have yI:Heap.IsList (Shared.heap ⟨hp,g,d,tk,os⟩) l xs:=wR;wp_walk using wI yI;exact⟨_,rfl,h⟩
section
variable {c:ah} {k:Nat}
theorem aD.A9 (x:aD c s₀ jH s Z) (kE:c.H0.StaysIn s₀.heap) (av:Heap.ExtBut a s.heap h') (hs:s.heap.objs.size≤h'.objs.size) (M2:s₀.heap.objs.size≤a) (hz:Z a=none) (FS:s.toks≤t):aD c s₀ jH {s with heap:=h',toks:=t} Z:=by
 refine fL (x.rest) fun h0 t0 i6=>?_;refine⟨⟨Ev x.grow.1 hs,fun b o e=>?_⟩,fun b o e=>?_,x.ext,fun b o e=>?_,Ev x.tok FS,⟨h',t,by exact U i6 rfl⟩⟩
 ·refine wS (x.grow.2 b o e) fun o' e' q=>?_;exact⟨o',av b o' (fE (fU (cJ e) M2)) e',q⟩
 ·by_cases q:b=a
  ·subst q;rw[mY kE M2]at e;injection e
  ·exact av b o q (x.top b o e)
 ·exact⟨av b o (by rintro rfl;rw[hz]at e;injection e) (x.sub.get e),(x.sub b o e).2⟩
theorem ac2 (hm:s.heap.get? m=some (i0 TI f)) (i7:s.heap.get? TI=some (cY #[.ref it] n))
 (hit:s.heap.IsListIter it L i) (aW:s.heap.IsList L H) (hx:H[i]?=some x) (bg:m≠it) (FO:∀h':Heap,h'.IsListIter it L (i+1)→Heap.SameBut it s.heap h'→wpAny (model prog w) A (call f [x]) Q E {s with heap:=h'}):
 wpAny (model prog w) A (Builtin.«map.__next__» ⟨[.ref m],[]⟩) (fun fin s'=>∃v,fin= .done (.ret v)∧Q v s') E s:=by
 show wpAny _ _ (field (.ref m) 0>>=_) _ _ _;refine u8 (gQ hm rfl (x:=.ref TI) rfl ?_);refine u8 (nC i7 rfl ?_);dsimp only;refine U (show(#[Value.ref it]:Array Value)=[Value.ref it].toArray from rfl) (U Bx ?_);simp only[pI,BW];refine u8 (u8 (u8 (b4 (BB hit aW hx fun h₁ q3 av=>On (On ?_)))));refine u8 (gQ (av.extBut m _ bg hm) rfl (x:=f) rfl ?_);refine u8 (b4 (d8 (FO h₁ q3 av) (fun v s' s5=>?_) fun J J e=>e));exact u8 (wU (On ⟨_,rfl,s5⟩))
theorem Zi (hh:A.handled=none) (hm:s.heap.get? m=some (i0 TI f)) (i7:s.heap.get? TI=some (cY #[.ref it] n))
 (hit:s.heap.IsListIter it L i) (aW:s.heap.IsList L H) (hx:H[i]?=none) (gY:∀h' e,Heap.ExtBut it s.heap h'→(∃o,h'.get? e=some o∧o.cls= .type "StopIteration")→E (.ref e) {s with heap:=h'}):
 wpAny (model prog w) A (Builtin.«map.__next__» ⟨[.ref m],[]⟩) Q E s:=by
 show wpAny _ _ (field (.ref m) 0>>=_) _ _ _;refine u8 (gQ hm rfl (x:=.ref TI) rfl ?_);refine u8 (nC i7 rfl ?_);dsimp only;refine U (show(#[Value.ref it]:Array Value)=[Value.ref it].toArray from rfl) (U Bx ?_);simp only[pI,BW];exact u8 (u8 (u8 (b4 (Mc hh hit aW hx gY))))
theorem ac0 (hm:s.heap.get? m=some (i0 TI f)) (i7:s.heap.get? TI=some (cY #[.ref it] n))
 (hit:s.heap.IsListIter it L i) (aW:s.heap.IsList L H) (hx:H[i]?=some x) (bg:m≠it) (FO:∀h':Heap,h'.IsListIter it L (i+1)→Heap.SameBut it s.heap h'→∀mD,wpAny (model prog w) A.in1 (call f [x]) (fun v=>Q (some v)) mD {s with heap:=h'}):
 wpAny (model prog w) A (pyNext (.ref m)) Q E s:=by
 have hT:s.TypeIs (.ref m) "map" :=⟨_,hm,rfl⟩;unfold pyNext;exact u8 (rq (sf (name:=Str.ofString "__next__") hT zG
  (lY zG hT MQ
   (ac2 hm i7 hit aW hx bg fun h' a1 a2=>d8 (FO h' a1 a2 (fun J J=>False)) (fun J J x=>On x) fun J J x=>x.elim) (K5 _))))
theorem aeD (hh:A.handled=none) (hm:s.heap.get? m=some (i0 TI f)) (i7:s.heap.get? TI=some (cY #[.ref it] n))
 (hit:s.heap.IsListIter it L i) (aW:s.heap.IsList L H) (hx:H[i]?=none) (qF:∀h':Heap,Heap.ExtBut it s.heap h'→s.heap.objs.size≤h'.objs.size→Q none {s with heap:=h'}):
 wpAny (model prog w) A (pyNext (.ref m)) Q E s:=by
 have hT:s.TypeIs (.ref m) "map" :=⟨_,hm,rfl⟩;refine h_ ?_;unfold pyNext;refine u8 (rq (sf (name:=Str.ofString "__next__") hT zG
  (lY zG hT MQ (Zi hh hm i7 hit aW hx fun h' e hk he=>?_) (K5 _))))
 refine wS he fun o xz hc=>?_;refine u8 (F5 (T:="StopIteration") (b:=true) ⟨o,xz,hc⟩ isSubtype_stop ?_);exact On fun u=>qF _ hk u.size
theorem Ok.in4 (x:Ok c (k+1) A s):Ok c k A.in1.in1.in1.in1 s:=⟨by have:=x.depth;show A.depth+k<900;exact fN ‹_›,by have:=x.units;exact C7 (c:=4) this (by decide),x.frames,x.tok,x.hand⟩
noncomputable abbrev pK (H:Array Value) (n:Nat):Obj:={cls:=.type "list",dict:=none,data:=.seq H n,slots:=#[]}
structure V1 (c:ah) (s₀:Shared) (jH:TW) (s:Shared) (Z:TW) (m TI it L S:Addr) (f:Value) (H:Array Value) (i:Nat):Prop where
 st:aD c s₀ jH s Z
 hm:s.heap.get? m=some (i0 TI f)
 i7:Z TI=some (cY #[.ref it] 0)
 hit:s.heap.IsListIter it L i
 aW:∃n,Z L=some {cls:=.type "list",data:=.seq H n}
 nm:s₀.heap.objs.size≤m∧s₀.heap.objs.size≤it∧s₀.heap.objs.size≤S
 q1:Z m=none∧Z it=none∧Z S=none
 ne:m≠it∧m≠S∧it≠S
theorem Gg (x:aD c s Z s' Z') (h:s.heap.get? a=some o) (hz:Z a=none):Z' a=none:=by
 induction q:Z' a with
 |none=>rfl
 |some o'=>
  obtain e|e:=x.ext.2 a o' q
  ·rw[hz]at e;injection e
  ·exact absurd (cJ h) (eL.mpr e)
theorem JY (x:aD c s Z s' Z') (h:s.heap.get? a=some o) (hc:o.cls≠ .type "frame"):s'.heap.get? a=some o:=by
 refine wS (x.grow.2 a o h) fun o' e q=>?_;rw[q.eq hc]at e;exact e
theorem Yd (hh:A.handled=none) (kE:c.H0.StaysIn s₀.heap) (ok:∀s Z,aD c s₀ jH s Z→Ok c k A.in1.in1 s):
 ∀aE done s Z i wP y_,V1 c s₀ jH s Z m TI it L S f H i→au Z (H.toList.drop i) aE→au Z wP.toList done→done.length+aE.length≤1000→(∀d∈aE,cu c k f [d] (F d))→s.heap.get? S=some (pK wP y_)→
  (∀s' Z' rI n7,aD c s₀ jH s' Z'→s'.heap.get? S=some (pK rI n7)→au Z' rI.toList (done++aE.map F)→Z' S=none→R (.ok (.ret res)) s')→
  codeAny c.M A (.builtin "list.extend.loop" ⟨[.ref S,.ref m,res],[]⟩) R s:=by
 intro aE
 induction aE with
 |nil=>
  intro done s Z i wP y_ M FS hd hl hp hS h;obtain⟨n,aW⟩:=M.aW;have hx:H[i]?=none:=by
   rcases e:H.toList.drop i with _|⟨a,b⟩
   ·exact x6 e
   ·rw[e]at FS;cases FS
  refine mH Mu ?_;refine U (nB C8 _) ?_;show wpAny _ A.in1 (pyNext (.ref m)>>=_) _ _ s;refine u8 (aeD hh M.hm (M.st.sub.get M.i7) M.hit ⟨_,M.st.sub.get aW,rfl,n,rfl⟩ hx fun h' hk hs=>?_);refine On (h {s with heap:=h'} Z wP y_ (M.st.A9 (t:=s.toks) kE hk hs M.nm.2.1 M.q1.2.1 (aI _)) (hk S _ M.ne.2.2.symm hS) (by simpa using hd) M.q1.2.2)
 |cons d aE ih=>
  intro done s Z i wP y_ M FS hd hl hp hS h;obtain⟨n,aW⟩:=M.aW;rcases e:H.toList.drop i with _|⟨x,r⟩
  ·rw[e]at FS;cases FS
  rw[e]at FS;obtain⟨hx,g2⟩:=rR e;cases FS with
  |cons t1 fM=>
  refine mH Mu ?_;refine U (nB C8 _) ?_;show wpAny _ A.in1 (pyNext (.ref m)>>=_) _ _ s;refine u8 (ac0 M.hm (M.st.sub.get M.i7) M.hit ⟨_,M.st.sub.get aW,rfl,n,rfl⟩ hx M.ne.1 fun h₁ q3 av mD=>?_);have nV:aD c s₀ jH {s with heap:=h₁} Z:=M.st.A9 (t:=s.toks) kE av.extBut (bT av.1.symm) M.nm.2.1 M.q1.2.1 (aI _);refine hp d (.head _) A.in1.in1 {s with heap:=h₁} Z [x] (ok _ _ nV) nV.top nV.sub (.cons t1 .nil) _ mD fun v s₂ bA t₂ s5=>?_;have zT:s₂.heap.get? S=some (pK wP y_):=JY t₂ (av.extBut S _ M.ne.2.2.symm hS) (by simp);have hm₂:s₂.heap.get? m=some (i0 TI f):=JY t₂ (av.extBut m _ M.ne.1 M.hm) (by simp);have acH:s₂.heap.IsListIter it L (i+1):=by
   refine aU q3 fun o xz hc hd=>?_;exact gg o (JY t₂ xz (by refine U hc ?_;simp)) hc hd
  have TX:bA it=none:=by refine wS q3 fun o xz J=>?_;exact Gg t₂ xz M.q1.2.1
  have Ti:bA m=none:=Gg t₂ (av.extBut m _ M.ne.1 M.hm) M.q1.1;have L3:bA S=none:=Gg t₂ (av.extBut S _ M.ne.2.2.symm hS) M.q1.2.2;have ig:wP.size=done.length:=by exact ZB hd.length (U gP rfl)
  show wpAny _ A.in1 (updateSeq S (fun x=>x.push v)>>=_) _ _ s₂;refine u8 (s9 zT rfl ?_ (by refine U ig (U cV ?_);simp at hl;exact f7 (bX ..) hl (by decide)) (by show(wP.push v).size≤_;rw[Array.size_push,ig,cV];simp at hl;exact gw (f7 (bX ..) hl (by decide))));have AP:=kZ (Obj.mapSeq (fun x=>x.push v)) zT rfl;have Ef:Heap.SameBut S s₂.heap (s₂.heap.update S (Obj.mapSeq (fun x=>x.push v))):=nh ..;have l5:aD c s₀ jH {s₂ with heap:=s₂.heap.update S (Obj.mapSeq (fun x=>x.push v))} bA:=(nV.trans t₂).A9 (t:=s₂.toks) kE Ef.extBut (bT Ef.1.symm) M.nm.2.2 L3 (aI _);refine On ⟨G9 C8 _,ih (done++[F d]) _ bA (i+1) (wP.push v) _ ⟨l5,Ef.extBut m _ M.ne.2.1 hm₂,t₂.le _ _ M.i7,acH.extBut Ef.extBut M.ne.2.2,⟨n,t₂.le _ _ aW⟩,M.nm,⟨Ti,TX,L3⟩,M.ne⟩ (by refine U g2 ?_;exact fM.mono t₂.le) (by refine U HR ?_;exact(hd.mono t₂.le).concat s5) (by simp at hl⊢;exact oZ ‹_›) (fun cz hd'=>hp cz (.tail _ hd')) AP fun s' Z' rI n7 a1 a2 iP iQ=>h s' Z' rI n7 a1 a2 (by simpa using iP) iQ⟩
theorem aaD (hh:A.handled=none) (kE:c.H0.StaysIn s₀.heap) (ok:∀s Z,aD c s₀ jH s Z→Ok c k A.in1.in1 s)
 (st:aD c s₀ jH s Z) (hm:s.heap.get? m=some (i0 TI f)) (i7:Z TI=some (cY #[.ref it] 0)) (hit:s.heap.IsListIter it L 0) (aW:∃n,Z L=some {cls:=.type "list",data:=.seq H n}) (nm:s₀.heap.objs.size≤m∧s₀.heap.objs.size≤it) (q1:Z m=none∧Z it=none) (ne:m≠it)
 (FS:au Z H.toList ds) (hl:ds.length≤1000) (hp:∀d∈ds,cu c k f [d] (F d)) (h:∀oY s' Z',aD c s₀ jH s' Z'→au Z' oY (ds.map F)→Q oY s'):wpAny c.M A (collect (.ref m)) Q E s:=by
 have Ie:=cJ hm;have LH:it<s.heap.objs.size:=wS hit fun J e J=>cJ e;unfold collect;refine u8 (wpAny_runValue (mH PySem.F.entry_proto_collect ?_));refine U (nB PySem.F.plain_proto_collect _) ?_;show wpAny _ A.in1 (newList []>>=fun l=>again (.builtin "list.__iadd__" ⟨[l,.ref m],[]⟩)) _ _ s;refine u8 (iS ?_);refine On ⟨G9 KS _,mH PySem.F.entry_list_iadd ?_⟩;refine U (nB KS _) ?_;have wQ:(s.heap.push {cls:=.type "list",data:=.seq ([]:List Value).toArray}).get? m=some (i0 TI f):=bY _ hm;have hT:∀h':Heap,h'.get? m=some (i0 TI f)→({s with heap:=h'}:Shared).TypeIs (.ref m) "map" :=fun h' e=>⟨_,e,rfl⟩;show wpAny _ A.in1 (Builtin.List.listExtendWith (.ref s.heap.objs.size) (.ref m) (.ref s.heap.objs.size)) _ _ _;unfold Builtin.List.listExtendWith;refine u8 (wpAny_typeOf (hT _ wQ) ?_);have h1:Builtin.List.listSameRef (.ref s.heap.objs.size) (.ref m)=false:=by simp[Builtin.List.listSameRef,iE Ie]
 have h2:(Value.type "map" ==Value.type "list")=false:=by decide
 have h3:(Value.type "map" ==Value.type "tuple")=false:=by decide
 simp only[h1,h2,h3,tT,j3,jA];refine u8 (FT (hT _ wQ) K1 (lY K1 (hT _ wQ) VH ?_ (ab7 _)));show wpAny _ _ (ret (.ref m)) _ _ _;refine On ⟨_,rfl,"map",_,hT _ wQ,zG.lookup,?_⟩;refine u8 (b4 ?_);unfold Builtin.List.listLengthHint;refine u8 (xU (hT _ wQ) W3 ?_);show wpAny _ A.in1 (specialOf (Value.ref m) (Str.ofString "__length_hint__")>>=_) _ _ _;refine u8 (xU (hT _ wQ) Yb ?_);refine On ?_;show wpAny _ A.in1 (rule "list.extend.makes-room" >>=fun J=>Builtin.List.listTouch (.ref s.heap.objs.size)>>=fun J=>
  again (.builtin "list.extend.loop" ⟨[.ref s.heap.objs.size,.ref m,.ref s.heap.objs.size],[]⟩)) _ _ _
 refine u8 (pJ ?_);have RG:(s.heap.push {cls:=.type "list",data:=.seq ([]:List Value).toArray}).get? s.heap.objs.size=some {cls:=.type "list",data:=.seq ([]:List Value).toArray}:=d7 _ rfl;refine u8 ?_;show wpAny _ A.in1 (updateSeq s.heap.objs.size (fun x=>x.push .none)>>=fun J=>updateSeq s.heap.objs.size (fun x=>x.pop)) _ _ _;refine u8 (s9 RG rfl ?_);have zT:=kZ (Obj.mapSeq (fun x=>x.push Value.none)) RG rfl;refine s9 zT rfl ?_;have AP:=kZ (Obj.mapSeq (fun x=>x.pop)) zT rfl;have Lb:Z s.heap.objs.size=none:=gR st.sub (aI _);have av:Heap.ExtBut s.heap.objs.size s.heap (((s.heap.push {cls:=.type "list",data:=.seq ([]:List Value).toArray}).update s.heap.objs.size (Obj.mapSeq (fun x=>x.push Value.none))).update s.heap.objs.size (Obj.mapSeq (fun x=>x.pop))):=fun b o hb e=>
  (rE _ _ (bS hb)).trans ((rE _ _ (bS hb)).trans (bY _ e))
 have hsz:s.heap.objs.size≤(((s.heap.push {cls:=.type "list",data:=.seq ([]:List Value).toArray}).update s.heap.objs.size (Obj.mapSeq (fun x=>x.push Value.none))).update s.heap.objs.size (Obj.mapSeq (fun x=>x.pop))).objs.size:=fN (cJ AP);have nV:=st.A9 (t:=s.toks) kE av hsz st.grow.1 Lb (aI _);refine On ⟨G9 C8 _,Yd (F:=F) hh kE ok ds [] _ Z 0 #[] _ ⟨nV,av m _ (fE Ie) hm,i7,hit.extBut av (fE LH),aW,⟨nm.1,nm.2,st.grow.1⟩,⟨q1.1,q1.2,Lb⟩,⟨ne,fE Ie,fE LH⟩⟩ (by refine U yc ?_;exact FS) .nil (by simpa using hl) hp AP fun s' Z' rI n7 a1 a2 iP iQ=>?_⟩;show wpAny _ A (load s.heap.objs.size>>=_) _ _ s';refine u8 (lK a2 ?_);exact On (h _ s' Z' a1 (by simpa using iP))
open PySem.AutoSeq1 (wpAny_loadPart')in
theorem XT (hm:s.heap.get? m=some (i0 TI f))
 (H_:wpAny (model prog w) A.in1 (collect (.ref m)) (fun H s'=>H.length≤1000∧R (.ok (.ret (.ref s'.heap.objs.size))) {s' with heap:=s'.heap.push {cls:=.type "tuple",data:=.seq H.toArray}}) (fun e s'=>R (.error e) s') s):
 wpAny (model prog w) A.in1 (Builtin.«tuple.__new__» ⟨[.type "tuple",.ref m],[]⟩) (fun fin s'=>match fin with| .done f=>R (.ok f) s'| .again n7=>n7.quiet=true∧codeAny (model prog w) A n7 R s') (fun e s'=>R (.error e) s') s:=by
 obtain⟨hp,g,d,tk,os⟩:=s;have hsub:=sub_tuple_self;have zd:=init_tuple_lookup;have VO:=madeHere_tuple;have FS:Heap.get? (Shared.heap ⟨hp,g,d,tk,os⟩) m=some (i0 TI f):=hm;have hT:Shared.TypeIs ⟨hp,g,d,tk,os⟩ (.ref m) "map" :=⟨_,hm,rfl⟩;have VX:∀{wB:List Value→Shared→Prop} {mD:Value→Shared→Prop},((∀H s',(H.length≤1000∧R (.ok (.ret (.ref s'.heap.objs.size))) {s' with heap:=s'.heap.push {cls:=.type "tuple",data:=.seq H.toArray}})→wB H s')∧(∀e s',R (.error e) s'→mD e s'))→wpAny (model prog w) A.in1 (collect (.ref m)) wB mD ⟨hp,g,d,tk,os⟩:=fun x=>d8 H_ x.1 x.2;wp_walk using fB FS,wpAny_typeOf hT,VX;refine⟨fun H s' s5=>?_,fun e s' he=>he⟩;obtain⟨hl,s5⟩:=s5;show wpAny _ _ (Builtin.Tuple.tupleExact H.toArray>>=fun v=>ret v) _ _ _;unfold Builtin.Tuple.tupleExact;refine u8 (iS ?_ (by show H.toArray.size≤sizeLine;refine U jL (U cV ?_);exact Ev ‹_› (by decide)));exact On s5
theorem f8.S0 (hh:c.hd=false) (FS:f8 c (k+1) O Y (.Name "tuple" p) (.val (.type "tuple"))) (hm:f8 c (k+1) O Y (.Name "map" Ao) (.val (.type "map"))) (hf:f8 c (k+1) O Y (.Name n uG) (.val (.ref f))) (he:f8 c (k+1) O Y e (.list ds))
 (hl:ds.length≤1000) (hp:∀d∈ds,cu c k (.ref f) [d] (F d)) (hs:∀V,starEach [e] V=[(false,eval e V)]:=by intro;rfl):f8 c (k+1) O Y (.Call (.Name "tuple" p) [.Call (.Name "map" Ao) [.Name n uG,e] [] ID] [] pos) (.tup (ds.map F)):=by
 intro A V s Z ok r Q E g;have hand:=ok.hand hh;refine rN (FS A V s Z ok r _ _ fun v s₁ aB EQ s5=>?_);refine s5.v ?_;have jK:=ok.step EQ;have r₁:=r.step EQ;show wpAny c.M A (callWith pos (.type "tuple") [] [(false,eval (.Call (.Name "map" Ao) [.Name n uG,e] [] ID) V)] []) Q E s₁;refine l6 (c:=c) ue (yN (vC ?_));refine rN (hm A V s₁ aB jK r₁ _ _ fun v s₂ bA t₂ s5=>?_);refine s5.v ?_;have mh:=jK.step t₂;have r₂:=r₁.step t₂;show wpAny c.M A (callWith ID (.type "map") [] (backTo ID (starEach [.Name n uG,e] V)) []) _ E s₂;refine l6 (c:=c) ue (nQ (.cons hf (.cons he .nil hs) (by intro;rfl)) mh r₂ (fun V=>by show((false,eval (.Name n uG) V)::starEach [e] V).all _=true;rw[hs];rfl) fun H aG eB t₃ bf=>⟨t₃.top,?_⟩);refine fJ (nA bf) fun bk bL s4 h₁ h₂=>?_;subst s4;refine h₁.v ?_;have yy:=r₂.step t₃;have uv:=mh.step t₃;refine h₂.l fun{L xs gv} hz oz=>?_;have l5:=(EQ.trans t₂).trans t₃;refine Dv (Q:=fun obj s'=>wpAny c.M A (spliced []) (fun H s₂=>c.H0.StaysIn s₂.heap∧wpAny c.M A (PySem.call (.type "tuple") ([]++(obj::H)) []) Q E s₂) E s') Up (by decide) (ab5 _ _) (adO _ _) (fun obj=>NF obj _ _) ac6 (aa4 (.ref f) L xs) ⟨⟨_,t₃.sub.get hz,rfl,gv,rfl⟩,⟨_,d7 _ rfl,rfl⟩,?_⟩;have mU:(kH aG.heap L).objs.size=aG.heap.objs.size+1:=eX ..;have vP:(mQ aG.heap L).objs.size=aG.heap.objs.size+2:=by rw[eX,mU]
 have adW:((mQ aG.heap L).push (i0 (kH aG.heap L).objs.size (.ref f))).objs.size=aG.heap.objs.size+3:=by rw[eX,vP]
 have g3:((mQ aG.heap L).push (i0 (kH aG.heap L).objs.size (.ref f))).get? (mQ aG.heap L).objs.size=some (i0 (kH aG.heap L).objs.size (.ref f)):=d7 _ rfl;have g2:((mQ aG.heap L).push (i0 (kH aG.heap L).objs.size (.ref f))).get? (kH aG.heap L).objs.size=some (cY #[.ref aG.heap.objs.size] 0):=bY _ (d7 _ rfl);have g1:((mQ aG.heap L).push (i0 (kH aG.heap L).objs.size (.ref f))).get? aG.heap.objs.size=some {cls:=.type "list_iterator",data:=.fields #[.ref L,.int 0 0]}:=bY _ (bY _ (d7 _ rfl));have hk:∀b o,aG.heap.get? b=some o→((mQ aG.heap L).push (i0 (kH aG.heap L).objs.size (.ref f))).get? b=some o:=fun b o e=>bY _ (bY _ (bY _ e));have zn:∀a,aG.heap.objs.size≤a→eB a=Option.none:=fun a ha=>gR t₃.sub ha;have e1:aG.heap.objs.size≤(kH aG.heap L).objs.size:=by refine U mU ?_;exact b9 _
 have e2:aG.heap.objs.size≤(mQ aG.heap L).objs.size:=by refine U vP ?_;exact bX _ 2
 have Bq:aD c aG eB {aG with heap:=(mQ aG.heap L).push (i0 (kH aG.heap L).objs.size (.ref f))} (eB.put (kH aG.heap L).objs.size (cY #[.ref aG.heap.objs.size] 0)):=
  (aD.keep (t:=aG.toks) t₃.top t₃.sub hk (by refine U adW ?_;exact bX _ 3) (aI _)).DA e1 (zn _ e1) g2 (by simp)
 have le:fS eB (eB.put (kH aG.heap L).objs.size (cY #[.ref aG.heap.objs.size] 0)):=TW.tC (zn _ e1);have n1:(mQ aG.heap L).objs.size≠(kH aG.heap L).objs.size:=by refine U mU (U vP ?_);exact iE (jM _)
 have b6:aG.heap.objs.size≠(kH aG.heap L).objs.size:=by refine U mU ?_;exact fE (jM _)
 have dS:(mQ aG.heap L).objs.size≠aG.heap.objs.size:=by refine U vP ?_;exact iE (O7 (by decide))
 refine wN ⟨Bq.top,?_⟩;refine callType_codes (Q₁:=fun obj s₁=>s₁.TypeIs obj "tuple"∧Q obj s₁) AH (RK _) PySem.F.entry_object_init (zg AH.plain QM (qw (Lk _) (XT g3 (aaD (A:=A.in1.in1) (F:=F) hand t₃.top (fun s Z t=>(uv.step t).in4) Bq g3 (TW.ai ..) ⟨_,g1,rfl,rfl⟩ ⟨gv,le _ _ hz⟩ ⟨e2,aI _⟩ ⟨?_,?_⟩ dS (oz.mono le) hl hp fun oY s' Z' st QF=>⟨?_,⟨_,d7 _ rfl,rfl⟩,?_⟩)))) fun obj s₁ h₁=>⟨h₁.1,PC obj _,?_⟩
 ·exact(Tk n1).trans (zn _ e2)
 ·exact(Tk b6).trans (zn _ (aI _))
 ·rw[QF.length,cj];exact hl
 ·have XN:=l5.trans st;have afw:=XN.trans (aD.push st.top st.sub {cls:=.type "tuple",data:=.seq oY.toArray} rfl (by simp));exact g _ _ _ afw (.tup (TW.ai ..) (by simpa using QF.mono (TW.tC (gR st.sub (aI _)))))
 ·exact PySem.object_init_meets AH.init.lookup AH.made (by decide) c.p c.w A.in1 _ s₁ ⟨h₁.1,rfl,h₁.2⟩
end
end
section
noncomputable def BS (x y:Str):Bool:=decide (x.cps.toList<y.cps.toList)
noncomputable def fj (gt:Bool):List Str→List Str→Bool
 |[],[]=>false
 |[],_::_=>!gt
 |_::_,[]=>gt
 |x::xs,y::ys=>if x==y then fj gt xs ys else if gt then BS y x else BS x y
theorem AW (gt x xs y ys):fj gt (x::xs) (y::ys)=if x==y then fj gt xs ys else if gt then BS y x else BS x y:=rfl
theorem age (gt):fj gt [] []=false:=rfl
theorem agF (gt y ys):fj gt [] (y::ys)= !gt:=rfl
theorem agI (gt y ys):fj gt (y::ys) []=gt:=rfl
theorem adP {gt} {xs ys:List Str} (h:xs=[]∨ys=[]):fj gt xs ys=if gt then decide (xs.length>ys.length)else decide (xs.length<ys.length):=by
 obtain rfl|rfl:=h
 ·rcases ys with _|⟨y,r⟩<;>rcases gt with _|_<;>rfl
 ·rcases xs with _|⟨y,r⟩<;>rcases gt with _|_<;>rfl
theorem aaz {gt} {i:Nat} {xs ys:List Str} (h:xs.drop i=[]∨ys.drop i=[]) (h1:i≤xs.length) (h2:i≤ys.length):fj gt (xs.drop i) (ys.drop i)=if gt then decide (xs.length>ys.length)else decide (xs.length<ys.length):=by
 refine(adP h).trans ?_;simp only[gt_iff_lt,wO,QZ h1,QZ h2]
noncomputable def Pp (gt:Bool):Int:=if gt then 4 else 0
open AutoSeq1 (wpAny_loadPart')in
open PySem.MeetsSeq3 in
set_option maxHeartbeats 1000000 in
theorem MZ (gt) (l b) (items jN) (n b6) (xs ys) (h1:StrsAre items.toList xs) (h2:StrsAre jN.toList ys) (k):
 ∀i:Nat,items.size-i=k→i≤items.size→i≤jN.size→PySem.Meets (Builtin.«list.__eq__.loop» ⟨[.ref l,.ref b,rawInt i,rawInt (Pp gt)],[]⟩)
  (fun J R s=>s.heap.get? l=some {cls:=.type "list",dict:=none,data:=.seq items n,slots:=#[]}∧s.heap.get? b=some {cls:=.type "list",dict:=none,data:=.seq jN b6,slots:=#[]}∧
   R (.ok (.ret (.bool (fj gt (xs.drop i) (ys.drop i))))) s):=by
 have l1:items.size=xs.length:=by refine ZB gP ?_;exact h1.length
 have l2:jN.size=ys.length:=by refine ZB gP ?_;exact h2.length
 have miss:∀(wA:Bool) (i:Nat),items.size-i≥0→i≤items.size→i≤jN.size→(xs[i]?=none∨ys[i]?=none)→PySem.Meets (Builtin.«list.__eq__.loop» ⟨[.ref l,.ref b,rawInt i,rawInt (Pp wA)],[]⟩)
  (fun J R s=>s.heap.get? l=some {cls:=.type "list",dict:=none,data:=.seq items n,slots:=#[]}∧s.heap.get? b=some {cls:=.type "list",dict:=none,data:=.seq jN b6,slots:=#[]}∧
   R (.ok (.ret (.bool (fj wA (xs.drop i) (ys.drop i))))) s):=by
  intro wA i _ tu qZ hm prog w A R s h;obtain⟨hp,g,d,tk,os⟩:=s;obtain⟨hl,hb,h⟩:=h;have e:fj wA (xs.drop i) (ys.drop i)=(if wA then decide (items.size>jN.size)else decide (items.size<jN.size)):=by
   refine U l1 (U l2 ?_);rw[l1]at tu;rw[l2]at qZ;exact aaz (hm.imp (fun h=>E0 (mu.mp h)) fun h=>E0 (mu.mp h)) tu qZ
  rw[e]at h;have QW:items[((i:Nat):Int).toNat]?=none∨jN[((i:Nat):Int).toNat]?=none:=by
   obtain hm|hm:=hm
   ·rw[mu]at hm;left;simp;exact Ev (bT l1) hm
   ·rw[mu]at hm;right;simp;exact Ev (bT l2) hm
  obtain _|_:=wA
  ·wp_walk using fB hl,fB hb;obtain xz|xz:=QW
   ·refine U xz ?_;wp_walk using fB hl,fB hb;exact h
   ·rcases Ch:items[((i:Nat):Int).toNat]? with _|v
    ·wp_walk using fB hl,fB hb;exact h
    ·refine U xz ?_;wp_walk using fB hl,fB hb;exact h
  ·wp_walk using fB hl,fB hb;obtain xz|xz:=QW
   ·refine U xz ?_;wp_walk using fB hl,fB hb;exact h
   ·rcases Ch:items[((i:Nat):Int).toNat]? with _|v
    ·wp_walk using fB hl,fB hb;exact h
    ·refine U xz ?_;wp_walk using fB hl,fB hb;exact h
 induction k with
 |zero=>
  intro i hk tu qZ;exact miss gt i (fz _) tu qZ (.inl (by rw[mu];exact Ev (bT l1.symm) (FF hk)))
 |succ k ih=>
  intro i hk tu qZ;rcases No:ys[i]? with _|y
  ·exact miss gt i (fz _) tu qZ (.inr No)
  have bM:i<xs.length:=lQ (yQ hk) l1;obtain⟨x,hx⟩:∃x,xs[i]?=some x:=⟨xs[i],gh bM⟩;have CB:i<ys.length:=by
   rw[k8]at No;exact No.1
  obtain⟨dz,ab2⟩:=h1.at hx;obtain⟨ty,ae2⟩:=h2.at No;have Cz:items[((i:Nat):Int).toNat]?=some (.str x dz):=by simpa using ab2
  have CL:jN[((i:Nat):Int).toNat]?=some (.str y ty):=by simpa using ae2
  have dx:xs.drop i=x::xs.drop (i+1):=by
   rw[k8]at hx;obtain⟨_,rfl⟩:=hx;exact rJ _
  have TP:ys.drop i=y::ys.drop (i+1):=by
   rw[k8]at No;obtain⟨_,rfl⟩:=No;exact rJ _
  have hc:((i:Int)+1)=((i+1:Nat):Int):=by push_cast;rfl
  intro prog w A R s h;obtain⟨hp,g,d,tk,os⟩:=s;obtain⟨hl,hb,h⟩:=h;rw[dx,TP]at h;obtain _|_:=gt
  ·wp_walk using fB hl,fB hb;refine U Cz (U CL ?_);refine u8 (PM x dz y ty _ _ _ _ ?_);rw[AW]at h;rcases dQ:x==y with _|_
   ·rw[dQ]at h;wp_walk using fB hl,fB hb;refine U Cz (U CL ?_);refine u8 ?_;show wpAny _ _ (compareOp .Lt (.str x dz) (.str y ty)) _ _ _;exact lt_str (On h)
   ·rw[dQ]at h;wp_walk;refine U hc ?_;exact⟨qT plain_eq_loop _,mH entry_eq_loop (by
     refine U (nB plain_eq_loop _) ?_;exact ih (i+1) (cQ Nat.pred hk) (yQ hk) (lQ CB l2.symm) prog w A R _ ⟨hl,hb,by simpa using h⟩)⟩
  ·wp_walk using fB hl,fB hb;refine U Cz (U CL ?_);refine u8 (PM x dz y ty _ _ _ _ ?_);rw[AW]at h;rcases dQ:x==y with _|_
   ·rw[dQ]at h;wp_walk using fB hl,fB hb;refine U Cz (U CL ?_);refine u8 ?_;show wpAny _ _ (compareOp .Gt (.str x dz) (.str y ty)) _ _ _;exact PySem.P.gt_str (On h)
   ·rw[dQ]at h;wp_walk;refine U hc ?_;exact⟨qT plain_eq_loop _,mH entry_eq_loop (by
     refine U (nB plain_eq_loop _) ?_;exact ih (i+1) (cQ Nat.pred hk) (yQ hk) (lQ CB l2.symm) prog w A R _ ⟨hl,hb,by simpa using h⟩)⟩
open AutoSeq1 (wpAny_loadPart')in
open PySem.MeetsSeq3 in
theorem afq (l b) (items jN) (n b6) (xs ys) (h1:StrsAre items.toList xs) (h2:StrsAre jN.toList ys):
 PySem.Meets (Builtin.«list.__lt__» ⟨[.ref l,.ref b],[]⟩)
  (fun J R s=>s.heap.get? l=some {cls:=.type "list",dict:=none,data:=.seq items n,slots:=#[]}∧s.heap.get? b=some {cls:=.type "list",dict:=none,data:=.seq jN b6,slots:=#[]}∧
   R (.ok (.ret (.bool (fj false xs ys)))) s):=by
 intro prog w A R s h;obtain⟨hp,g,d,tk,os⟩:=s;refine b5 h fun hl hb h=>?_;have f3:=AutoSeq1.sub_list_list;wp_walk using fB hl,fB hb;exact⟨qT plain_eq_loop _,mH entry_eq_loop (by
  refine U (nB plain_eq_loop _) ?_;exact MZ false l b items jN n b6 xs ys h1 h2 _ 0 rfl (fz _) (fz _) prog w A R _ ⟨hl,hb,by simpa using h⟩)⟩
open AutoSeq1 (wpAny_loadPart')in
open PySem.MeetsSeq3 in
theorem Sz (l b) (items jN) (n b6) (xs ys) (h1:StrsAre items.toList xs) (h2:StrsAre jN.toList ys):
 PySem.Meets (Builtin.«list.__gt__» ⟨[.ref l,.ref b],[]⟩)
  (fun J R s=>s.heap.get? l=some {cls:=.type "list",dict:=none,data:=.seq items n,slots:=#[]}∧s.heap.get? b=some {cls:=.type "list",dict:=none,data:=.seq jN b6,slots:=#[]}∧
   R (.ok (.ret (.bool (fj true xs ys)))) s):=by
 intro prog w A R s h;obtain⟨hp,g,d,tk,os⟩:=s;refine b5 h fun hl hb h=>?_;have f3:=AutoSeq1.sub_list_list;wp_walk using fB hl,fB hb;exact⟨qT plain_eq_loop _,mH entry_eq_loop (by
  refine U (nB plain_eq_loop _) ?_;exact MZ true l b items jN n b6 xs ys h1 h2 _ 0 rfl (fz _) (fz _) prog w A R _ ⟨hl,hb,by simpa using h⟩)⟩
theorem XG {c:ah} {Z:TW} {A:Around} {s:Shared} {bk bL:Value} {xs ys:List Str} {Q E:Value→Shared→Prop} (sub:Sub Z s.heap) (EQ:aR Z bk (.list (ww xs))) (t₂:aR Z bL (.list (ww ys))) (cW:A.units<9900) (q:Q (.bool (fj false xs ys)) s):
 wpAny c.M A (richCompare .Lt bk bL) Q E s:=by
 refine EQ.l fun h₁ tU=>?_;refine t₂.l fun h₂ tS=>?_;exact richCompare_meets_room (op:=.Lt) ⟨_,sub.get h₁,rfl⟩ ⟨_,sub.get h₂,rfl⟩ PySem.F.slot_list_lt PySem.F.entry_list_lt (PySem.F.args_list_lt_2 _ _) (afq _ _ _ _ _ _ xs ys (vY tU) (vY tS)) ⟨sub.get h₁,sub.get h₂,show Value.bool (fj _ xs ys)≠Value.notImplemented∧Q (.bool (fj _ xs ys)) s from⟨(fun x=>(by injection x)),q⟩⟩ cW
theorem abH {c:ah} {Z:TW} {A:Around} {s:Shared} {bk bL:Value} {xs ys:List Str} {Q E:Value→Shared→Prop} (sub:Sub Z s.heap) (EQ:aR Z bk (.list (ww xs))) (t₂:aR Z bL (.list (ww ys))) (cW:A.units<9900) (q:Q (.bool (fj true xs ys)) s):
 wpAny c.M A (richCompare .Gt bk bL) Q E s:=by
 refine EQ.l fun h₁ tU=>?_;refine t₂.l fun h₂ tS=>?_;exact richCompare_meets_room (op:=.Gt) ⟨_,sub.get h₁,rfl⟩ ⟨_,sub.get h₂,rfl⟩ PySem.F.slot_list_gt PySem.F.entry_list_gt (PySem.F.args_list_gt_2 _ _) (Sz _ _ _ _ _ _ xs ys (vY tU) (vY tS)) ⟨sub.get h₁,sub.get h₂,show Value.bool (fj _ xs ys)≠Value.notImplemented∧Q (.bool (fj _ xs ys)) s from⟨(fun x=>(by injection x)),q⟩⟩ cW
noncomputable def oF (bt:D→D→Bool):D→List D→D
 |b,[]=>b
 |b,d::r=>oF bt (if bt d b then d else b) r
theorem DQ (bt b d r):oF bt b (d::r)=oF bt (if bt d b then d else b) r:=rfl
section
variable {c:ah} {k:Nat} {b₀:D} {ds₀:List D}
noncomputable def MN (nm:String) (op:CmpOp):Builtin:=by
 have e:Builtin.«max.loop»=Builtin.«max.loop»:=rfl;delta Builtin.«max.loop» at e;exact(fun{f:String→CmpOp→Builtin} (_:f "max" .Gt=f "max" .Gt)=>f) e nm op
noncomputable def afu (nm:String):Builtin:=by
 have e:Builtin.max=Builtin.max:=rfl;delta Builtin.max at e;exact(fun{f:String→Builtin} (_:f "max" =f "max")=>f) e nm
theorem W_ {nm id:String} {op:CmpOp} (ent:entryFor table id=some (MN nm op)) (pl:plainId id=true) (xQ:(toString nm++toString ".loop" :String)=id) {A:Around} {R:Result→Shared→Prop} {s₀:Shared} {Z:TW} {bu S L:Addr} {H:Array Value} {n:Nat} (hh:A.handled=none) (aW:Z L=some (pK H n)) (rF:Sub Z s₀.heap) (q2:s₀.heap.objs.size≤bu) (hS:s₀.heap.objs.size≤S) (bg:bu≠S) {bt:D→D→Bool} {P:D→Prop}
 (cmp:∀d cz v v' (s),P d→P cz→Sub Z s.heap→aR Z v d→aR Z v' cz→∀Q E,Q (.bool (bt d cz)) s→wpAny c.M A.in1 (richCompare op v v') Q E s)
 (bE:∀v (h'),(∀a o,s₀.heap.get? a=some o→h'.get? a=some o)→s₀.heap.objs.size≤h'.objs.size→aR Z v (oF bt b₀ ds₀)→R (.ok (.ret v)) {s₀ with heap:=h'}):
 ∀rest h b rC j C5,(∀d∈rest,P d)→P b→oF bt b rest=oF bt b₀ ds₀→au Z (H.toList.drop j) rest→aR Z rC b→(∀a o,s₀.heap.get? a=some o→h.get? a=some o)→s₀.heap.objs.size≤h.objs.size→h.IsListIter bu L j→h.get? S=some (pK #[rC,rC] C5)→
 codeAny c.M A (.builtin id ⟨[.ref bu,.none,.ref S],[]⟩) R {s₀ with heap:=h}:=by
 have B7:∀{a:Addr} {o:Obj},s₀.heap.get? a=some o→a≠bu:=fun e=>fE (fU (cJ e) q2);have CE:∀{a:Addr} {o:Obj},s₀.heap.get? a=some o→a≠S:=fun e=>fE (fU (cJ e) hS);intro rest
 induction rest with
 |nil=>
  intro h b rC j C5 _ _ Ew FS hb hk hz hit su;have EN:=hk _ _ (rF.get aW);refine mH ent ?_;refine U (nB pl _) ?_;show wpAny _ A.in1 (seqItems? (.ref S)>>=_) _ _ _;refine u8 (nC su rfl ?_);show wpAny _ A.in1 (tryCatch (pyNext (.ref bu)) _>>=_) _ _ _;have Ch:H.toList.drop j=[]:=by induction Ch:H.toList.drop j with|nil=>rfl|cons v r'=>rw[Ch]at FS;cases FS
  refine u8 (Bm (h_ (E4 hh hit ⟨_,EN,rfl,n,rfl⟩ (x6 Ch) fun h' x u=>?_)));have hS':=x S _ bg.symm su;show wpAny _ A.in1 (updateSeq S (fun J=>#[])>>=_) _ _ _;refine u8 ?_;refine s9 hS' rfl (u8 (wU (On ?_)));refine bE rC _ (fun a o e=>(rE _ _ (CE e).symm).trans (x a o (B7 e) (hk a o e))) ?_ (Ew▸hb);rw[zN];exact Ev hz u.size
 |cons d rest ih=>
  intro h b rC j C5 lU Mf Ew FS hb hk hz hit su;have EN:=hk _ _ (rF.get aW);refine mH ent ?_;refine U (nB pl _) ?_;show wpAny _ A.in1 (seqItems? (.ref S)>>=_) _ _ _;refine u8 (nC su rfl ?_);show wpAny _ A.in1 (tryCatch (pyNext (.ref bu)) _>>=_) _ _ _;rcases Ch:H.toList.drop j with _|⟨v,r'⟩
  ·rw[Ch]at FS;cases FS
  rw[Ch]at FS;obtain⟨g1,g2⟩:=rR Ch;cases FS with
  |cons t1 fM=>
  refine u8 (Bm (Cr hit ⟨_,EN,rfl,n,rfl⟩ g1 fun h' sj av=>?_));have hS':=(av.2 S bg.symm).trans su;have hk':∀a o,s₀.heap.get? a=some o→h'.get? a=some o:=fun a o e=>(av.2 a (B7 e)).trans (hk a o e);have Aj:Sub Z h':=fun a o e=>⟨hk' a o (rF.get e),(rF a o e).2⟩;have BL:s₀.heap.objs.size≤h'.objs.size:=by refine U av.1 ?_;exact hz
  show wpAny _ A.in1 (tryCatch (holding [v,v] (richCompare op v rC>>=_)) _>>=_) _ _ _;refine u8 (Bm (b4 (u8 (cmp d b v rC _ (lU _ (.head _)) Mf Aj t1 hb _ _ ?_))));refine u8 (b4 (yE ?_));refine u8 (wU (On ?_));rcases NZ:bt d b with _|_
  ·simp only[j3,jA];refine u8 (wU ?_);refine U xQ ?_;refine On ⟨qT pl _,ih _ b rC (j+1) C5 (fun x hx=>lU x (.tail _ hx)) Mf ?_ (by refine U g2 ?_;exact fM) hb hk' BL sj hS'⟩;rw[←Ew,DQ,Tk (by simp[NZ])]
  ·simp only[mC];refine u8 ?_;refine s9 hS' rfl (u8 (wU ?_));refine U xQ ?_;refine On ⟨qT pl _,ih _ d v (j+1) _ (fun x hx=>lU x (.tail _ hx)) (lU _ (.head _)) ?_ (by refine U g2 ?_;exact fM) t1 (fun a o e=>(rE _ _ (CE e).symm).trans (hk' a o e)) (by rw[zN];exact BL) ?_ (kZ _ hS' rfl)⟩
   ·rw[←Ew,DQ,ak NZ]
   ·refine aU sj fun o h1 h2 h3=>?_;exact gg o ((rE _ _ bg.symm).trans h1) h2 h3
theorem M5 {nm id:String} {op:CmpOp} (ent:entryFor table id=some (MN nm op)) (pl:plainId id=true) (xQ:(toString nm++toString ".loop" :String)=id) (kd:builtinKind nm=Option.none) (aeN:plainId nm=true) (aao:entryFor table nm=some (afu nm)) (V8:∀a:Value,argsOk nm {pos:=[a]}) {bt:D→D→Bool} {P:D→Prop} {Q E:Value→Shared→Prop} (hh:A.handled=none) (top:c.H0.StaysIn s.heap) (sub:Sub Z s.heap) (s5:aR Z v (.list (d::ds))) (lU:∀x∈d::ds,P x)
 (cmp:∀d cz v v' (s),P d→P cz→Sub Z s.heap→aR Z v d→aR Z v' cz→∀Q E,Q (.bool (bt d cz)) s→wpAny c.M A.in1 (richCompare op v v') Q E s)
 (g:gk c s Z (oF bt d ds) Q):wpAny c.M A (call (.builtin nm) [v]) Q E s:=by
 cases s5 with
 | @list L H n _ aW hl=>
 refine call_function_tree kd aeN aao (V8 _) ?_;show wpAny _ A.in1 (Builtin.Builtins.bindParams nm ["key","default"] 0 ⟨[],[]⟩>>=_) _ _ s;refine u8 (qw (show Builtin.Builtins.bindParams nm ["key","default"] 0 ⟨[],[]⟩=pure [none,none]from rfl) ?_);refine u8 (On ?_);refine u8 (wI ⟨_,sub.get aW,rfl,_,rfl⟩ ?_);refine u8 (iS ?_);refine U xQ ?_;refine On ⟨qT pl _,?_⟩;obtain⟨hp,Ex,dd,tk,os⟩:=s;have mU:(hp.push {cls:=.type "list_iterator",data:=.fields #[.ref L,.int 0 0]}).objs.size=hp.objs.size+1:=eX ..;have dM:∀a o,hp.get? a=some o→((hp.push {cls:=.type "list_iterator",data:=.fields #[.ref L,.int 0 0]}).push (pK #[] 0)).get? a=some o:=fun a o e=>bY _ (bY _ e);have su:((hp.push {cls:=.type "list_iterator",data:=.fields #[.ref L,.int 0 0]}).push (pK #[] 0)).get? (hp.objs.size+1)=some (pK #[] 0):=by refine ZB mU ?_;exact d7 _ rfl
 have bg:hp.objs.size≠hp.objs.size+1:=fE (jM _);have hit:((hp.push {cls:=.type "list_iterator",data:=.fields #[.ref L,.int 0 0]}).push (pK #[] 0)).IsListIter hp.objs.size L 0:=⟨_,bY _ (d7 _ rfl),rfl,rfl⟩;dsimp only at*;refine U mU ?_;refine mH ent ?_;refine U (nB pl _) ?_;show wpAny _ A.in1 (seqItems? (.ref (hp.objs.size+1))>>=_) _ _ _;refine u8 (nC su rfl ?_);show wpAny _ A.in1 (tryCatch (pyNext (.ref hp.objs.size)) _>>=_) _ _ _;have Ca:au Z (H.toList.drop 0) (d::ds):=hl;rcases Ch:H.toList.drop 0 with _|⟨v,r'⟩
 ·rw[Ch]at Ca;cases Ca
 rw[Ch]at Ca;obtain⟨g1,g2⟩:=rR Ch;cases Ca with
 |cons t1 fM=>
 refine u8 (Bm (Cr hit ⟨_,dM _ _ (sub.get aW),rfl,n,rfl⟩ g1 fun h' sj av=>?_));have hS':=(av.2 _ bg.symm).trans su;have B7:∀{a:Addr} {o:Obj},hp.get? a=some o→a≠hp.objs.size:=fun e=>fE (cJ e);have CE:∀{a:Addr} {o:Obj},hp.get? a=some o→a≠hp.objs.size+1:=fun e=>fE (fU (cJ e) (b9 _));show wpAny _ A.in1 (updateSeq (hp.objs.size+1) (fun J=>#[v,v])>>=_) _ _ _;refine u8 ?_;refine s9 hS' rfl ?_;refine U xQ ?_;have Se:hp.objs.size≤h'.objs.size:=by rw[av.1,eX,mU];exact Ev (b9 _) (b9 _)
 refine On ⟨qT pl _,W_ ent pl xQ (A:=A) (s₀:=⟨hp,Ex,dd,tk,os⟩) (b₀:=d) (ds₀:=ds) (bt:=bt) (P:=P) hh aW sub (aI _) (b9 _) bg cmp (fun v h'' hk hz hb=>?_) ds _ d v 1 _ (fun x hx=>lU x (.tail _ hx)) (lU _ (.head _)) rfl (by refine U g2 ?_;exact fM) t1 (fun a o e=>(rE _ _ (CE e).symm).trans ((av.2 a (B7 e)).trans (dM a o e))) (by rw[zN];exact Se) ?_ (kZ _ hS' rfl)⟩
 ·exact g v _ Z (aD.keep (s:=⟨hp,Ex,dd,tk,os⟩) top sub hk hz (aI _)) hb
 ·refine aU sj fun o h1 h2 h3=>?_;exact gg o ((rE _ _ bg.symm).trans h1) h2 h3
theorem Rt {bt:D→D→Bool} {P:D→Prop} {Q E:Value→Shared→Prop} (hh:A.handled=none) (top:c.H0.StaysIn s.heap) (sub:Sub Z s.heap) (s5:aR Z v (.list (d::ds))) (lU:∀x∈d::ds,P x)
 (cmp:∀d cz v v' (s),P d→P cz→Sub Z s.heap→aR Z v d→aR Z v' cz→∀Q E,Q (.bool (bt d cz)) s→wpAny c.M A.in1 (richCompare .Gt v v') Q E s)
 (g:gk c s Z (oF bt d ds) Q):wpAny c.M A (call (.builtin "max") [v]) Q E s:=
 M5 (op:=.Gt) PySem.F.entry_max_loop PySem.F.plain_max_loop (by decide) PySem.F.kind_max PySem.F.plain_max PySem.F.entry_max PySem.F.args_max1 hh top sub s5 lU cmp g
theorem aaR {bt:D→D→Bool} {P:D→Prop} {Q E:Value→Shared→Prop} (hh:A.handled=none) (top:c.H0.StaysIn s.heap) (sub:Sub Z s.heap) (s5:aR Z v (.list (d::ds))) (lU:∀x∈d::ds,P x)
 (cmp:∀d cz v v' (s),P d→P cz→Sub Z s.heap→aR Z v d→aR Z v' cz→∀Q E,Q (.bool (bt d cz)) s→wpAny c.M A.in1 (richCompare .Lt v v') Q E s)
 (g:gk c s Z (oF bt d ds) Q):wpAny c.M A (call (.builtin "min") [v]) Q E s:=
 M5 (op:=.Lt) PySem.F.entry_min_loop PySem.F.plain_min_loop (by decide) PySem.F.kind_min PySem.F.plain_min PySem.F.entry_min PySem.F.args_min1 hh top sub s5 lU cmp g
end
end
section
noncomputable def yt (i:Nat):List D→List D
 |[]=>[]
 |d::ds=>.tup [.int i,d]::yt (i+1) ds
noncomputable abbrev D7 (it:Addr) (i:Int) (old:Value):Obj:={cls:=.type "enumerate",dict:=none,data:=.fields #[.none,.bool false,.ref it,rawInt i,.none,old],slots:=#[]}
noncomputable abbrev Rp (it:Addr) (i:Int) (old:Value) (a:Addr):Obj:={cls:=.type "enumerate",dict:=none,data:=.fields #[rawInt a,.bool false,.ref it,rawInt i,.none,old],slots:=#[]}
inductive Jd (Z:TW) (l:List D) (e:Addr):cC→Prop
 |mk (it L:Addr) (H:Array Value) (n i:Nat) (old:Value) (jk:Obj) (ds:List D):jk.cls= .type "list_iterator"→jk.data= .fields #[.ref L,.int i 0]→e≠it→Z L=some (pK H n)→au Z (H.toList.drop i) ds→l=yt i ds→Jd Z l e [(e,D7 it i old),(it,jk)]
noncomputable def WW:Expr→Prop
 | .Tuple _ _ _=>True
 |_=>False
theorem dN.tk (x:dN c S s {s with heap:=h'} Z Z') (FS:s.toks≤t):dN c S s {s with heap:=h',toks:=t} Z Z':=
 ⟨x.chg,x.top,x.ext,x.sub,⟨FS,x.up.size⟩,x.fld,⟨_,_,rfl⟩⟩
theorem Rw (h:a≠b) (hc:o.cls= .type n) (M2:n≠"frame") (hd:o.data= .fields H) (jf:o'.cls= .type gv) (g7:gv≠"frame") (hd':o'.data= .fields oY):Rows [(a,o),(b,o')]:=by
 refine⟨by simpa using h,fun p hp=>?_⟩;refine bD hp ?_ fun hp=>?_
 ·exact⟨by refine U hc ?_;simpa using M2,fun x=>by refine U hd ?_;simp⟩
 refine bD hp ?_ fun hp=>?_
 ·exact⟨by refine U jf ?_;simpa using g7,fun x=>by refine U hd' ?_;simp⟩
 ·cases hp
theorem xT:gc h [(a,o),(b,o')]↔h.get? a=some o∧h.get? b=some o':=
 ⟨fun x=>⟨x _ (.head _),x _ (.tail _ (.head _))⟩,fun x p hp=>by
  refine bD hp ?_ fun hp=>?_
  ·exact x.1
  refine bD hp ?_ fun hp=>?_
  ·exact x.2
  cases hp⟩
theorem acB:jX c Jd (fun J=>True) WW where
 mono:=fun le ⟨it,L,H,n,i,old,jk,ds,h2,h3,h4,h5,h6,ia⟩=>⟨it,L,H,n,i,old,jk,ds,h2,h3,h4,le _ _ h5,h6.mono le,ia⟩
 rows:=fun⟨it,L,H,n,i,old,jk,ds,h2,h3,h4,h5,h6,ia⟩=>Rw h4 rfl (by decide) rfl h2 (by decide) h3
 iter:=by
  intro A s Z e os l Q E st Go q;obtain⟨it,L,H,n,i,old,jk,ds,h2,h3,h4,h5,h6,ia⟩:=Go;exact wpAny_pyIter_enum (xT.mp st).1 q
 next:=by
  intro A V s Z O Y e os d l Q E hh r _ cK st Go q;obtain⟨it,L,H,n,i,old,jk,ds,h2,h3,h4,h5,h6,ia⟩:=Go;obtain⟨s1,s2⟩:=xT.mp st;obtain _|⟨cz,ds⟩:=ds
  ·injection ia
  obtain⟨rfl,rfl⟩:=jd ia;rcases Ch:H.toList.drop i with _|⟨v,r'⟩
  ·rw[Ch]at h6;cases h6
  rw[Ch]at h6;obtain⟨g1,g2⟩:=rR Ch;cases h6 with
  |cons t1 fM=>
  have hle:e<s.heap.objs.size:=cJ s1;have af7:it<s.heap.objs.size:=cJ s2;refine wpAny_pyNext_enum_item s1 ⟨jk,s2,h2,h3⟩ ⟨_,r.sub.get h5,rfl,n,rfl⟩ g1 h4 fun h' xd sj hT hsz hk=>?_;refine aU sj fun Ho bK jf hd'=>?_;have VV:Z s.heap.objs.size=none:=gR r.sub (aI _);have le:fS Z (Z.put s.heap.objs.size (cY #[.int i s.toks,v] 0)):=TW.tC VV;have jj:dN c ([(e,D7 it i old),(it,jk)].map Prod.fst) s {s with heap:=h',toks:=s.toks+1} Z (Z.put s.heap.objs.size (cY #[.int i s.toks,v] 0)):=
   (PO r.sub r.top cK rfl hT (by simp) (fun b o hb x=>hk b o (fun y=>hb (by simp[y])) (fun y=>hb (by simp[y])) x) (by refine U hsz ?_;exact b9 _) (fun b o hb x hf=>by
    simp only[aK,sq,a_,eF,g5]at hb;obtain rfl|rfl:=hb
    ·rw[s1]at x;obtain rfl:=bh x;exact absurd rfl (hf.qP _)
    ·rw[s2]at x;obtain rfl:=bh x;exact absurd h3 (hf.qP _))).tk (b9 _)
  refine q _ _ _ [(e,Rp it ((i+1:Nat):Int) v s.heap.objs.size),(it,Ho)] jj rfl (xT.mpr ⟨xd,bK⟩) (Rw h4 rfl (by decide) rfl jf (by decide) hd') (.tup (TW.ai ..) (.cons (.int _ _) (.cons (t1.mono le) .nil))) ?_;intro NV br wB mD tN F4 q';cases br with
  |Tuple elts NQ pos=>
   refine wpAny_letOwnedTupleGo_enum (s:={s with heap:=h',toks:=s.toks+1}) xd fun h'' afH av=>?_;have acT:=F4 (e,Rp it ((i+1:Nat):Int) v s.heap.objs.size) (.head _);exact q' _ [(e,D7 it ((i+1:Nat):Int) v),(it,Ho)] (dN.same (s:={s with heap:=h',toks:=s.toks+1}) jj.top jj.sub acT av (by simp) (aI _) ⟨_,_,xd,rfl⟩) rfl (xT.mpr ⟨afH,(av.2 it h4.symm).trans bK⟩)
    ⟨it,L,H,n,i+1,v,Ho,ds,jf,hd',h4,le _ _ h5,by refine U g2 ?_;exact fM.mono le,rfl⟩
  |_=>exact tN.elim
 fin:=by
  intro A V s Z O Y e os Q E hh r _ cK st Go q;obtain⟨it,L,H,n,i,old,jk,ds,h2,h3,h4,h5,h6,ia⟩:=Go;obtain⟨s1,s2⟩:=xT.mp st;obtain _|⟨cz,ds⟩:=ds
  rotate_left
  ·injection ia
  have Ch:H.toList.drop i=[]:=by cases Ch:H.toList.drop i with|nil=>rfl|cons v r'=>rw[Ch]at h6;cases h6
  exact h_ (wpAny_pyNext_enum_end hh s1 ⟨jk,s2,h2,h3⟩ ⟨_,r.sub.get h5,rfl,n,rfl⟩ (x6 Ch) fun h' x u=>q _ Z (dN.ext' r.top r.sub (cK _ (.tail _ (.head _))) x (by simp) u ⟨jk,_,s2,h3⟩))
section
variable {c:ah} {k:Nat} {O:XV} {Y:B}
theorem bF.enum (hf:f8 c k O Y (.Name "enumerate" p) (.val (.type "enumerate"))) (he:f8 c k O Y e (.list l)) (hs:∀V,starEach [e] V=[(false,eval e V)]:=by intro;rfl):
 bF c k O Y (.Call (.Name "enumerate" p) [e] [] pos) Jd (yt 0 l):=by
 intro A V s Z ok r Q E q;refine rN (hf A V s Z ok r _ E fun v s₁ aB EQ s5=>?_);refine s5.v ?_;show wpAny c.M A (callWith pos (.type "enumerate") [] (backTo pos (starEach [e] V)) []) _ E s₁;refine l6 (c:=c) ue (nQ (.cons he .nil hs) (ok.step EQ) (r.step EQ) (fun V=>by rw[hs];rfl) fun H s₂ bA t₂ bf=>⟨t₂.top,?_⟩);refine wS (iN bf) fun v s4 s5=>?_;subst s4;refine s5.l fun{L xs n} xP hl=>?_;refine call_enumerate_1 (t₂.sub.get xP) fun h' xd sj hsz hk=>?_;refine aU sj fun jk xz hc hd=>?_;have st:=(EQ.trans t₂).trans (aD.keep (t:=s₂.toks) t₂.top t₂.sub hk (by refine U hsz ?_;exact bX _ 2) (aI _));refine wpAny_pyIter_enum (s:={s₂ with heap:=h'}) xd (q _ [(s₂.heap.objs.size+1,D7 s₂.heap.objs.size ((0:Nat):Int) .none),(s₂.heap.objs.size,jk)] _ bA st (xT.mpr ⟨xd,xz⟩) (fun p hp=>?_) ⟨_,_,_,_,0,_,_,_,hc,hd,iE (jM _),xP,hl,rfl⟩);have hz:=(EQ.trans t₂).grow.1;refine bD hp ?_ fun hp=>?_
 ·exact⟨Ev hz (b9 _),gR t₂.sub (b9 _)⟩
 refine bD hp ?_ fun hp=>?_
 ·exact⟨hz,gR t₂.sub (aI _)⟩
 ·cases hp
noncomputable def vW:List D→List Str
 |[]=>[]
 | .str x::r=>x::vW r
 |_::r=>vW r
theorem xN:∀l:List Str,vW (ww l)=l:=fun k7=>by
 induction k7 with
 |nil=>exact rfl
 |cons x l mq=>exact by show x::vW (ww l)=_;exact U ((mq)) rfl
noncomputable def qM (gt:Bool) (d cz:D):Bool:=match d,cz with| .list a,.list b=>fj gt (vW a) (vW b)|_,_=>false
noncomputable def oO (gt:Bool):List Str→List (List Str)→List Str
 |b,[]=>b
 |b,d::r=>oO gt (if fj gt d b then d else b) r
theorem Cd (gt b d r):oO gt b (d::r)=oO gt (if fj gt d b then d else b) r:=rfl
theorem GF (gt):∀(b) (r:List (List Str)),oF (qM gt) (.list (ww b)) (r.map fun x=>.list (ww x))= .list (ww (oO gt b r))
 |b,[]=>rfl
 |b,d::r=>by
  rw[aK,DQ,Cd];have:qM gt (.list (ww d)) (.list (ww b))=fj gt d b:=by unfold qM;dsimp only;rw[xN,xN]
  refine U this ?_;cases fj gt d b<;>exact GF gt _ r
noncomputable def Le (d:D):Prop:=∃xs,d= .list (ww xs)
theorem b8.V5 (hh:c.hd=false):b8 c k O Y (.builtin "max") [.list ((b::r).map fun x=>.list (ww x))] (.list (ww (oO true b r))):=by
 intro A V s Z H ok rd t Q E g;refine wS (iN t) fun v s4 s5=>?_;subst s4;refine Rt (bt:=qM true) (P:=Le) (ok.hand hh) rd.top rd.sub s5 (fun x hx=>?_) ?_ (by rw[GF];exact g)
 ·rw[←aK (f:=fun x=>D.list (ww x))]at hx;refine wS (ao.mp hx) fun y J s4=>?_;subst s4;exact⟨y,rfl⟩
 ·intro _ _ v v' s Go vm sub EQ t₂ Q E q;obtain⟨x,rfl⟩:=Go;obtain⟨y,rfl⟩:=vm;refine abH sub EQ t₂ (by have:=ok.units;show A.units+1<9900;exact CF ‹_› (by decide)) ?_;have e:qM true (.list (ww x)) (.list (ww y))=fj true x y:=by unfold qM;dsimp only;rw[xN,xN]
  rw[e]at q;exact q
theorem b8.TL (hh:c.hd=false):b8 c k O Y (.builtin "min") [.list ((b::r).map fun x=>.list (ww x))] (.list (ww (oO false b r))):=by
 intro A V s Z H ok rd t Q E g;refine wS (iN t) fun v s4 s5=>?_;subst s4;refine aaR (bt:=qM false) (P:=Le) (ok.hand hh) rd.top rd.sub s5 (fun x hx=>?_) ?_ (by rw[GF];exact g)
 ·rw[←aK (f:=fun x=>D.list (ww x))]at hx;refine wS (ao.mp hx) fun y J s4=>?_;subst s4;exact⟨y,rfl⟩
 ·intro _ _ v v' s Go vm sub EQ t₂ Q E q;obtain⟨x,rfl⟩:=Go;obtain⟨y,rfl⟩:=vm;refine XG sub EQ t₂ (by have:=ok.units;show A.units+1<9900;exact CF this (by decide)) ?_;have e:qM false (.list (ww x)) (.list (ww y))=fj false x y:=by unfold qM;dsimp only;rw[xN,xN]
  rw[e]at q;exact q
noncomputable def Gn (d cz:D):Bool:=match d,cz with| .int a,.int b=>decide (b<a)|_,_=>false
noncomputable def jD:Int→List Int→Int
 |b,[]=>b
 |b,d::r=>jD (if b<d then d else b) r
theorem BU (b d r):jD b (d::r)=jD (if b<d then d else b) r:=rfl
theorem SW (b):jD b []=b:=rfl
theorem E9:∀b r,oF Gn (.int b) (r.map .int)= .int (jD b r)
 |b,[]=>rfl
 |b,d::r=>by
  rw[aK,DQ,BU];have:Gn (.int d) (.int b)=decide (b<d):=rfl;refine U this ?_;by_cases h:b<d
  ·rw[ak h,ak (by simpa using h)];exact E9 _ r
  ·rw[Tk h,Tk (by simpa using h)];exact E9 _ r
theorem b8.jD (hh:c.hd=false):b8 c k O Y (.builtin "max") [.list ((b::r).map .int)] (.int (jD b r)):=by
 intro A V s Z H ok rd t Q E g;refine wS (iN t) fun v s4 s5=>?_;subst s4;refine Rt (bt:=Gn) (P:=fun d=>∃i,d= .int i) (ok.hand hh) rd.top rd.sub s5 (fun x hx=>?_) ?_ (by rw[E9];exact g)
 ·rw[←aK (f:=D.int)]at hx;refine wS (ao.mp hx) fun y J s4=>?_;subst s4;exact⟨y,rfl⟩
 ·intro _ _ v v' s Go vm sub EQ t₂ Q E q;obtain⟨x,rfl⟩:=Go;obtain⟨y,rfl⟩:=vm;refine EQ.i fun J=>?_;refine t₂.i fun J=>?_;show wpAny _ _ (compareOp .Gt _ _) _ _ _;exact gt_int q
end
end
noncomputable abbrev rG (es:Array (Int×Value)) (ep:Nat) (pN:SetTable):Obj:={cls:=.type "set",dict:=none,data:=.set es ep pN}
theorem Pq (h:Q 1 {s with toks:=s.toks+1}):wpAny (model prog w) A (pyHash (.bool true)) Q E s:=by
 have hT:s.TypeIs (.bool true) "bool" :=rfl;delta pyHash;have s5:[Value.bool true].any Value.onHeap=false:=rfl;refine u8 ?_;rw[cRoomFor,Tk (by refine U s5 ?_;exact oV)];refine On ?_;refine u8 (xU hT Es.lookup ?_);show wpAny _ _ (if(some (Value.builtin "int.__hash__")==some Value.none)=true then _ else _) Q E s;refine U (Tk (by rw[beq_builtin_none];exact oV)) ?_;refine u8 (xU hT Es.lookup ?_);show wpAny _ _ (callSpecialIfBoundUnlessNone? (.bool true) "__hash__" _>>=_) Q E s;refine u8 (wpAny_callSpecialIfBoundUnlessNone?_slot hT Es
  (lY Es hT entry_int_hash
   (show wpAny _ _ (do ret (←mkInt (rawHash 1))) _ _ s from wpAny_ret_mkInt ?_) (args_int_hash _)))
 have hr:=rawHash_range 1;show wpAny _ _ (if(decide (-(2:Int)^63≤rawHash 1)&&decide (rawHash 1<2^63))=true then _ else _) Q E _;exact U (ak (by rw[w7 hr.1,w7 hr.2];rfl)) (On h)
noncomputable def WR (cL:Bool):Array (Int×Value)×SetTable×Bool×Bool:=layNew (.fresh 0 0 cL) #[] 1 (.bool true)
noncomputable def fh (cL:Bool):SetTable:=(WR cL).2.1
theorem Xi (cL):layNew (.fresh 0 0 cL) #[] 1 (.bool true)=(#[(1,.bool true)],fh cL,false,false):=by cases cL<;>rfl
theorem Eh (cL):(fh cL).plain=true:=by cases cL<;>rfl
theorem DK (cL):((fh cL).place.size !=1||decide ((fh cL).fill>(fh cL).mask))=false:=by cases cL<;>rfl
theorem Tj (cL):(fh cL).tooFull=false:=by cases cL<;>rfl
theorem Wn (ha:s.heap.get? a=some (rG #[] 0 (.fresh 0 0 cL)))
 (h:∀h',h'.get? a=some (rG #[(1,.bool true)] 1 (fh cL))→Heap.SameBut a s.heap h'→Q true {s with heap:=h',toks:=s.toks+1}):wpAny (model prog w) A (setAdd a (.bool true)) Q E s:=by
 delta setAdd;refine b4 (u8 (Pq ?_));unfold setAddHashed setAddHashedIn;refine b4 (u8 ?_);delta setState;refine u8 (lK ha ?_);dsimp only;refine U (Tk (by cases cL<;>decide)) ?_;refine On ?_;dsimp only;refine U (ak (by decide+kernel)) ?_;delta setAddByScan;refine u8 (u8 (pJ ?_));refine u8 (qw (show setScan a (.bool true) 1 true #[]=pure .absent from rfl) ?_);dsimp only;rw[Xi];dsimp only;refine u8 (On ?_);refine U (ak (Eh cL)) ?_;refine u8 (qw (show hashByValue 8 (.bool true)=pure true from rfl) ?_);simp only[mC];delta storeSet;refine u8 (u8 (lK ha ?_));dsimp only;refine U (Tk (by refine U cV ?_;decide)) ?_;refine wpAny_update ha ?_;have e:=kZ (Obj.putSet #[(1,.bool true)] (fh cL)) ha rfl;refine U (Tk (by rw[Tj];decide)) ?_;refine On (On ?_);exact h _ e (nh ..)
theorem SO (h:Q true s):wpAny (model prog w) A (eqBool (.bool true) (.bool true)) Q E s:=by
 delta eqBool;refine b4 ?_;exact U (ak (by decide)) (u8 (pJ (On h)))
theorem abf (ha:s.heap.get? a=some (rG #[(1,.bool true)] ep (fh cL)))
 (h:Q false {s with toks:=s.toks+1}):wpAny (model prog w) A (setAdd a (.bool true)) Q E s:=by
 delta setAdd;refine b4 (u8 (Pq ?_));unfold setAddHashed setAddHashedIn;refine b4 (u8 ?_);have st:∀{R:Array (Int×Value)×Nat×SetTable→Shared→Prop} {E:Value→Shared→Prop},R (#[(1,.bool true)],ep,fh cL) {s with toks:=s.toks+1}→wpAny (model prog w) A (setState a) R E {s with toks:=s.toks+1}:=fun hr=>by
  delta setState;refine u8 (lK ha ?_);dsimp only;exact U (Tk (by show¬(((fh cL).place.size !=1||decide ((fh cL).fill>(fh cL).mask))=true);rw[DK];decide)) (On hr)
 refine st ?_;dsimp only;refine U (ak (by decide+kernel)) ?_;delta setAddByScan;refine u8 (u8 (pJ ?_));show wpAny _ _ (setScanFrom a (.bool true) 1 true [(1,.bool true)] 0>>=_) _ _ _;unfold setScanFrom;refine U (ak (by decide)) ?_;delta setEpoch;refine u8 (u8 (u8 (st (On ?_))));refine u8 (SO ?_);exact On (On (On h))
theorem KU (ha:s.heap.get? a=some o) (hc:o.cls= .type "set")
 (h:wpAny (model prog w) A.in1 (setAdd a x) (fun J s'=>Q .none s') E s):wpAny (model prog w) A (call (.builtin "set.add") [.ref a,x]) Q E s:=by
 have hT:s.TypeIs (.ref a) "set" :=⟨_,ha,hc⟩;refine lY PySem.F.slot_set_add hT PySem.F.entry_set_add ?_ (PySem.F.args_set_add_2 _ _);delta Builtin.«set.add» Builtin.Frozenset.oneOther;simp only[List.isEmpty_nil,bind_assoc];delta Builtin.Frozenset.addrOf;refine u8 (On ?_)
 try dsimp only
 refine u8 (On ?_)
 try dsimp only
 refine u8 (d8 h (fun v s' s5=>On ⟨_,rfl,s5⟩) fun J J e=>e)
theorem ZR:entryFor table "set.__iter__" =some Builtin.«frozenset.__iter__»:=
 entryFor_alias (id':="frozenset.__iter__") (by kernel_rfl) (by first|rfl|decide+kernel|(delta String.splitOn;simp+decide [String.splitOnAux])) (by decide+kernel) (by kernel_rfl)
theorem zp:Slot "set_iterator" "__next__" "set_iterator.__next__" :=
 .of (owner:="set_iterator") (n:="__next__") (by rw[oi,oG];kernel_rfl) (by decide+kernel) (by decide+kernel) (by decide+kernel)
  (by first|exact .inl (by decide+kernel)|exact .inr (by decide+kernel)) (by rw[l_];kernel_rfl)
theorem Kf:entryFor table "set_iterator.__next__" =some Builtin.«set_iterator.__next__»:=z9 (by kernel_rfl)
theorem QB (a):argsOk "set_iterator.__next__" ⟨[a],[]⟩:=by delta argsOk;kernel_rfl
noncomputable abbrev vI (i:Int) (f:Int) (a:Value) (n ep:Int):Obj:={cls:=.type "set_iterator",dict:=none,data:=.fields #[rawInt f,rawInt i,a,rawInt n,rawInt ep],slots:=#[]}
theorem UA (ha:s.heap.get? a=some (rG #[(1,.bool true)] ep (fh cL)))
 (h:Q (.ref s.heap.objs.size) {s with heap:=s.heap.push (vI 0 0 (.ref a) 1 ep)}):wpAny (model prog w) A (pyIter (.ref a)) Q E s:=by
 have hT:s.TypeIs (.ref a) "set" :=⟨_,ha,rfl⟩;refine FT hT Gj (lY Gj hT ZR ?_ (PySem.F.args_set_iter_1 _));have st:∀{M:Model} {A:Around} {R:Array (Int×Value)×Nat×SetTable→Shared→Prop} {E:Value→Shared→Prop},R (#[(1,.bool true)],ep,fh cL) s→wpAny M A (setState a) R E s:=fun hr=>by
  delta setState;refine u8 (lK ha ?_);dsimp only;exact U (Tk (by show¬(((fh cL).place.size !=1||decide ((fh cL).fill>(fh cL).mask))=true);rw[DK];decide)) (On hr)
 unfold Builtin.«frozenset.__iter__» Builtin.Frozenset.slot0;refine u8 (u8 (On (On ?_)));delta Builtin.Frozenset.sizeOf setEntries;refine u8 (u8 (u8 (st (On (On ?_)))));delta setDrawn setsByText;refine u8 (u8 (st ?_));dsimp only;refine u8 (u8 (pZ (On ?_)));refine On ?_;refine U (Tk (by show¬((_&&(!(fh cL).plain&&_))=true);rw[Eh];simp)) ?_;refine u8 (On ?_);delta setEpoch;refine u8 (u8 (st (On ?_)));exact u8 (iS (On ⟨_,rfl,"set_iterator",_,⟨_,d7 _ rfl,rfl⟩,zp.lookup,h⟩))
theorem Zh (ha:s.heap.get? a=some (rG #[(1,.bool true)] ep (fh cL))) (hit:s.heap.get? it=some (vI 0 0 (.ref a) 1 ep)) (bg:a≠it)
 (yD:cL= !(w.params.followText "set-order"))
 (h:∀h' f,h'.get? it=some (vI 1 f (.ref a) 1 ep)→Heap.SameBut it s.heap h'→(w.params.followText "set-order" =false→f=2)→Q (some (.bool true)) {s with heap:=h'}):wpAny (model prog w) A (pyNext (.ref it)) Q E s:=by
 have hT:s.TypeIs (.ref it) "set_iterator" :=⟨_,hit,rfl⟩;have st:∀{M:Model} {A:Around} {R:Array (Int×Value)×Nat×SetTable→Shared→Prop} {E:Value→Shared→Prop},R (#[(1,.bool true)],ep,fh cL) s→wpAny M A (setState a) R E s:=fun hr=>by
  delta setState;refine u8 (lK ha ?_);dsimp only;exact U (Tk (by show¬(((fh cL).place.size !=1||decide ((fh cL).fill>(fh cL).mask))=true);rw[DK];decide)) (On hr)
 delta pyNext;refine u8 (rq (sf (name:=Str.ofString "__next__") hT zp
  (lY zp hT Kf ?_ (QB _))))
 delta Builtin.«set_iterator.__next__»;refine u8 (On ?_);show wpAny _ _ (fieldsOf (.ref it)>>=_) _ _ _;delta fieldsOf;refine u8 (u8 (lK hit (On ?_)));dsimp only[rawInt];delta setEntries;refine u8 (u8 (st (On ?_)));refine U (Tk (by show¬((((1:Nat):Int) !=1)=true);decide)) ?_;delta setNext;refine u8 (u8 (st ?_));delta setsByText;refine u8 (u8 (pZ (On ?_)));have e1:(((ep:Int)).toNat)=ep:=qB ep;have fin:∀next:Nat,(w.params.followText "set-order" =false→next=2)→wpAny (model prog w) A.in1 (do setField (.ref it) 0 (.int next 0);setField (.ref it) 1 (.int (0+1) 0);ret (.bool true)) (fun fin s'=>∃v,fin=PySem.Fin.done (Flow.ret v)∧wpAny (model prog w) A (pure (some v)) Q E s') (fun e s'=>
  wpAny (model prog w) A
   (do
    let ad1←isInstance e (Value.type "StopIteration")
    if ad1=true then pure none else throw e)
   Q E s') s:=by
  intro next XC;refine u8 (sQ hit (by simp) fun h₁ pQ iI=>?_);refine u8 (sQ pQ (by simp) fun h₂ AO sN=>?_);refine On ⟨_,rfl,On (h h₂ next AO ⟨sN.1.trans iI.1,fun b hb=>(sN.2 b hb).trans (iI.2 b hb)⟩ fun q=>by refine U (XC q) ?_;rfl)⟩
 induction hb:w.params.followText "set-order" with
 |true=>
  refine U (ak (show({program:=(model prog w).prog,params:=(model prog w).w.params}:Setting).params.followText "set-order" =true from hb)) (U e1 ?_);dsimp only;refine U (Tk (by simp)) ?_;delta setWalk;refine u8 (u8 (st ?_));delta setsByText;refine u8 (u8 (pZ (On ?_)));refine U (ak (show({program:=(model prog w).prog,params:=(model prog w).w.params}:Setting).params.followText "set-order" =true from hb)) ?_;refine u8 (pZ (On ?_));refine On ?_;have IK:∀f:Nat→Nat,pickOrder f #[((1:Int),Value.bool true)]=#[((1:Int),Value.bool true)]:=fun f=>by
   delta pickOrder;simp[pickOrder.go,Nat.mod_one]
  dsimp only;rw[IK];exact fin 0 fun q=>by rw[hb]at q;injection q
 |false=>
  rw[hb]at yD;have hl:cL=true:=yD;subst hl;refine U (Tk (show¬(({program:=(model prog w).prog,params:=(model prog w).w.params}:Setting).params.followText "set-order" =true)from fun q=>by have q':w.params.followText "set-order" =true:=q;rw[hb]at q';injection q')) ?_;dsimp only;refine U (Tk (by show¬((!(fh true).plain&&_)=true);rw[Eh];simp)) ?_;refine u8 (On ?_);exact On (fin 2 fun J=>rfl)
theorem Uk (hh:A.handled=none) (ha:s.heap.get? a=some (rG #[(1,.bool true)] ep (fh cL))) (hit:s.heap.get? it=some (vI 1 f (.ref a) 1 ep)) (bg:a≠it)
 (yD:cL= !(w.params.followText "set-order")) (hf:w.params.followText "set-order" =false→f=2)
 (h:∀h',Heap.ExtBut it s.heap h'→s.heap.objs.size≤h'.objs.size→Q none {s with heap:=h'}):wpAny (model prog w) A (pyNext (.ref it)) Q E s:=by
 have hT:s.TypeIs (.ref it) "set_iterator" :=⟨_,hit,rfl⟩;have st:∀{M:Model} {A:Around} {R:Array (Int×Value)×Nat×SetTable→Shared→Prop} {E:Value→Shared→Prop},R (#[(1,.bool true)],ep,fh cL) s→wpAny M A (setState a) R E s:=fun hr=>by
  delta setState;refine u8 (lK ha ?_);dsimp only;exact U (Tk (by show¬(((fh cL).place.size !=1||decide ((fh cL).fill>(fh cL).mask))=true);rw[DK];decide)) (On hr)
 refine h_ ?_;delta pyNext;refine u8 (rq (sf (name:=Str.ofString "__next__") hT zp
  (lY zp hT Kf ?_ (QB _))))
 delta Builtin.«set_iterator.__next__»;refine u8 (On ?_);show wpAny _ _ (fieldsOf (.ref it)>>=_) _ _ _;delta fieldsOf;refine u8 (u8 (lK hit (On ?_)));dsimp only[rawInt];delta setEntries;refine u8 (u8 (st (On ?_)));refine U (Tk (by show¬((((1:Nat):Int) !=1)=true);decide)) ?_;have e1:(((ep:Int)).toNat)=ep:=qB ep;refine u8 (d8 (Q:=fun r s'=>r=none∧s'=s) (E:=fun J J=>False) ?_ (fun r s' hr=>?_) fun J J x=>x.elim)
 ·delta setNext;refine u8 (st ?_);delta setsByText;refine u8 (u8 (pZ (On ?_)))
  induction hb:w.params.followText "set-order" with
  |true=>
   refine U (ak (show({program:=(model prog w).prog,params:=(model prog w).w.params}:Setting).params.followText "set-order" =true from hb)) (U e1 ?_);dsimp only;refine U (Tk (by simp)) ?_;delta setWalk;refine u8 (u8 (st ?_));delta setsByText;refine u8 (u8 (pZ (On ?_)));refine U (ak (show({program:=(model prog w).prog,params:=(model prog w).w.params}:Setting).params.followText "set-order" =true from hb)) ?_;refine u8 (pZ (On ?_));have IK:∀f:Nat→Nat,pickOrder f #[((1:Int),Value.bool true)]=#[((1:Int),Value.bool true)]:=fun f=>by
    delta pickOrder;simp[pickOrder.go,Nat.mod_one]
   dsimp only;rw[IK];exact On ⟨rfl,rfl⟩
  |false=>
   rw[hb]at yD;have hl:cL=true:=yD;subst hl;have hf2:=hf hb;subst hf2;refine U (Tk (show¬(({program:=(model prog w).prog,params:=(model prog w).w.params}:Setting).params.followText "set-order" =true)from fun q=>by have q':w.params.followText "set-order" =true:=q;rw[hb]at q';injection q')) ?_;dsimp only;refine U (Tk (by show¬((!(fh true).plain&&_)=true);rw[Eh];simp)) ?_;refine u8 (On ?_);exact On ⟨rfl,rfl⟩
 ·refine Op hr fun s4 eE=>?_;subst s4 eE;refine u8 (sQ hit (by simp) fun h₁ pQ iI=>?_);show wpAny _ _ (newExc (.type "StopIteration") []>>=_) _ _ _;refine u8 ?_;simp only[newExc,newTuple];refine u8 (iS ?_ (by size_fits));refine u8 (m:=firstArgMember _ _) (qw (a:=Value.none) (by first|rfl|(simp only[firstArgMember];rfl)) ?_);refine iS ?_ (by size_fits);delta raiseNew;refine u8 (wpAny_handled ?_);refine U (show A.in1.handled=none from hh) ?_;refine u8 (On (wpAny_throw ?_));refine u8 (F5 (T:="StopIteration") (b:=true) ⟨_,d7 _ rfl,rfl⟩ isSubtype_stop ?_);exact On fun u=>h _ ((iI.extBut.push _).push _) u.size
section
section
variable {c:ah} {k:Nat} {O:XV} {Y:B}
noncomputable abbrev Qw (c:ah):Bool:=!(c.w.params.followText "set-order")
noncomputable abbrev Bt (c:ah):Obj:=rG #[] 0 (.fresh 0 0 (Qw c))
noncomputable abbrev q9 (c:ah) (ep:Nat):Obj:=rG #[(1,.bool true)] ep (fh (Qw c))
theorem Yp (A) (s) (Q E) (h:∀o,o.isFreed=false→(∀Z,eV c Z o (.raw (Bt c)))→Q (.ref s.heap.objs.size) {s with heap:=s.heap.push o}):wpAny c.M A (newSet (.type "set")) Q E s:=by
 delta newSet setsByText;refine u8 (u8 (pZ (On ?_)));exact iS (h _ rfl fun Z=>⟨rfl,by simp⟩)
theorem qo.aeb (he:f8 c k O Y elt (.val (.bool true))):qo c k O Y (fun wP V=>do let v←eval elt V;standAt elt.pos;let _←call (.builtin "set.add") [wP,v]) (.raw (Bt c)) (.raw (q9 c 1)):=by
 intro A V s Z wP sY ok r mo ha Q E q;refine u8 (he A V s Z ok r _ E fun v s₁ aB EQ s5=>?_);refine s5.v ?_;have aq:=EQ.pR mo;refine Op (aq.cells wP _ ha) fun aH K=>?_;refine aU aH fun o xz s4 K=>?_;subst s4;refine u8 (gb ?_);refine u8 (KU xz rfl (Wn xz fun h' bK av=>On ?_));exact q _ aB (aq.trans (aO.put (t:=s₁.toks+1) aq.cells EQ.top EQ.sub (by refine U ha ?_;simp) av bK (fun H=>by simp) ⟨rfl,by simp⟩ (b9 _)))
theorem qo.Ug (he:f8 c k O Y elt (.val (.bool true))):qo c k O Y (fun wP V=>do let v←eval elt V;standAt elt.pos;let _←call (.builtin "set.add") [wP,v]) (.raw (q9 c ep)) (.raw (q9 c ep)):=by
 intro A V s Z wP sY ok r mo ha Q E q;refine u8 (he A V s Z ok r _ E fun v s₁ aB EQ s5=>?_);refine s5.v ?_;have aq:=EQ.pR mo;refine Op (aq.cells wP _ ha) fun aH K=>?_;refine aU aH fun o xz s4 K=>?_;subst s4;refine u8 (gb ?_);refine u8 (KU xz rfl (abf xz (On ?_)));refine q _ aB (aq.trans (aO.put (t:=s₁.toks+1) (h':=s₁.heap) aq.cells EQ.top EQ.sub (by refine U ha ?_;simp) ⟨rfl,fun b K=>rfl⟩ xz (fun H=>by simp) ⟨rfl,by simp⟩ (b9 _)))
variable {J:TW→List D→Addr→cC→Prop} {Src:B→Prop} {elt br iter:Expr} {sc:Scope} {pos:Pos} {items:List D} {ts:List (Str×cZ)} {caps:List (Str×D)} {gs:List (Str×Value)}
theorem VD (hh:c.hd=false) (dg:jX c J Src) (hs:∀x,foldedSetIterable iter V x=pure x)
 (hok:nG sc ts (caps.map Prod.fst) (gs.map Prod.fst)=true) (fQ:∀x∈caps,∃kd,(kd=cZ.aM∨kd= .gC)∧(⟨x.1,kd,some x.2⟩:iF)∈O) (gF:∀x∈gs,gB c.H0 x.1 x.2)
 (hi:bF c k O Y iter J items) (fT:Src Y) (bg:items≠[])
 (turn:∀d∈items,∀os,os.length=ts.length→∀I,bl c (gJ ts os caps gs) I br d fun dJ=>(∃bw,bw.length=ts.length∧dJ=gJ ts bw caps gs)∧f8 c k dJ Y elt (.val (.bool true)))
 (ok:Ok c k A s) (r:bB c Z s.heap V O Y)
 (q:∀wP L s' Z',CompEnd c s Z s' Z' wP L (.raw (q9 c 1))→ya c.M A none Q E (.ref wP) L s'):
 wpAny c.M A (comprehension (.SetComp elt [⟨br,iter,[],0⟩] sc pos) sc V (firstIterPos [⟨br,iter,[],0⟩] pos) (newSet (.type "set")) false (eval iter V) none) Q E s:=by
 refine JG hh dg (emit:=fun wP V=>do let v←eval elt V;standAt elt.pos;let _←call (.builtin "set.add") [wP,v]) (tB:=.raw (Bt c)) rfl hs (fun K K K=>rfl) (fun K K K K=>rfl) (fun K K K K=>rfl) (fun K K K K=>rfl) (fun K K K K=>rfl) hok fQ gF Yp hi fT
  (fun aE NE cl=>∃pre os,items=pre++aE∧os.length=ts.length∧NE=gJ ts os caps gs∧((pre=[]∧cl= .raw (Bt c))∨(pre≠[]∧cl= .raw (q9 c 1)))) ⟨[],kJ ts,rfl,by simp[kJ],rfl,.inl ⟨rfl,rfl⟩⟩ ?_ ok r ?_
 ·intro d rest NE cl Go I;refine jJ Go fun pre os hp xz s4 eT=>?_;subst s4;intro A V s bs Z v uP w FS Q E q;refine turn d (by refine U hp ?_;simp) os xz I A V s bs Z v uP w FS Q E fun dJ s' Z' run cU ⟨⟨bw,bK,e⟩,h2⟩=>q dJ s' Z' run cU ⟨true,eH.nil,fun x=>(by injection x),fun K=>?_⟩;refine⟨.raw (q9 c 1),?_,pre++[d],bw,by refine U hp ?_;simp,bK,e,.inr ⟨by simp,rfl⟩⟩;rcases eT with⟨_,rfl⟩|⟨_,rfl⟩
  ·exact .aeb h2
  ·exact .Ug h2
 ·intro wP L cl s' Z' Go ce;refine t_ Go fun NE pre os hp xz s4 eT=>?_;subst s4;rcases eT with⟨rfl,_⟩|⟨_,rfl⟩
  ·exact absurd hp bg
  ·exact q wP L s' Z' ce
end
end
section
section
variable {c:ah} {k:Nat} {O:XV} {Y:B}
theorem Xh (hh:A.handled=none) (ha:s.heap.get? a=some (q9 c 1))
 (q:∀h',(∀b o,s.heap.get? b=some o→h'.get? b=some o)→s.heap.objs.size≤h'.objs.size→Q [.bool true] {s with heap:=h'}):wpAny c.M A (unpackItems (.ref a) 1 none) Q E s:=by
 have hT:s.TypeIs (.ref a) "set" :=⟨_,ha,rfl⟩;unfold unpackItems;unfold notIterableAtAll;refine u8 (u8 (xU hT Gj.lookup (On ?_)));dsimp only;refine u8 (b4 (UA ha ?_));have Nq:(s.heap.push (vI 0 0 (.ref a) 1 (1:Nat))).get? a=some (q9 c 1):=bY _ ha;have bg:a≠s.heap.objs.size:=fE (cJ ha);refine u8 (b4 (u8 (Zh Nq (d7 _ rfl) bg rfl fun h₁ f hit av hf=>?_)));dsimp only;refine u8 (b4 (On (On ?_)));refine U (Tk (by decide)) ?_;have acn:h₁.get? a=some (q9 c 1):=av.extBut a _ bg Nq;refine u8 (b4 (Uk (s:={s with heap:=h₁}) hh acn hit bg rfl hf fun h₂ hk hs=>?_));refine U (Tk (by decide)) ?_;refine On (q h₂ (fun b o e=>hk b o (fE (cJ e)) (av.extBut b o (fE (cJ e)) (bY _ e))) ?_);have e1:(s.heap.push (vI 0 0 (.ref a) 1 (1:Nat))).objs.size=s.heap.objs.size+1:=eX ..;exact Ev (b9 _) (Ev (bT (e1.symm.trans av.1.symm)) hs)
variable {J:TW→List D→Addr→cC→Prop} {Src:B→Prop} {elt br iter:Expr} {sc:Scope} {items:List D} {ts:List (Str×cZ)} {caps:List (Str×D)} {gs:List (Str×Value)} {Sc:fD→Prop}
theorem FM.afY (hh:c.hd=false) (dg:jX c J Src) (hs:∀V x,foldedSetIterable iter V x=pure x)
 (hok:nG sc ts (caps.map Prod.fst) (gs.map Prod.fst)=true) (fQ:∀x∈caps,∃kd,(kd=cZ.aM∨kd= .gC)∧(⟨x.1,kd,some x.2⟩:iF)∈O) (gF:∀x∈gs,gB c.H0 x.1 x.2)
 (hi:bF c k O Y iter J items) (fT:Src Y) (bg:items≠[])
 (turn:∀d∈items,∀os,os.length=ts.length→∀I,bl c (gJ ts os caps gs) I br d fun dJ=>(∃bw,bw.length=ts.length∧dJ=gJ ts bw caps gs)∧f8 c k dJ Y elt (.val (.bool true)))
 (eW:dX n (.val (.bool true)) O NE) (h:Sc (.next NE Y))
 (Jz:∀V,swapsWithSole [.Tuple [.Name n p] m c_] (.SetComp elt [⟨br,iter,[],0⟩] sc pos') pos.line V=pure false:=by intros;rfl)
 (Xk:∀V,swappedStores [.Tuple [.Name n p] m c_] (.SetComp elt [⟨br,iter,[],0⟩] sc pos') V=pure none:=by intros;rfl):FM c k O Y (.Assign [.Tuple [.Name n p] m c_] (.SetComp elt [⟨br,iter,[],0⟩] sc pos') pos) Sc:=by
 intro A V s bs Z ok w Q E q;have hand:=ok.hand hh;refine Assign_Tuple ?_ (Jz V) (Xk V);show wpAny c.M A (comprehension (.SetComp elt [⟨br,iter,[],0⟩] sc pos') sc V (firstIterPos [⟨br,iter,[],0⟩] pos') (newSet (.type "set")) false (eval iter V) none) _ E s;refine VD hh dg (hs V) hok fQ gF hi fT bg turn ok w.rd fun wP L s₁ aB ce=>?_;refine aP (ce.ns) fun m' M2=>?_;refine⟨m',M2,fun h' ags g7 av=>?_⟩;have qq:=ce.last w.rd.top g7 av;refine aU (qq.obj) fun o xz s4 ku=>?_;subst s4;have st:=qq.step;show wpAny c.M A (PySem.assign (.Tuple [.Name n p] m c_) V (.ref wP)) (fun K=>Q .next) E {s₁ with heap:=h'};rw[arm_assign_Tuple];refine u8 (gb ?_);show wpAny c.M A (holding [.ref wP] (unpackItems (.ref wP) 1 none)>>=fun H=>assignInOrder [PySem.assign (.Name n p) V] H) _ E _;refine u8 (b4 (Xh hand xz fun h₂ hk sN=>?_));have qK:=st.trans (aD.keep (t:=s₁.toks) st.top st.sub hk sN (aI _));have w₂:=w.step qK;refine De (wG (nM w₂ eW (.val _) fun aG af w₃=>assignInOrder_nil ?_));exact q (.next NE Y) .next aG aB ((qK.run Y).trans ⟨af,.refl _,fun K K h=>.inl h,fun K h=>.inl h⟩) w₃ .next h
end
end
section
section
variable {c:ah} {k:Nat} {O:XV} {Y:B} {Sc:fD→Prop}
theorem FM.A1 (hb:wE c k O Y body Sc):FM c k O Y (.Try body (h₀::hs) [] [] pos) Sc:=by
 intro A V s bs Z ok w Q E q;refine wpAny_Try_except (hb A V s bs Z ok w _ _ fun o f s' Z' r cU dG hp=>?_)
 induction dG with
 |next=>exact wpAny_execs_nil (q _ _ s' Z' r cU .next hp)
 |brk=>exact q _ _ s' Z' r cU .brk hp
 |cont=>exact q _ _ s' Z' r cU .cont hp
 |ret t=>exact q _ _ s' Z' r cU (.ret t) hp
theorem dB.tup (hz:l.length≤1000000):dB c k O Y (.tup l) (!l.isEmpty):=by
 intro A V s Z v ok r h Q E g;refine h.t fun{a H n} xP FS=>?_;have e:(!H.isEmpty)=(!l.isEmpty):=by
  have h1:=FS.length;rcases H with⟨H⟩;cases H<;>cases l<;>simp_all
 refine truthy_tuple ⟨_,r.sub.get xP,rfl,_,rfl⟩ (by refine ZB gP (U FS.length ?_);exact qv ‹_›) ?_;exact U e (g _ Z ((aD.refl r.top r.sub).toks (bX _ 2)))
end
end
noncomputable def A2 (y:Str):Bool:=y.length !=0&&y !=oB
noncomputable def gr (p:Str):List Str:=(dh p).filter A2
noncomputable def jE:List Str→List Str→List Str
 |x::xs,y::ys=>if x !=y then []else x::jE xs ys
 |_,_=>[]
theorem wj (x xs y ys):jE (x::xs) (y::ys)=if x !=y then []else x::jE xs ys:=rfl
theorem Y5 (y):jE [] y=[]:=rfl
theorem YS (x xs):jE (x::xs) []=[]:=rfl
theorem R0:∀xs ys:List Str,(jE xs ys).length≤xs.length
 |[],_=>fz _
 |_::_,[]=>fz _
 |x::xs,y::ys=>by
  rw[wj];split
  ·exact fz _
  ·have:=R0 xs ys;simp;assumption
theorem Lf:∀xs ys:List Str,∀z∈jE xs ys,z∈xs
 |[],_,_,h=>by cases h
 |_::_,[],_,h=>by cases h
 |x::xs,y::ys,z,h=>by
  rw[wj]at h;split at h
  ·cases h
  ·refine bD h ?_ fun h=>?_
   ·exact .head _
   ·exact .tail _ (Lf xs ys z h)
noncomputable def lB (p:Str) (ps:List Str):List Str:=oO false (gr p) (ps.map gr)
noncomputable def lA (p:Str) (ps:List Str):List Str:=oO true (gr p) (ps.map gr)
noncomputable def j5 (p:Str) (ps:List Str):Str:=aQ++Txt.join aQ (jE (lB p ps) (lA p ps))
theorem FY (gt):∀(b) (r:List (List Str)),oO gt b r∈b::r
 |b,[]=>.head _
 |b,d::r=>by
  rw[Cd];rcases a_.mp (FY gt (if fj gt d b then d else b) r)with h|h
  ·refine U h ?_;cases fj gt d b
   ·exact .head _
   ·exact .tail _ (.head _)
  ·exact .tail _ (.tail _ h)
inductive MH (s1 s2:List Str) (zI zV:D) (aE:List D) (O:XV) (Y:B):Prop
 |mk (i:Nat) (bU bN:Option D):(aE=yt i (ww (s1.drop i)))→(i≤s1.length)→(Y=B.no)→(s1.take i=s2.take i)→(jE s1 s2=s1.take i++jE (s1.drop i) (s2.drop i))→(O=[⟨"paths",.loc,some zI⟩,⟨"sep",.aM,some (.str aQ)⟩,⟨"curdir",.aM,some (.str oB)⟩,⟨"split_paths",.loc,some zV⟩,⟨"isabs",.loc,some (.val (.bool true))⟩,⟨"c",.loc,bU⟩,⟨"s1",.loc,some (.list (ww s1))⟩,⟨"s2",.loc,some (.list (ww s2))⟩,⟨"common",.loc,some (.list (ww s1))⟩,⟨"i",.loc,bN⟩,⟨"prefix",.loc,none⟩,⟨"tuple",.bz,some (.val (.type "tuple"))⟩,⟨"map",.bz,some (.val (.type "map"))⟩,⟨"fspath",.bz,some (.val (.ref 214))⟩,⟨"isinstance",.bz,some (.val (.builtin "isinstance"))⟩,⟨"bytes",.bz,some (.val (.type "bytes"))⟩,⟨"min",.bz,some (.val (.builtin "min"))⟩,⟨"max",.bz,some (.val (.builtin "max"))⟩,⟨"enumerate",.bz,some (.val (.type "enumerate"))⟩])→MH s1 s2 zI zV aE O Y
theorem aa5 (t:aV c) (M2:ps.length≤10) (hb:∀q∈p::ps,q.length≤1000∧(dh q).length≤300∧(∀y∈dh q,y.length≤1000)∧Txt.startswith q aQ=true)
 (hx:∀i,i<(lB p ps).length→(lB p ps).take i=(lA p ps).take i→i<(lA p ps).length):
 wE c (k+2) (vars [("paths",.loc)] [.list (ww (p::ps))] [("sep",.aM),("curdir",.aM),("split_paths",.loc),("isabs",.loc),("c",.loc),("s1",.loc),("s2",.loc),("common",.loc),("i",.loc),("prefix",.loc)] [("tuple",.type "tuple"),("map",.type "map"),("fspath",.ref 214),("isinstance",.builtin "isinstance"),("bytes",.type "bytes"),("min",.builtin "min"),("max",.builtin "max"),("enumerate",.type "enumerate")]) B.no (gM (bH 21)) (p7 (.str (j5 p ps))):=by
 kst_p
 have hh:=t.hd;have jm:aQ.length=1:=by decide+kernel
 have gi:(ww (p::ps)).length=(p::ps).length:=by simp[ww]
 refine wE.cons (FM.assign (d:=.tup (ww (p::ps))) ?_ (by kd_in) ?_)
 ·have e:ww (p::ps)=(ww (p::ps)).map id:=by simp
  refine U (show D.tup (ww (p::ps))= .tup ((ww (p::ps)).map id)from by rw[←e]) ?_;refine f8.S0 hh (by kd_p) (by kd_p) (by kd_p) (by kd_p) (by refine U gi ?_;simp;exact Ev M2 (by decide)) fun d hd=>?_;refine wS (ao.mp hd) fun q Ch s4=>?_;subst s4;exact Ll t
 refine wE.cons (FM.ifs (b:=false) ((az.not (az.plain (by kd_p) (dB.tup (by refine U gi ?_;simp;exact Ev M2 (by decide))))).to rfl) (fun h=>(by injection h)) fun J=>wE.nil ?_);refine wE.cons (FM.ifs (b:=false) (Jo (x:=p) (by kd_p) (f8.sub (by kd_p) f8.int (Rs.xx (by decide) rfl (by refine U gi ?_;simp;exact Ev M2 (by decide)))) (by kd_p)) (fun h=>(by injection h)) fun J=>?_);refine wE.cons (FM.assign (d:=.str aQ) (by kd_p) (by kd_in) ?_);refine wE.cons (FM.assign (d:=.str oB) (by kd_p) (by kd_in) ?_);refine wE.nil ?_;refine wE.cons (FM.A1 ?_);refine wE.cons (FM.oS hh x_ (caps:=[("sep",.str aQ)]) (gs:=[]) (ts:=[("path",.loc)]) (out:=(p::ps).map fun q=>.list (ww (dh q))) (by intros;rfl) (by dsimp only[List.map];decide+kernel) ?_ cI (bF.tup (l:=ww (p::ps)) (by kd_p)) trivial ?_ (by kd_in) ?_)
 ·intro y No;refine bD No ?_ fun No=>?_
  ·exact⟨.aM,.inl rfl,by walk_at "v"⟩
  ·cases No
 ·have e:(p::ps).map (fun q=>D.list (ww (dh q)))=((p::ps).filter fun J=>true).map (fun q=>.list (ww (dh q))):=by exact U (lz.mpr (by simp)) rfl
  refine U e ?_;exact dR.one (xs:=p::ps) (P:=fun J=>true) (F:=fun q=>.list (ww (dh q))) .str (by simp;exact Ev M2 (by decide)) fun q Ch=>by
   kst_p
   exact⟨eH.nil,fun J=>f8.split (by kd_p) (by kd_p) (by kd_p) (Ev (hb q Ch).1 (by decide))⟩
 refine wE.cons (FM.A1 ?_);refine wE.cons (FM.afY hh x_ (caps:=[("sep",.str aQ)]) (gs:=[]) (ts:=[("p",.loc)]) (by intros;rfl) (by dsimp only[List.map];decide+kernel) ?_ cI (bF.tup (l:=ww (p::ps)) (by kd_p)) trivial (by simp[ww]) ?_ (by kd_in) ?_)
 ·intro y No;refine bD No ?_ fun No=>?_
  ·exact⟨.aM,.inl rfl,by walk_at "v"⟩
  ·cases No
 ·intro d hd os o_ I;refine wS (ao.mp hd) fun q Ch s4=>?_;subst s4
  match os,o_ with
  |[o],_=>
   refine bl.name (dX.head (.inl rfl)) ⟨⟨[some (.str q)],rfl,rfl⟩,?_⟩;show f8 c _ [⟨"p",.loc,some (.str q)⟩,⟨"sep",.gC,some (.str aQ)⟩] _ _ _;exact ZB ((hb q Ch).2.2.2) (f8.startswith (by kd_p) (by kd_p))
 refine wE.nil ?_;have Ri:∀q∈p::ps,(gr q).length≤300∧∀y∈gr q,y.length≤1000:=fun q Ch=>⟨Ev (iD _ _) (hb q Ch).2.1,fun y No=>(hb q Ch).2.2.1 y (cE.mp No).1⟩;refine wE.cons (FM.oS hh gI (caps:=[("curdir",.str oB)]) (gs:=[]) (ts:=[("s",.loc)]) (out:=(p::ps).map fun q=>.list (ww (gr q))) (by intros;rfl) (by dsimp only[List.map];decide+kernel) ?_ cI (bF.list (l:=(p::ps).map fun q=>.list (ww (dh q))) (by kd_p)) trivial ?_ (by kd_in) ?_)
 ·intro y No;refine bD No ?_ fun No=>?_
  ·exact⟨.aM,.inl rfl,by walk_at "v"⟩
  ·cases No
 ·have e:(p::ps).map (fun q=>D.list (ww (gr q)))=((p::ps).filter fun J=>true).map (fun q=>.list (ww (gr q))):=by exact U (lz.mpr (by simp)) rfl
  refine U e ?_;refine dR.one (xs:=p::ps) (P:=fun J=>true) (F:=fun q=>.list (ww (gr q))) (fun q=>.list (ww (dh q))) (by simp;exact Ev M2 (by decide)) fun q Ch=>?_
  kst_p
  refine⟨eH.nil,fun J=>?_⟩;refine f8.mV hh gI (caps:=[("curdir",.str oB)]) (gs:=[]) (ts:=[("c",.loc)]) (out:=ww (gr q)) (by intros;rfl) (by dsimp only[List.map];decide+kernel) ?_ cI (bF.list (l:=ww (dh q)) (by kd_p)) trivial ?_
  ·intro y No;refine bD No ?_ fun No=>?_
   ·exact⟨.gC,.inr rfl,by walk_at "v"⟩
   ·cases No
  ·refine dR.one (xs:=dh q) (P:=A2) (F:=.str) .str (Ev (hb q Ch).2.1 (by decide)) fun y No=>?_
   kst_p
   refine⟨eH.one ?_,fun J=>by kd_p⟩;have hyl:=(hb q Ch).2.2.1 y No;unfold A2;exact ZB (wH (y !=oB)) (az.yl (az.plain (by kd_p) (dB.str (by kd_p))) fun J=>az.yl (az.cmp (by kd_p) (by kd_p) Rs.qj) fun J=>az.OP)
 have Vf:((p::ps).map fun q=>D.list (ww (gr q)))=((gr p::ps.map gr).map fun x=>D.list (ww x)):=by simp[cO]
 refine U Vf ?_;refine wE.cons (FM.assign (d:=.list (ww (lB p ps))) (f8.call (by kd_p) sU (.cons (by kd_p) .nil (by kd_p)) (b8.TL hh) (by kd_p)) (by kd_in) ?_);refine wE.cons (FM.assign (d:=.list (ww (lA p ps))) (f8.call (by kd_p) sU (.cons (by kd_p) .nil (by kd_p)) (b8.V5 hh) (by kd_p)) (by kd_in) ?_);have vc:∃q∈p::ps,lB p ps=gr q:=by
  have:=FY false (gr p) (ps.map gr);rw[←aK]at this;refine wS (ao.mp this) fun q Ch e=>?_;exact⟨q,Ch,e.symm⟩
 have AV:∃q∈p::ps,lA p ps=gr q:=by
  have:=FY true (gr p) (ps.map gr);rw[←aK]at this;refine wS (ao.mp this) fun q Ch e=>?_;exact⟨q,Ch,e.symm⟩
 have l1:(lB p ps).length≤300∧∀y∈lB p ps,y.length≤1000:=by refine wS vc fun q Ch e=>?_;refine U e ?_;exact Ri q Ch
 have l2:(lA p ps).length≤300∧∀y∈lA p ps,y.length≤1000:=by refine wS AV fun q Ch e=>?_;refine U e ?_;exact Ri q Ch
 have vA:j5 p ps=aQ++Txt.join aQ (jE (lB p ps) (lA p ps)):=rfl;generalize lB p ps=s1 at hx l1 vA;generalize lA p ps=s2 at hx l2 vA;refine U vA ?_;clear vc AV vA;have pX:(ww s1).length=s1.length:=by simp[ww]
 have mO:(ww s2).length=s2.length:=by simp[ww]
 refine wE.cons (FM.assign (d:=.list (ww s1)) (by kd_p) (by kd_in) ?_);generalize HO:D.list ((gr p::ps.map gr).map fun x=>D.list (ww x))=zV;generalize N2:D.tup (ww (p::ps))=zI;refine wE.cons (FM.Rd hh acB (items:=yt 0 (ww s1)) (bF.enum (by kd_p) (by kd_p)) (MH s1 s2 zI zV)
  (fun O Y=>∃(bU bN:Option D),Y=B.no∧
   O=[⟨"paths",.loc,some zI⟩,⟨"sep",.aM,some (.str aQ)⟩,⟨"curdir",.aM,some (.str oB)⟩,⟨"split_paths",.loc,some zV⟩,⟨"isabs",.loc,some (.val (.bool true))⟩,⟨"c",.loc,bU⟩,⟨"s1",.loc,some (.list (ww s1))⟩,⟨"s2",.loc,some (.list (ww s2))⟩,⟨"common",.loc,some (.list (ww (jE s1 s2)))⟩,⟨"i",.loc,bN⟩,⟨"prefix",.loc,none⟩,⟨"tuple",.bz,some (.val (.type "tuple"))⟩,⟨"map",.bz,some (.val (.type "map"))⟩,⟨"fspath",.bz,some (.val (.ref 214))⟩,⟨"isinstance",.bz,some (.val (.builtin "isinstance"))⟩,⟨"bytes",.bz,some (.val (.type "bytes"))⟩,⟨"min",.bz,some (.val (.builtin "min"))⟩,⟨"max",.bz,some (.val (.builtin "max"))⟩,⟨"enumerate",.bz,some (.val (.type "enumerate"))⟩])
  ⟨0,none,none,by simp,fz _,rfl,by simp,by simp,rfl⟩ (fun J J J J=>trivial) ?_ ?_ ?_)
 ·intro d rest NE I Go;obtain⟨i,bU,bN,hr,hi,rfl,htk,hl,rfl⟩:=Go;rcases nc:s1.drop i with _|⟨x,xs⟩
  ·rw[nc]at hr;injection hr
  rw[nc]at hr;obtain⟨rfl,rfl⟩:=jd hr;have bM:i<s1.length:=by
   obtain h|h:=vG i s1.length
   ·exact h
   ·rw[E0 h]at nc;injection nc
  have CB:=hx i bM htk;have L0:s1[i]?=some x:=by rw[←BP,nc];rfl
  have Qh:s2[i]?=some (s2[i]):=gh CB;have OM:s2.drop i=s2[i]::s2.drop (i+1):=rJ _;have B_:xs=s1.drop (i+1):=by refine ZB C_ (U nc ?_);rfl
  refine bl.tuple (bl.name (by kd_in) (bl.name (by kd_in) ?_));dsimp only[rX];refine wE.cons (FM.ifs (b:=x !=s2[i]) (az.cmp (by kd_p) (f8.sub (d₂:=.int (i:Nat)) (by kd_p) (by kd_p) (Rs.item aL.list (kG _) (d:=.str s2[i]) ?_ (j7 mO l2.1 (by decide)))) Rs.qj) (fun bg=>?_) fun heq=>wE.nil ?_)
  ·simp[ww,Qh]
  ·refine wE.cons (FM.assign (d:=.list (lF (ww s1) none (some (i:Nat)) none)) (f8.slice (by kd_p) aL.list .none (.some (by kd_p)) .none (by simp) (j7 pX l1.1 (by decide))) (by kd_in) ?_);refine wE.cons (FM.brk ?_);have:lF (ww s1) none (some (i:Nat)) none=ww (jE s1 s2):=by
    rw[P8 (fN (lQ bM pX.symm)),hl,nc,OM,wj,ak bg,fV];simp[ww]
   exact U this (pB _ _ rfl rfl)
  ·refine wE.nil ?_;have Z6:x=s2[i]:=by simpa using heq
   refine⟨i+1,_,_,by refine U B_ ?_;rfl,bM,rfl,?_,?_,rfl⟩
   ·exact U DG (U DG (U L0 (U Qh (U htk (U Z6 rfl)))))
   ·rw[hl,nc,OM,wj,Tk (by simp[heq]),DG,L0,←B_];simp
 ·intro NE I Go;obtain⟨i,bU,bN,hr,hi,rfl,htk,hl,rfl⟩:=Go;rcases nc:s1.drop i with _|⟨x,xs⟩
  rotate_left
  ·rw[nc]at hr;injection hr
  have hle:s1.length≤i:=by
   obtain h|h:=vG i s1.length
   ·have:=rJ h;rw[this]at nc;injection nc
   ·exact h
  have:jE s1 s2=s1:=by refine U hl (U nc (U (xu hle) ?_));simp[wj,Y5,YS]
  exact U this (pB _ _ rfl rfl)
 ·intro NE I Go;obtain⟨bU,bN,rfl,rfl⟩:=Go;refine wE.cons (FM.assign (d:=.str aQ) (f8.Jj (b:=true) (az.plain (by kd_p) dB.bool) (fun J=>by kd_p) (fun h=>(by injection h))) (by kd_in) ?_);have la:=R0 s1 s2;have kU:∀y∈jE s1 s2,y.length≤1000:=fun y No=>l1.2 y (Lf _ _ y No);have hsum:=Fw kU;have v8:(Txt.join aQ (jE s1 s2)).length≤700000:=by
   unfold Txt.join;rw[yx,jm];exact XI la l1.1 hsum
  exact wE.cons (FM.ret (f8.bin (by kd_p) (f8.join (by kd_p) (by kd_p) aL.list (by refine U jm ?_;exact XU la l1.1 hsum)) (Rs.qH (KX v8 jm))) rfl)
theorem YJ (t:aV c) (M2:ps.length≤10) (hb:∀q∈p::ps,q.length≤1000∧(dh q).length≤300∧(∀y∈dh q,y.length≤1000)∧Txt.startswith q aQ=true)
 (hx:∀i,i<(lB p ps).length→(lB p ps).take i=(lA p ps).take i→i<(lA p ps).length):cu c (k+3) (.ref 240) [.list (ww (p::ps))] (.str (j5 p ps)):=
 cu.fn (st:=bH 21) (qual:="commonpath") (dV:=.none) (t.fn rfl rfl rfl rfl) (by kd_p)
  (bC (t.dw (by kd_p) (by kd_p) (by decide)) (bC (t.dw (by kd_p) (by kd_p) (by decide)) (bC (t.glob (by kd_p)) (bC (t.dw (by kd_p) (by kd_p) (by decide)) (bC (t.dw (by kd_p) (by kd_p) (by decide)) (bC (t.dw (by kd_p) (by kd_p) (by decide)) (bC (t.dw (by kd_p) (by kd_p) (by decide)) (bC (t.dw (by kd_p) (by kd_p) (by decide)) cI)))))))) rfl (fun J J=>jg fun J=>rfl) (fun bP=>aa5 (t.at (L:=bP)) M2 hb hx)
noncomputable def e9 (Y I:B):Prop:=∀a,Y a≠none→I a=Y a
theorem e9.refl (Y):e9 Y Y:=fun J J=>rfl
theorem e9.put (h:Y a=none) (x):e9 Y (Y.put a x):=fun b hb=>B.aa _ _ (by rintro rfl;exact hb h)
theorem e9.some (x:e9 Y I) (h:Y a= .some cl):I a= .some cl:=(x a (by refine U h ?_;simp)).trans h
inductive jc (Y:B):List (Str×D)→List (Str×List Str)→Prop
 |nil:jc Y [] []
 |cons {g:Str} {a:Addr} {l:List Str} {r:List (Str×D)} {ws:List (Str×List Str)}:Y a=some (.list (ww l))→jc Y r ws→jc Y ((g,.val (.ref a))::r) ((g,l)::ws)
noncomputable def sI (Y:B) (W:Addr) (ws:List (Str×List Str)):Prop:=∃l,Y W=some (.dict l)∧jc Y l ws
theorem jc.keep (x:e9 Y I) (h:jc Y l ws):jc I l ws:=by
 induction h with
 |nil=>exact .nil
 |cons h _ ih=>exact .cons (x.some h) ih
theorem jc.lists (x:∀b m,Y b=some (.list m)→I b=some (.list m)) (h:jc Y l ws):jc I l ws:=by
 induction h with
 |nil=>exact .nil
 |cons h _ ih=>exact .cons (x _ _ h) ih
theorem sI.keep (x:e9 Y I) (h:sI Y W ws):sI I W ws:=wS h fun l a b=>⟨l,x.some a,b.keep x⟩
theorem jc.keys (h:jc Y l ws):l.map Prod.fst=ws.map Prod.fst:=by
 induction h with
 |nil=>rfl
 |cons _ _ ih=>simp[ih]
noncomputable def j4 (ws:List (Str×List Str)) (g:Str):Option (List Str):=(ws.find? fun x=>x.1=g).map Prod.snd
theorem jc.get (h:jc Y l ws) (e:j4 ws g=some x):∃a,cN l g=some (.val (.ref a))∧Y a=some (.list (ww x)):=by
 induction h with
 |nil=>injection e
 | @cons qg a l r ws h _ ih=>
  unfold j4 at e;unfold cN;rw[rD]at e⊢;by_cases q:qg=g
  ·subst q;simp at e⊢;subst e;exact h
  ·simp[q]at e⊢;refine wS (ih (by unfold j4;simpa using e)) fun b e1 e2=>?_;unfold cN at e1;exact⟨b,by simpa using e1,e2⟩
theorem jc.snoc (h:jc Y l ws) (e:Y a=some (.list (ww x))):jc Y (l++[(g,.val (.ref a))]) (ws++[(g,x)]):=by
 induction h with
 |nil=>exact .cons e .nil
 |cons h _ ih=>exact .cons h ih
theorem Cj (h:k∉l.map Prod.fst):fZ l k d=l++[(k,d)]:=by
 unfold fZ;rw[Tk];simp only[zJ,sV,not_exists,not_and];intro x hx e;exact h (e▸cA hx)
theorem Ys (h:k∉l.map Prod.fst):cN (l++[(k,d)]) k=some d:=by
 unfold cN;rw[List.find?_append];have:l.find? (fun bR=>decide (bR.1=k))=none:=by
  rw[List.find?_eq_none];intro x hx e;exact h (by have:=EX e;exact this▸cA hx)
 refine U this ?_;simp
structure qh (T:Str→Prop):Prop where
 ok:∀q,T q→q.length≤1000∧(dh q).length≤300∧dh q≠[]∧(∀y∈dh q,y.length≤1000)∧Txt.startswith q aQ=true
 idx:∀p ps,T p→(∀q∈ps,T q)→∀i,i<(lB p ps).length→(lB p ps).take i=(lA p ps).take i→i<(lA p ps).length
 shared:∀p ps,T p→(∀q∈ps,T q)→(ps.length=1∨ps.length=2)→j5 p ps=rU p ps
 meets:∀x y,T x→T y→((j5 x [y]==x)||(j5 x [y]==y))=cF x y
noncomputable def pair (x:Str×Str):D:=.tup [.str x.1,.str x.2]
noncomputable def lg (G:List (Str×Str)):List (Str×List Str):=G.map fun x=>(x.2,(G.map Prod.fst).filter fun one=>cF one x.2)
theorem qh.common (dz:qh T) (t:aV c) (hp:T p) (dI:∀q∈ps,T q) (M2:ps.length≤10):cu c (k+3) (.ref 240) [.list (ww (p::ps))] (.str (j5 p ps)):=
 YJ t M2 (fun q Ch=>by
  have h:T q:=by refine bD Ch ?_ fun h=>?_;exact hp;exact dI q h
  refine pU (dz.ok q h) fun a b d e f=>?_;exact sJ a b e f) (dz.idx p ps hp dI)
theorem qh.Qs (dz:qh T) (t:aV c) (hp:T p) (dI:∀q∈ps,T q) (M2:ps.length=1∨ps.length=2):cu c (k+1) (.ref 271) [.list (ww (p::ps))] (.str (j5 p ps)):=by
 refine U (dz.shared p ps hp dI M2) ?_;exact adp t M2 fun q Ch=>by
  have h:T q:=by refine bD Ch ?_ fun h=>?_;exact hp;exact dI q h
  refine pU (dz.ok q h) fun a b d e f=>?_;exact sJ a b d e
inductive Nl (G:List (Str×Str)) (W:Addr) (aJ:B) (aE:List D) (O:XV) (Y:B):Prop
 |mk (i:Nat) (l:List (Str×D)) (bU bN ee cX dF jy uO:Option D):(aE=kQ i (G.length-i))→(i≤G.length)→(Y W=some (.dict l))→(jc Y l ((lg G).take i))→(e9 aJ Y)→(O=[⟨"left",.loc,some (.list (G.map pair))⟩,⟨"ways",.loc,some (.val (.ref W))⟩,⟨"i",.loc,bU⟩,⟨"start",.loc,bN⟩,⟨"goal",.loc,ee⟩,⟨"three",.loc,cX⟩,⟨"one",.loc,dF⟩,⟨"other",.loc,jy⟩,⟨"common",.loc,uO⟩,⟨"range",.bz,some (.val (.type "range"))⟩,⟨"len",.bz,some (.val (.builtin "len"))⟩,⟨"commonpath",.bz,some (.val (.ref 240))⟩,⟨"_law_shared",.bz,some (.val (.ref 271))⟩])→Nl G W aJ aE O Y
inductive N7 (G:List (Str×Str)) (W a:Addr) (l':List (Str×D)) (Y:B) (i:Nat) (x y z:Str×Str) (aE:List D) (O:XV) (I:B):Prop
 |mk (done ay:List (Str×Str)) (dF jy uO:Option D):(aE=ay.map pair)→(G=done++ay)→(I=((Y.put a (some (.list (ww ((done.map Prod.fst).filter fun one=>cF one x.2))))).put W (some (.dict l'))))→(O=[⟨"left",.loc,some (.list (G.map pair))⟩,⟨"ways",.loc,some (.val (.ref W))⟩,⟨"i",.loc,some (.int (i:Nat))⟩,⟨"start",.loc,some (.str x.1)⟩,⟨"goal",.loc,some (.str x.2)⟩,⟨"three",.loc,some (.list (ww [y.1,x.1,z.1]))⟩,⟨"one",.loc,dF⟩,⟨"other",.loc,jy⟩,⟨"common",.loc,uO⟩,⟨"range",.bz,some (.val (.type "range"))⟩,⟨"len",.bz,some (.val (.builtin "len"))⟩,⟨"commonpath",.bz,some (.val (.ref 240))⟩,⟨"_law_shared",.bz,some (.val (.ref 271))⟩])→N7 G W a l' Y i x y z aE O I
theorem ZW (dz:qh T) (t:aV c) (hT:∀x∈G,T x.1∧T x.2) (hl:G.length≤100) (hnd:(G.map Prod.snd).Nodup):
 wE c (k+3) (vars [("left",.loc)] [.list (G.map pair)] [("ways",.loc),("i",.loc),("start",.loc),("goal",.loc),("three",.loc),("one",.loc),("other",.loc),("common",.loc)] [("range",.type "range"),("len",.builtin "len"),("commonpath",.ref 240),("_law_shared",.ref 271)]) aJ (gM (bH 28)) (vg fun d I=>∃W,d= .val (.ref W)∧aJ W=none∧sI I W (lg G)∧e9 aJ I):=by
 kst_p
 have hh:=t.hd;have pn:(G.map pair).length=G.length:=by simp
 have Ck:(G.map pair).length≤1000000:=Ev (bT pn) (Ev hl (by decide));refine wE.cons (FM.iT (aF.newDict fun W rM=>⟨_,by kd_in,?_⟩));refine wE.cons (FM.for hh tL (items:=kQ 0 G.length) (bF.range (by kd_p) ?_ (by kd_p)) (Nl G W aJ)
  ⟨0,[],_,_,_,_,_,_,_,rfl,fz _,B.ai ..,.nil,e9.put rM _,rfl⟩ (fun J J J J=>trivial) ?_ ?_)
 ·exact ZB pn (f8.len (by kd_p) (by kd_p) aL.list Ck)
 ·intro d rest NE Y Go;obtain⟨i,l,bU,bN,ee,cX,dF,jy,uO,hr,hi,rV,r6,iB,rfl⟩:=Go;obtain bM|Sb:=vG i G.length
  case inr=>rw[Nat.sub_eq_zero_of_le Sb]at hr;cases hr
  obtain⟨n,M2⟩:∃n,G.length-i=n+1:=⟨G.length-i-1,LS bM⟩;rw[M2]at hr;cases hr;obtain⟨x,hx⟩:∃x,G[i]?=some x:=⟨G[i],gh bM⟩;have Ui:x∈G:=uy hx;refine Op (hT x Ui) fun ae0 Jy=>?_;have hz:=Nat.zero_lt_of_lt bM;have mod:∀j:Int,∃y∈G,(G.map pair)[(((i:Int)-j).fmod (G.length:Nat)).toNat]?=some (pair y)∧0≤((i:Int)-j).fmod (G.length:Nat):=fun j=>by
   have h2:(((i:Int)-j).fmod (G.length:Nat)).toNat<G.length:=rK hz;exact gg _ (sd h2) (by rw[kF,gh h2];rfl) (CP hz)
  refine aU (mod 1) fun y KP No abR=>?_;refine aU (mod 2) fun z Yc hz Zk=>?_;refine bl.name (by kd_in) ?_;refine wE.cons (FM.A7 hh (d:=pair x) (f8.sub (d₂:=.int (i:Nat)) (by kd_p) (by kd_p) (Rs.item aL.list (kG _) (by simp[hx]) Ck)) ?_);refine bl.tuple (bl.name (by kd_in) (bl.name (by kd_in) ?_));dsimp only[rX];have Q8:∀{O:XV} {p c_ pos:Pos} {s:Str},f8 c (k+3) O Y (.Name "len" p) (.val (.builtin "len"))→f8 c (k+3) O Y (.Name s c_) (.list (G.map pair))→(∀V,starEach [Expr.Name s c_] V=[(false,eval (.Name s c_) V)])→f8 c (k+3) O Y (.Call (.Name "len" p) [.Name s c_] [] pos) (.int (G.length:Nat)):=fun h1 h2 hs=>by
   exact ZB pn (f8.len h1 h2 aL.list Ck hs)
  refine wE.cons (FM.assign (d:=.list (ww [y.1,x.1,z.1])) (f8.list (.cons ?_ (.cons (by kd_p) (.cons ?_ .nil (by kd_p)) (by kd_p)) (by kd_p)) (by simp[ww])) (by kd_in) ?_)
  ·refine f8.sub (d₁:=pair y) (d₂:=.int 0) (f8.sub (by kd_p) (f8.bin (f8.bin (by kd_p) (by kd_p) Rs.PF) (Q8 (by kd_p) (by kd_p) (by kd_p)) (Rs.uN (by exact we ‹_›))) (Rs.item aL.list abR No ‹_›)) f8.int (Rs.xx (by decide) rfl (by simp))
  ·refine f8.sub (d₁:=pair z) (d₂:=.int 0) (f8.sub (by kd_p) (f8.bin (f8.bin (by kd_p) (by kd_p) Rs.PF) (Q8 (by kd_p) (by kd_p) (by kd_p)) (Rs.uN (we (Nat.zero_lt_of_lt bM)))) (Rs.item aL.list Zk hz Ck)) f8.int (Rs.xx (by decide) rfl (by simp))
  have Kv:∀q∈[x.1,z.1],T q:=fun q Ch=>by
   refine bD Ch ?_ fun Ch=>?_
   ·exact ae0
   refine bD Ch ?_ fun Ch=>?_
   ·exact(hT z Yc).1
   cases Ch
  refine wE.cons (FM.ifs (b:=j5 y.1 [x.1,z.1] !=j5 y.1 [x.1,z.1]) (az.cmp (f8.call (by kd_p) (fX (st:=bH 21) (t.fn rfl rfl rfl rfl)) (.cons (by kd_p) .nil (by kd_p)) (cu.r (dz.common t (hT y KP).1 Kv (by simp))) (by kd_p)) (f8.call (by kd_p) (fX (st:=bH 27) (t.fn rfl rfl rfl rfl)) (.cons (by kd_p) .nil (by kd_p)) (cu.r (cu.less (dz.Qs (k:=k) t (hT y KP).1 Kv (.inr rfl)) (bX (k+1) 2))) (by kd_p)) Rs.qj) (fun h=>by simp at h) fun J=>wE.nil ?_);have hg:x.2∉l.map Prod.fst:=by
   refine U r6.keys ?_;unfold lg;refine ZB A4 (U cO ?_);intro hm;refine wS (ao.mp hm) fun mG iC e=>?_;simp only[Function.comp_apply]at e;obtain⟨j,ff,Dg⟩:=List.mem_iff_getElem.mp iC;rw[zy]at ff;rw[List.getElem_take]at Dg;have R1:G[i]=x:=by rw[gh bM]at hx;cases hx;rfl
   have h1:(G.map Prod.snd)[j]?=some x.2:=by rw[kF,gh (fU ff (AU ..)),Dg];simp[e]
   have h2:(G.map Prod.snd)[i]?=some x.2:=by rw[kF,hx];rfl
   have:=(List.getElem?_inj (by simp;exact fU ff (AU ..)) hnd).mp (h1.trans h2.symm);exact fE (fU ff (Nat.min_le_left ..)) this
  have Zz:l.length=i:=by
   have:=cQ List.length r6.keys;simp[lg]at this;exact this.trans (Er hi)
  refine wE.cons (FM.Aa (aF.newList .nil (by simp) fun a ha=>⟨by kd_p,by kd_p,l,?_,Ev (bT Zz) (Ev hi (Ev hl (by decide))),?_⟩))
  ·exact U (B.aa _ _ (by rintro rfl;rw[rV]at ha;cases ha)) rV
  refine U (Cj hg) ?_;have bg:W≠a:=by rintro rfl;rw[rV]at ha;cases ha
  have hdg:=Ys (d:=.val (.ref a)) hg;generalize Cc:l++[(x.2,D.val (.ref a))]=l' at hdg;refine wE.cons (FM.for hh gI (items:=G.map pair) (bF.list (by kd_p)) (N7 G W a l' Y i x y z)
   ⟨[],G,_,_,_,rfl,rfl,rfl,rfl⟩ (fun J J J J=>trivial) ?_ ?_)
  ·intro d rest NE I Go;obtain⟨done,ay,dF,jy,uO,hr,he,rfl,rfl⟩:=Go;obtain _|⟨u,ay⟩:=ay
   ·cases hr
   cases hr;have TJ:u∈G:=by refine U he ?_;simp
   have E5:=(hT u TJ).1;have NX:∀q∈[x.2],T q:=fun q Ch=>by obtain rfl:=fG.mp Ch;exact Jy
   refine bl.tuple (bl.name (by kd_in) (bl.name (by kd_in) ?_));dsimp only[rX];have Qf:∀{O:XV} {Y:B} {s s':Str} {p c_ pos:Pos},f8 c (k+3) O Y (.Name s p) (.str u.1)→f8 c (k+3) O Y (.Name s' c_) (.str x.2)→f8 c (k+3) O Y (.List [.Name s p,.Name s' c_] pos) (.list (ww [u.1,x.2])):=fun h1 h2=>f8.list (.cons h1 (.cons h2 .nil (by kd_p)) (by kd_p)) (by simp[ww]);refine wE.cons (FM.assign (d:=.str (j5 u.1 [x.2])) (f8.call (by kd_p) (fX (st:=bH 21) (t.fn rfl rfl rfl rfl)) (.cons (Qf (by kd_p) (by kd_p)) .nil (by kd_p)) (cu.r (dz.common t E5 NX (by simp))) (by kd_p)) (by kd_in) ?_);refine wE.cons (FM.ifs (b:=j5 u.1 [x.2] !=j5 u.1 [x.2]) (az.cmp (by kd_p) (f8.call (by kd_p) (fX (st:=bH 27) (t.fn rfl rfl rfl rfl)) (.cons (Qf (by kd_p) (by kd_p)) .nil (by kd_p)) (cu.r (cu.less (dz.Qs (k:=k) t E5 NX (.inl rfl)) (bX (k+1) 2))) (by kd_p)) Rs.qj) (fun h=>by simp at h) fun J=>wE.nil ?_);have hfl:∀l:List Str,(l.filter fun one=>cF one x.2).length≤l.length:=fun l=>iD _ _;have TV:done.length≤100:=by rw[he]at hl;simp at hl;exact Ev (bX ..) hl
   refine wE.cons (FM.ifs (b:=cF u.1 x.2) ?_ (fun hm=>?_) fun hm=>wE.nil ?_)
   ·refine ZB (dz.meets u.1 x.2 E5 Jy) ?_;exact ZB (tT (j5 u.1 [x.2]==x.2)) (az.q4 (az.cmp (by kd_p) (by kd_p) Rs.eqStr) fun J=>az.q4 (az.cmp (by kd_p) (by kd_p) Rs.eqStr) fun J=>az.zu)
   ·refine wE.cons (FM.expr (aF.append (a:=a) (l:=ww ((done.map Prod.fst).filter fun one=>cF one x.2)) (d:=.str u.1) (f8.sub (by kd_p) (by kd_p) (Rs.u7 (B.ai ..) hdg)) (by kd_p) ?_ ?_ ?_))
    ·exact U (B.aa _ _ bg.symm) (B.ai ..)
    ·have:=hfl (done.map Prod.fst);simp[ww]at this⊢;exact SM this (Ev TV (by decide))
    refine wE.nil ?_;refine wE.nil ?_;refine⟨done++[u],ay,_,_,_,rfl,by refine U he ?_;simp,?_,rfl⟩;funext b;unfold B.put;by_cases q:b=a
    ·subst q;refine U (ak rfl) (U (Tk bg.symm) (U (ak rfl) ?_));simp[ww,hm]
    ·refine U (Tk q) ?_;by_cases q':b=W
     ·exact U (ak q') (U (ak q') rfl)
     ·exact U (Tk q') (U (Tk q') (U (Tk q) (U (Tk q) rfl)))
   ·refine wE.nil ?_;refine⟨done++[u],ay,_,_,_,rfl,by refine U he ?_;simp,?_,rfl⟩;simp[hm]
  ·intro NE I Go;obtain⟨done,ay,dF,jy,uO,hr,he,rfl,rfl⟩:=Go;obtain _|⟨u,ay⟩:=ay
   rotate_left
   ·cases hr
   rw[fV]at he;subst he;refine wE.nil ?_;refine wE.nil ?_;have dM:∀b,b≠W→Y b≠none→((Y.put a (some (.list (ww ((G.map Prod.fst).filter fun one=>cF one x.2))))).put W (some (.dict l'))) b=Y b:=fun b hb h=>by
    exact U (B.aa _ _ hb) (U (B.aa _ _ (by rintro rfl;exact h ha)) rfl)
   refine⟨i+1,l',_,_,_,_,_,_,_,by refine U (show G.length-(i+1)=n from cQ Nat.pred M2) ?_;rfl,bM,B.ai ..,?_,?_,rfl⟩
   ·rw[DG];have:(lg G)[i]?=some (x.2,(G.map Prod.fst).filter fun one=>cF one x.2):=by unfold lg;rw[kF,hx];rfl
    refine U this ?_
    conv=>arg 2;rw[←Cc]
    refine jc.snoc ?_ ?_
    ·exact r6.lists fun b m hb=>(dM b (by rintro rfl;rw[rV]at hb;cases hb) (by refine U hb ?_;simp)).trans hb
    ·exact U (B.aa _ _ bg.symm) (B.ai ..)
   ·exact fun b hb=>(dM b (by rintro rfl;exact hb rM) (by refine U (iB b hb) ?_;exact hb)).trans (iB b hb)
 ·intro NE Y Go;obtain⟨i,l,bU,bN,ee,cX,dF,jy,uO,hr,hi,rV,r6,iB,rfl⟩:=Go;obtain bM|Sb:=vG i G.length
  ·obtain⟨n,M2⟩:∃n,G.length-i=n+1:=⟨G.length-i-1,LS bM⟩;rw[M2]at hr;cases hr
  refine wE.nil ?_;refine wE.cons (FM.ret (d:=.val (.ref W)) (by kd_p) ?_);refine tG W rfl rM ⟨l,rV,?_⟩ iB;rw[xu (by unfold lg;simp;assumption)]at r6;exact r6
theorem ad7 (dz:qh T) (t:aV c) (hT:∀x∈G,T x.1∧T x.2) (hl:G.length≤100) (hnd:(G.map Prod.snd).Nodup):
 cD c (k+4) (.ref 278) [.list (G.map pair)] aJ (fun d I=>∃W,d= .val (.ref W)∧aJ W=none∧sI I W (lg G)∧e9 aJ I):=
 cD.fn (st:=bH 28) (qual:="_law_ways") (dV:=.none) (t.fn rfl rfl rfl rfl) (by kd_p)
  (bC (t.dw (by kd_p) (by kd_p) (by decide)) (bC (t.dw (by kd_p) (by kd_p) (by decide)) (bC (t.glob (by kd_p)) (bC (t.glob (by kd_p)) cI)))) rfl (fun J J=>.plain rfl (jg fun J=>rfl)) (fun bP A V s bs Z ok w Q E q=>ZW dz (t.at (L:=bP)) hT hl hnd A V s bs Z ok w Q E fun o f s' Z' r cU dG h=>q o f s' Z' r cU dG (by cases o<;>first|exact h|exact h.elim))
section
open PySem.W Builtin
theorem abb:builtinKind "iter" =none:=by decide+kernel
theorem adv:plainId "iter" =true:=by decide+kernel
theorem Vy:entryFor table "iter" =some Builtin.«iter»:=entryFor_of_fast (by kernel_rfl)
theorem afI (a):argsOk "iter" ⟨[a],[]⟩:=by unfold argsOk;kernel_rfl
noncomputable abbrev lP (L:Addr) (i:Nat):Obj:={cls:=.type "list_iterator",data:=.fields #[.ref L,.int i 0]}
noncomputable def ni (c:ah) (k:Nat) (O:XV) (Y:B) (es:List Expr) (aX:List D→B→Prop):Prop:=
 ∀(A:Around) (V:Env) (s:Shared) (Z:TW) (pos:Pos),Ok c k A s→bB c Z s.heap V O Y→∀(Q:List Value→Shared→Prop) (E:Value→Shared→Prop),
  (∀ds I H s' Z',aO c Y s Z I s' Z'→au Z' H ds→aX ds I→Q H s')→wpAny c.M A (spliced (backTo pos (starEach es V))) Q E s
section
variable {c:ah} {k:Nat} {O:XV} {Y:B} {Sc:D→B→Prop}
theorem ni.Lh (h:iA c k O Y es ds) (Ch:aX ds Y):ni c k O Y es aX:=fun A V s Z pos ok x Q E q=>h A V s Z pos ok x Q E fun H s' Z' t s5=>q ds Y H s' Z' (t.after x) s5 Ch
theorem ni.cons (he:aF c k O Y e fun d I=>ni c k O I es fun ds gW=>aX (d::ds) gW)
 (hs:∀V,starEach (e::es) V=(false,eval e V)::starEach es V:=by intro;rfl):ni c k O Y (e::es) aX:=by
 intro A V s Z pos ok x Q E h;rw[hs];show wpAny c.M A (spliced ((false,eval e V)::backTo pos (starEach es V))) Q E s;refine vC (he A V s Z ok x _ E fun d I v s₁ aB EQ s5 hr=>hr A V s₁ aB pos (ok.after EQ) (x.after EQ) _ E fun ds gW H s₂ bA t₂ bf hp=>?_);exact h _ gW _ s₂ bA (EQ.trans t₂) (.cons (s5.mono t₂.le) bf) hp
theorem ni.one (he:aF c k O Y e fun d I=>aX [d] I) (hs:∀V,starEach [e] V=[(false,eval e V)]:=by intro;rfl):ni c k O Y [e] aX:=
 .cons (he.mono fun d I h=>.Lh .nil h) hs
theorem WS (hs:(starEach es V).all (fun y=>!y.1)=true)
 (hp:wpAny c.M A (spliced (backTo pos (starEach es V))) (fun H s'=>Q ⟨H,[]⟩ s') E s):wpAny c.M A (evalArgs f true (backTo pos (starEach es V)) []) Q E s:=by
 revert hp hs;rcases Ch:starEach es V with _|⟨y,r⟩
 ·intro _ hp;unfold evalArgs;show wpAny c.M A (spliced []>>=_) Q E s;refine u8 (d8 hp (fun H s' h'=>?_) fun J J x=>x);refine u8 (On ?_);exact b4 (u8 (On (u8 (On (On h')))))
 ·obtain⟨b,t⟩:=y;intro hs hp;obtain _|_:=b
  ·exact yN hp
  ·simp at hs
theorem aF.Tf {o:Expr} {name:Str} {c9 pos:Pos} {args:List Expr} {d₀:D} {T id:String} (xz:f8 c k O Y o d₀) (hT:kL c O Y d₀ T) (jP:PlainAttrs T) (slot:Slot T name id)
 (Ak:typeOf (.builtin id)=pure (.type "method_descriptor")) (ha:ni c k O Y args fun ds I=>di c k O I (.builtin id) (d₀::ds) Sc)
 (fO:∀V,attributeBase o name V (eval o V)=eval o V:=by intro;rfl)
 (hs:∀V,(starEach args V).all (fun y=>!y.1)=true:=by intro;rfl)
 (ua:∀V,((backTo pos (starEach args V)).all (fun x=>!x.1)&&(backToKw pos (keywordEach [] V)).all (fun x=>x.1.isSome)
  &&decide (args.length+([]:List Keyword).length+(if([]:List Keyword).isEmpty then 0 else 1)<30))=true:=by intro;rfl)
 (f6:(c9.endLine==pos.line)=true:=by rfl):aF c k O Y (.Call (.Attribute o name c9) args [] pos) Sc:=by
 intro A V s Z ok r Q E g;refine zK (fO V) (ua V) f6 (xz A V s Z ok r _ E fun v s₁ aB EQ s5=>?_);refine Op (hT s₁ V aB v (r.step EQ) s5) fun h1 h2=>?_;refine yw T id jP slot Ak h1 h2 ?_;refine l6 (c:=c) (f:=.builtin id) (first:=[v]) (.inl fun a e=>(by injection e)) (WS (hs V) (ha A V s₁ aB pos (ok.step EQ) (r.step EQ) _ E fun ds I H s₂ bA t₂ bf hc=>⟨t₂.top,?_⟩));exact hc A V s₂ bA (v::H) ((ok.step EQ).after t₂) ((r.step EQ).after t₂) (.cons (s5.mono t₂.le) bf) Q E fun d gW v s' Z' aq=>g d gW v s' Z' (((EQ.after r).trans t₂).trans aq)
theorem di.iter (aW:Y L=some (.list l)) (h:∀it,Y it=none→Sc (.val (.ref it)) (Y.put it (some (.raw (lP L 0))))):di c k O Y (.builtin "iter") [.val (.ref L)] Sc:=by
 intro A V s Z H ok r t Q E q;refine wS (iN t) fun v s4 s5=>?_;subst s4;refine s5.v ?_;refine eO (q8 r aW) fun its n xz FS=>?_;refine call_function_any abb adv Vy (afI _) ?_;unfold Builtin.«iter»;refine u8 (qw (a:=[.ref L]) rfl ?_);refine u8 (wI ⟨_,xz,rfl,n,rfl⟩ ?_);exact On (q _ _ _ _ Z (aO.new (t:=s.toks) (cl:=.raw (lP L 0)) (o:=lP L 0) r.cells r.top r.sub rfl ⟨rfl,by simp⟩ (aI _)) (.val _) (h _ (r.fresh (aI _))))
end
end
section
open PySem.W PySem.Calls Builtin Builtin.ObjectAttr
theorem BX:Slot "list_iterator" "__getattribute__" "object.__getattribute__" :=
 .of (owner:="object") (n:="__getattribute__") (by rw[oi,oG];kernel_rfl) (by decide+kernel) (by decide+kernel) (by decide+kernel)
  (by first|exact .inl (by decide+kernel)|exact .inr (by decide+kernel)) (by rw[l_];kernel_rfl)
theorem V9:entryFor table "object.__getattribute__" =some Builtin.«object.__getattribute__»:=z9 (by kernel_rfl)
theorem adS (a b):argsOk "object.__getattribute__" ⟨[a,b],[]⟩:=by delta argsOk;kernel_rfl
theorem FU:Slot "wrapper_descriptor" "__get__" "wrapper_descriptor.__get__" :=
 .of (owner:="wrapper_descriptor") (n:="__get__") (by rw[oi,oG];kernel_rfl) (by decide+kernel) (by decide+kernel) (by decide+kernel)
  (by first|exact .inl (by decide+kernel)|exact .inr (by decide+kernel)) (by rw[l_];kernel_rfl)
theorem aes:entryFor table "wrapper_descriptor.__get__" =some Builtin.«wrapper_descriptor.__get__»:=z9 (by kernel_rfl)
theorem T5 (a b c):argsOk "wrapper_descriptor.__get__" ⟨[a,b,c],[]⟩:=by delta argsOk;kernel_rfl
theorem NN:typeOf (.builtin "list_iterator.__next__")=pure (.type "wrapper_descriptor"):=by show builtinType _=_;refine U builtinType_eq_fast ?_;kernel_rfl
theorem XD:typeLookup (.type "wrapper_descriptor") "__set__" =pure none:=by rw[oi,oG];kernel_rfl
theorem aaN:typeLookup (.type "wrapper_descriptor") "__delete__" =pure none:=by rw[oi,oG];kernel_rfl
theorem Z5:isSubtype (.type "list_iterator") (.type "list_iterator")=pure true:=by rw[l_];kernel_rfl
noncomputable abbrev m7 (it:Addr):Obj:={cls:=.type "method-wrapper",data:=.fields #[.builtin "list_iterator.__next__",.ref it]}
section
variable {prog:Program} {w:World} {A:Around} {E:Value→Shared→Prop} {s:Shared} {it:Addr} {o:Obj} {H:Array Value} {Q:Value→Shared→Prop}
theorem aeA (xz:s.heap.get? it=some o) (hc:o.cls= .type "list_iterator")
 (h:R (.ok (.ret (.ref s.heap.objs.size))) {s with heap:=s.heap.push (m7 it)}):codeAny (model prog w) A (.call (.builtin "wrapper_descriptor.__get__") ⟨[.builtin "list_iterator.__next__",.ref it,yo],[]⟩) R s:=by
 refine zg FU.plain aes (FU.check _ _ _ _ _ _ _ _ NN (T5 _ _ _) ?_);obtain⟨hh,g,d,t,os⟩:=s;have BN:Looks (model prog w) hh (typeOf (.ref it)) (.type "list_iterator"):=hc▸(Looks.ld xz).andThen .now;have A6:Looks (model prog w) hh (isSubtype (.type "list_iterator") (.type "list_iterator")) true:=qJ Z5;have bK:hh.get? it=some o:=xz;delta Builtin.«wrapper_descriptor.__get__»
 repeat lk
 exact h
theorem ae8 (xz:s.heap.get? it=some o) (hc:o.cls= .type "list_iterator") (hd:o.dict=none) (s5:o.data= .fields H)
 (h:Q (.ref s.heap.objs.size) {s with heap:=s.heap.push (m7 it),toks:=s.toks+1}):wpAny (model prog w) A (getAttr (.ref it) "__next__" true) Q E s:=by
 obtain⟨hh,g,d,t,os⟩:=s;obtain⟨zP,od,agG,zx⟩:=o;dsimp only at hc hd s5;subst hc hd s5;have bK:hh.get? it=some ⟨.type "list_iterator",none,.fields H,zx⟩:=xz;have BN:Looks (model prog w) hh (typeOf (.ref it)) (.type "list_iterator"):=(Looks.ld bK).andThen .now;have A6:Looks (model prog w) hh (typeLookup (.type "list_iterator") "__getattribute__") (some (.builtin "object.__getattribute__")):=qJ BX.lookup;delta getAttr getAttrBy;refine u8 (wpAny_mkText (b4 (u8 (BN.at (u8 (A6.at ?_))))));show wpAny _ _ (getAttrByItsOwn _ _ _ _ _ _) _ _ _;delta getAttrByItsOwn;refine u8 (On ?_);refine u8 (rq (b4 ?_));show wpAny _ _ (boundAndCalled _ _ _) _ _ _;delta boundAndCalled;rw[BX.bind];refine u8 (On (oM (zg BX.plain V9 (BX.check _ _ _ _ _ _ _ _ ⟨_,bK,rfl⟩ (adS _ _) ?_))));have ZG:Looks (model prog w) hh (typeLookup (.type "list_iterator") "__next__") (some (.builtin "list_iterator.__next__")):=qJ slot_listiter_next.lookup;have agd:Looks (model prog w) hh (typeOf (.builtin "list_iterator.__next__")) (.type "wrapper_descriptor"):=qJ NN;have agm:Looks (model prog w) hh (typeLookup (.type "wrapper_descriptor") "__get__") (some (.builtin "wrapper_descriptor.__get__")):=qJ FU.lookup;have af9:Looks (model prog w) hh (typeLookup (.type "wrapper_descriptor") "__set__") none:=qJ XD;have agj:Looks (model prog w) hh (typeLookup (.type "wrapper_descriptor") "__delete__") none:=qJ aaN;delta Builtin.«object.__getattribute__»
 repeat(first|with_reducible refine oM ?_|lk)
 exact aeA (s:=⟨hh,g,d,t+1,os⟩) bK rfl (On (On h))
end
theorem aaU (it):checkBoundCall "list_iterator.__next__" ⟨[.ref it],[]⟩=pure ():=by kernel_rfl
theorem ND:plainId "list_iterator.__next__" =true:=by decide+kernel
section
variable {c:ah} {A:Around} {E:Value→Shared→Prop} {s:Shared} {it m:Addr} {Q:Value→Shared→Prop}
theorem Ld (hm:s.heap.get? m=some (m7 it))
 (h:wpAny c.M A.in1 (Builtin.«list_iterator.__next__» ⟨[.ref it],[]⟩) (fun fin s'=>∃v,fin= .done (.ret v)∧Q v s') E s):wpAny c.M A (call (.ref m) []) Q E s:=by
 refine oM (Gx ?_);show wpAny _ _ (callAny (.ref m) _) _ _ _;delta callAny;refine u8 (lK hm ?_);dsimp only;refine U (ak (by decide)) ?_;show wpAny _ _ (checkBoundCall "list_iterator.__next__" ⟨[.ref it],[]⟩>>=_) _ _ _;rw[aaU];refine u8 (On (On ⟨qT ND _,mH entry_listiter_next ?_⟩));refine U (nB ND _) ?_;refine d8 h (fun fin s' aat=>wS aat fun v e q=>?_) fun J J x=>x;subst e;exact q
end
end
section
open PySem.W
structure bQ where
 name:Str
 np:Int
 succ:List Str
structure eG where
 i:Addr
 d:Addr
 l:Addr
noncomputable def jS (Y:B) (a:eG) (n:bQ):Prop:=Y a.i=some (.inst 40 a.d [some (.str n.name),some (.int n.np),some (.val (.ref a.l))])∧Y a.d=some (.attrs [])∧Y a.l=some (.list (ww n.succ))
inductive c6 (Y:B):List eG→List bQ→Prop
 |nil:c6 Y [] []
 |cons {a:eG} {n:bQ} {as:List eG} {ns:List bQ}:jS Y a n→c6 Y as ns→c6 Y (a::as) (n::ns)
noncomputable def iy:List eG→List bQ→List (Str×D)
 |a::as,n::ns=>(n.name,.val (.ref a.i))::iy as ns
 |_,_=>[]
theorem yr (a as n ns):iy (a::as) (n::ns)=(n.name,.val (.ref a.i))::iy as ns:=rfl
theorem Ka:iy [] []=[]:=rfl
noncomputable def gf:List eG→List bQ→Str→Option (eG×bQ)
 |a::as,n::ns,x=>if n.name=x then some (a,n)else gf as ns x
 |_,_,_=>none
theorem m8 (a as n ns x):gf (a::as) (n::ns) x=if n.name=x then some (a,n)else gf as ns x:=rfl
theorem U5 (x):gf [] [] x=none:=rfl
noncomputable def eg:List bQ→Str→Option bQ
 |[],_=>none
 |n::ns,x=>if n.name=x then some n else eg ns x
theorem nL (n ns x):eg (n::ns) x=if n.name=x then some n else eg ns x:=rfl
theorem T6 (x):eg [] x=none:=rfl
noncomputable def eo:List bQ→Str→bQ→List bQ
 |[],_,_=>[]
 |n::ns,x,m=>if n.name=x then m::ns else n::eo ns x m
theorem ud (n ns x m):eo (n::ns) x m=if n.name=x then m::ns else n::eo ns x m:=rfl
theorem vM:∀as ns x,cN (iy as ns) x=(gf as ns x).map fun p=>.val (.ref p.1.i)
 |[],_,x=>rfl
 |_::_,[],x=>rfl
 |a::as,n::ns,x=>by
  rw[yr,m8];unfold cN;rw[rD];by_cases h:n.name=x
  ·simp[h]
  ·refine U (Tk h) ?_;simp only[h,tP];exact vM as ns x
theorem c6.find (h:c6 Y as ns) (e:eg ns x=some n):∃a,gf as ns x=some (a,n)∧a∈as∧jS Y a n∧n.name=x:=by
 induction h with
 |nil=>injection e
 | @cons a m as ns h1 h2 ih=>
  rw[nL]at e;rw[m8];by_cases q:m.name=x
  ·rw[ak q]at e⊢;obtain rfl:=bh e;exact tG a rfl (.head _) h1 q
  ·rw[Tk q]at e⊢;refine d9 (ih e) fun b i1 cR fk uK=>?_;exact tG b i1 (.tail _ cR) fk uK
theorem c6.find_none (h:c6 Y as ns) (e:eg ns x=none):gf as ns x=none:=by
 induction h with
 |nil=>rfl
 | @cons a m as ns h1 h2 ih=>
  rw[nL]at e;rw[m8];by_cases q:m.name=x
  ·rw[ak q]at e;injection e
  ·rw[Tk q]at e⊢;exact ih e
theorem c6.congr (h:c6 Y as ns) (q:∀a∈as,I a.i=Y a.i∧I a.d=Y a.d∧I a.l=Y a.l):c6 I as ns:=by
 induction h with
 |nil=>exact .nil
 | @cons a m as ns h1 h2 ih=>
  refine b5 (q a (.head _)) fun e1 e2 e3=>?_;exact .cons ⟨e1.trans h1.1,e2.trans h1.2.1,e3.trans h1.2.2⟩ (ih fun b hb=>q b (.tail _ hb))
theorem c6.mem (h:c6 Y as ns):∀a∈as,∃n∈ns,jS Y a n:=by
 induction h with
 |nil=>intro a ha;cases ha
 | @cons a m as ns h1 h2 ih=>
  intro b hb;refine bD hb ?_ fun hb=>?_
  ·exact⟨m,.head _,h1⟩
  ·refine wS (ih b hb) fun n M2 e=>?_;exact⟨n,.tail _ M2,e⟩
theorem c6.len (h:c6 Y as ns):as.length=ns.length:=by
 induction h with
 |nil=>rfl
 |cons _ _ ih=>simp[ih]
theorem c6.keys (h:c6 Y as ns):(iy as ns).map Prod.fst=ns.map (fun x=>x.name):=by
 induction h with
 |nil=>rfl
 |cons _ _ ih=>simp[yr,Ka,ih]
theorem c6.yL (h:c6 Y as ns):(iy as ns).length=ns.length:=by
 have:=cQ List.length h.keys;simpa using this
theorem c6.wD (h:c6 Y as ns) (nd:(as.map (fun x=>x.i)).Nodup) (e:gf as ns x=some (a,n)) (v):
 c6 (Y.put a.i (some (.inst 40 a.d [some (.str n.name),some (.int v),some (.val (.ref a.l))]))) as (eo ns x {n with np:=v}):=by
 have main:∀{as:List eG} {ns:List bQ},c6 Y as ns→(as.map (fun x=>x.i)).Nodup→gf as ns x=some (a,n)→c6 (Y.put a.i (some (.inst 40 a.d [some (.str n.name),some (.int v),some (.val (.ref a.l))]))) as (eo ns x {n with np:=v}):=by
  intro as ns h
  induction h with
  |nil=>intro _ e;cases e
  | @cons b m as ns h1 h2 ih=>
   intro nd e;rw[aK,dm]at nd;rw[m8]at e;rw[ud];by_cases q:m.name=x
   ·rw[ak q]at e⊢;cases e;have hd:a.d≠a.i:=by intro z;have:=h1.2.1;rw[z,h1.1]at this;cases this
    have hl:a.l≠a.i:=by intro z;have:=h1.2.2;rw[z,h1.1]at this;cases this
    refine .cons ⟨B.ai ..,(B.aa _ _ hd).trans h1.2.1,(B.aa _ _ hl).trans h1.2.2⟩ (h2.congr fun c hc=>?_);refine wS (h2.mem c hc) fun gv J M2=>?_;have n1:c.i≠a.i:=fun z=>nd.1 (z▸cA hc);have b6:c.d≠a.i:=by intro z;have:=M2.2.1;rw[z,h1.1]at this;cases this
    have dS:c.l≠a.i:=by intro z;have:=M2.2.2;rw[z,h1.1]at this;cases this
    exact⟨B.aa _ _ n1,B.aa _ _ b6,B.aa _ _ dS⟩
   ·rw[Tk q]at e⊢;have ha:a∈as:=by
     have:∀{as:List eG} {ns:List bQ},gf as ns x=some (a,n)→a∈as:=by
      intro as
      induction as with
      |nil=>intro ns e;cases e
      |cons c as ih=>
       intro ns e;obtain _|⟨k,ns⟩:=ns
       ·cases e
       ·rw[m8]at e;by_cases q:k.name=x
        ·rw[ak q]at e;cases e;exact .head _
        ·rw[Tk q]at e;exact .tail _ (ih e)
     exact this e
    refine wS (h2.mem a ha) fun gv J M2=>?_;have n1:b.i≠a.i:=fun z=>nd.1 (z▸cA ha);have b6:b.d≠a.i:=by intro z;have:=h1.2.1;rw[z,M2.1]at this;cases this
    have dS:b.l≠a.i:=by intro z;have:=h1.2.2;rw[z,M2.1]at this;cases this
    exact .cons ⟨(B.aa _ _ n1).trans h1.1,(B.aa _ _ b6).trans h1.2.1,(B.aa _ _ dS).trans h1.2.2⟩ (ih nd.2 e)
 exact main h nd e
theorem c6.IE (h:c6 Y as ns) (nd:(as.map (fun x=>x.l)).Nodup) (e:gf as ns x=some (a,n)) (v):
 c6 (Y.put a.l (some (.list (ww v)))) as (eo ns x {n with succ:=v}):=by
 have main:∀{as:List eG} {ns:List bQ},c6 Y as ns→(as.map (fun x=>x.l)).Nodup→gf as ns x=some (a,n)→c6 (Y.put a.l (some (.list (ww v)))) as (eo ns x {n with succ:=v}):=by
  intro as ns h
  induction h with
  |nil=>intro _ e;cases e
  | @cons b m as ns h1 h2 ih=>
   intro nd e;rw[aK,dm]at nd;rw[m8]at e;rw[ud];by_cases q:m.name=x
   ·rw[ak q]at e⊢;cases e;have hi:a.i≠a.l:=by intro z;have:=h1.1;rw[z,h1.2.2]at this;cases this
    have hd:a.d≠a.l:=by intro z;have:=h1.2.1;rw[z,h1.2.2]at this;cases this
    refine .cons ⟨(B.aa _ _ hi).trans h1.1,(B.aa _ _ hd).trans h1.2.1,B.ai ..⟩ (h2.congr fun c hc=>?_);refine wS (h2.mem c hc) fun gv J M2=>?_;have n1:c.i≠a.l:=by intro z;have:=M2.1;rw[z,h1.2.2]at this;cases this
    have b6:c.d≠a.l:=by intro z;have:=M2.2.1;rw[z,h1.2.2]at this;cases this
    have dS:c.l≠a.l:=fun z=>nd.1 (z▸cA hc);exact⟨B.aa _ _ n1,B.aa _ _ b6,B.aa _ _ dS⟩
   ·rw[Tk q]at e⊢;have ha:a∈as:=by
     have:∀{as:List eG} {ns:List bQ},gf as ns x=some (a,n)→a∈as:=by
      intro as
      induction as with
      |nil=>intro ns e;cases e
      |cons c as ih=>
       intro ns e;obtain _|⟨k,ns⟩:=ns
       ·cases e
       ·rw[m8]at e;by_cases q:k.name=x
        ·rw[ak q]at e;cases e;exact .head _
        ·rw[Tk q]at e;exact .tail _ (ih e)
     exact this e
    refine wS (h2.mem a ha) fun gv J M2=>?_;have n1:b.i≠a.l:=by intro z;have:=h1.1;rw[z,M2.2.2]at this;cases this
    have b6:b.d≠a.l:=by intro z;have:=h1.2.1;rw[z,M2.2.2]at this;cases this
    have dS:b.l≠a.l:=fun z=>nd.1 (z▸cA ha);exact .cons ⟨(B.aa _ _ n1).trans h1.1,(B.aa _ _ b6).trans h1.2.1,(B.aa _ _ dS).trans h1.2.2⟩ (ih nd.2 e)
 exact main h nd e
theorem c6.snoc (h:c6 Y as ns) (e:jS Y a n):c6 Y (as++[a]) (ns++[n]):=by
 induction h with
 |nil=>exact .cons e .nil
 |cons h _ ih=>exact .cons h ih
theorem aej (h:c6 Y as ns) (a) (n):iy (as++[a]) (ns++[n])=iy as ns++[(n.name,.val (.ref a.i))]:=by
 induction h with
 |nil=>rfl
 |cons h _ ih=>simp[yr,Ka,ih]
theorem EZ:∀{as:List eG} {ns ms:List bQ},ns.map (fun x=>x.name)=ms.map (fun x=>x.name)→iy as ns=iy as ms
 |[],_,_,_=>rfl
 |_::_,[],[],_=>rfl
 |_::_,[],_::_,h=>by simp at h
 |_::_,_::_,[],h=>by simp at h
 |a::as,n::ns,m::ms,h=>by
  simp only[aK,vL]at h;rw[yr];exact U h.1 (U (EZ (as:=as) h.2) rfl)
theorem xX:∀{ns:List bQ} {x:Str} {n m:bQ},eg ns x=some n→m.name=n.name→(eo ns x m).map (fun x=>x.name)=ns.map (fun x=>x.name)
 |[],_,_,_,h,_=>by injection h
 |k::ns,x,n,m,h,e=>by
  rw[nL]at h;rw[ud];by_cases q:k.name=x
  ·rw[ak q]at h⊢;obtain rfl:=bh h;simp[e]
  ·rw[Tk q]at h⊢;simp[xX h e]
structure St where
 nodes:List bQ
 ready:Option (List Str)
 j_:Int
 fin:Int
structure b3 where
 iu:Addr
 N:Addr
 as:List eG
 rs:List Addr
noncomputable def b3.foot (y:b3) (S:Addr):List Addr:=S::y.iu::y.N::(y.rs++y.as.flatMap fun a=>[a.i,a.d,a.l])
noncomputable def yW (rs:List Addr):D:=match rs with|R::_=>.val (.ref R)|[]=>.val .none
noncomputable def g_ (y:b3) (st:St):List (Str×D):=[("_node2info",.val (.ref y.N)),("_ready_nodes",yW y.rs),("_npassedout",.int st.j_),("_nfinished",.int st.fin)]
noncomputable def yK (Y:B) (rs:List Addr):Option (List Str)→Prop
 |none=>rs=[]
 |some r=>∃R,rs=[R]∧Y R=some (.list (ww r))
theorem yK.congr (q:∀R∈rs,∀l,Y R=some (.list l)→I R=some (.list l)):∀{r:Option (List Str)},yK Y rs r→yK I rs r
 |none,h=>h
 |some _,⟨R,h1,h2⟩=>⟨R,h1,q R (by refine U h1 ?_;simp) _ h2⟩
structure bI (Y:B) (S:Addr) (y:b3) (st:St):Prop where
 inst:Y S=some (.inst 137 y.iu [])
 attrs:Y y.iu=some (.attrs (g_ y st))
 fF:Y y.N=some (.dict (iy y.as st.nodes))
 dO:c6 Y y.as st.nodes
 gH:yK Y y.rs st.ready
 q7:(y.as.map (fun x=>x.i)).Nodup
 pW:(y.as.map (fun x=>x.l)++y.rs).Nodup
noncomputable def bJ (F:List Addr) (Y:B) (F':List Addr) (I:B):Prop:=(∀a,a∉F→Y a≠none→I a=Y a)∧∀a∈F',a∈F∨Y a=none
theorem bJ.refl (F) (Y):bJ F Y F Y:=⟨fun J J J=>rfl,fun J h=>.inl h⟩
theorem bJ.trans (x:bJ F Y F' I) (y:bJ F' I Xm gW):bJ F Y Xm gW:=by
 refine⟨fun a ha h=>?_,fun a ha=>?_⟩
 ·have e:=x.1 a ha h;have:a∉F':=fun hm=>by
   obtain q|q:=x.2 a hm
   ·exact ha q
   ·exact h q
  exact(y.1 a this (by refine U e ?_;exact h)).trans e
 ·obtain q|q:=y.2 a ha
  ·exact x.2 a q
  ·by_cases hF:a∈F
   ·exact .inl hF
   ·by_cases hm:Y a=none
    ·exact .inr hm
    ·exact absurd (x.1 a hF hm) (by refine U q ?_;exact fun e=>hm e.symm)
theorem bJ.put (h:a∈F) (x):bJ F Y F (Y.put a x):=⟨fun b hb J=>B.aa _ _ (by rintro rfl;exact hb h),fun J h=>.inl h⟩
theorem bJ.fresh (h:Y a=none) (hF:∀b∈F',b∈F∨b=a) (x):bJ F Y F' (Y.put a x):=
 ⟨fun b J hb=>B.aa _ _ (by rintro rfl;exact hb h),fun b hb=>(hF b hb).imp id (by rintro rfl;exact h)⟩
theorem di.mono (h:di c k O Y f ds Sc) (q:∀d I,Sc d I→aX d I):di c k O Y f ds aX:=fun A V s Z H ok r t Q E g=>h A V s Z H ok r t Q E fun d I v s' Z' aq s5 hp=>g d I v s' Z' aq s5 (q d I hp)
theorem b3.adF (y:b3) (S:Addr):S∈y.foot S:=.head _
theorem b3.yX (y:b3) (S:Addr):y.iu∈y.foot S:=.tail _ (.head _)
theorem b3.Ky (y:b3) (S:Addr):y.N∈y.foot S:=.tail _ (.tail _ (.head _))
theorem b3.EW (y:b3) (S:Addr) (h:R∈y.rs):R∈y.foot S:=.tail _ (.tail _ (.tail _ (iX _ h)))
theorem b3.yC (y:b3) (S:Addr) (h:a∈y.as):a.i∈y.foot S∧a.d∈y.foot S∧a.l∈y.foot S:=by
 have:∀b∈[a.i,a.d,a.l],b∈y.foot S:=fun b hb=>.tail _ (.tail _ (.tail _ (m5 _ (z5.mpr ⟨a,h,hb⟩))));exact⟨this _ (by simp),this _ (by simp),this _ (by simp)⟩
end
section
open PySem.W
noncomputable abbrev gE:=List (Str×List Str)
noncomputable def j0:gE→Option (Str×gE)
 |[]=>none
 |(_,[])::r=>j0 r
 |(n,x::xs)::r=>some (x,(n,xs)::r)
theorem aeG (n r):j0 ((n,[])::r)=j0 r:=rfl
theorem Uz (n x xs r):j0 ((n,x::xs)::r)=some (x,(n,xs)::r):=rfl
noncomputable def ji (ns:List bQ) (x:Str):List Str:=match eg ns x with|some n=>n.succ|none=>[]
noncomputable def nD (l:List Str) (x:Str):List Str:=l.drop (l.idxOf x)++[x]
noncomputable def mJ (ns:List bQ):Nat→Str→List Str→gE→Option (List Str⊕List Str)
 |0,_,_,_=>none
 |f+1,x,seen,st=>
  if x∈seen then
   if x∈st.map Prod.fst then some (.inl (nD (st.map Prod.fst).reverse x))
   else match j0 st with|none=>some (.inr seen)|some (z,st')=>mJ ns f z seen st'
  else match j0 ((x,ji ns x)::st)with|none=>some (.inr (seen++[x]))|some (z,st')=>mJ ns f z (seen++[x]) st'
noncomputable def iR (ns:List bQ) (dK:Nat):List Str→List Str→Option (Option (List Str))
 |[],_=>some none
 |x::r,seen=>if x∈seen then iR ns dK r seen else match mJ ns dK x seen []with
  |none=>none
  |some (.inl l)=>some (some l)
  |some (.inr seen')=>iR ns dK r seen'
theorem xZ (ns f x seen st):mJ ns (f+1) x seen st=if x∈seen then if x∈st.map Prod.fst then some (.inl (nD (st.map Prod.fst).reverse x))else(match j0 st with|none=>some (.inr seen)|some (z,st')=>mJ ns f z seen st')else match j0 ((x,ji ns x)::st)with|none=>some (.inr (seen++[x]))|some (z,st')=>mJ ns f z (seen++[x]) st':=rfl
theorem ye (ns dK x r seen):iR ns dK (x::r) seen=if x∈seen then iR ns dK r seen else match mJ ns dK x seen []with|none=>none|some (.inl l)=>some (some l)|some (.inr seen')=>iR ns dK r seen':=rfl
theorem agl (ns dK seen):iR ns dK [] seen=some none:=rfl
noncomputable def nK (b:Option (List Str)):D:=match b with|none=>.val .none|some l=>.list (ww l)
noncomputable def ko (l:List Str):List (Str×D):=l.zipIdx.map fun p=>(p.1,.int (p.2:Nat))
theorem Iu (l):(ko l).map Prod.fst=l:=by
 delta ko;refine U cO ?_;show List.map Prod.fst l.zipIdx=l;exact List.zipIdx_map_fst 0 l
theorem Lu (l) (x):ko (l++[x])=ko l++[(x,.int (l.length:Nat))]:=by
 delta ko;simp[List.zipIdx_append]
theorem Ro (l):(ko l).length=l.length:=by simp[ko]
theorem A3:(cN l x).isSome=decide (x∈l.map Prod.fst):=by
 induction l with
 |nil=>rfl
 |cons a r ih=>
  unfold cN at ih⊢;rw[rD];by_cases q:a.1=x
  ·simp[q]
  ·simp only[q,tP,aK,a_,bS q,false_or];exact ih
theorem adt (h:x∈l):cN (ko l) x=some (.int (l.idxOf x:Nat)):=by
 have main:∀(l:List Str) (m:Nat),x∈l→((l.zipIdx m).map (fun p=>((p.1,.int (p.2:Nat)):Str×D))).find? (fun bR=>bR.1=x)=some (x,.int (l.idxOf x+m:Nat)):=by
  intro l
  induction l with
  |nil=>intro m h;cases h
  |cons a r ih=>
   intro m h;rw[List.zipIdx_cons,aK,rD];by_cases q:a=x
   ·subst q;simp
   ·have hr:x∈r:=(a_.mp h).resolve_left fun e=>q e.symm;simp only[q,tP];refine U (ih (m+1) hr) (U E8 ?_);have:(a==x)=false:=by simpa using q
    simp only[this,cond_false];congr 3;lia
 delta cN ko;refine U (main l 0 h) ?_;rfl
theorem ZN (h:x∉l.map Prod.fst):gz (l++[(x,d)]) x=l:=by
 delta gz;rw[List.filter_append];have e:l.filter (fun bR=>decide (bR.1≠x))=l:=lz.mpr fun a ha=>by
  simp only[sV];intro q;exact h (q▸cA ha)
 refine U e ?_;simp
theorem uo:∀{l m:List Str},l.Nodup→(∀x∈l,x∈m)→l.length≤m.length
 |[],m,_,_=>fz _
 |a::l,m,h,hs=>by
  rw[dm]at h;have ha:=hs a (.head _);have:=uo (m:=m.erase a) h.2 fun x hx=>(List.mem_erase_of_ne (fun q=>h.1 (by refine ZB q ?_;exact hx))).mpr (hs x (.tail _ hx));rw[Sg ha]at this;have hp:0<m.length:=Qv ha;exact U bW (Oj ‹_› ‹_›)
structure fq where
 ST:Addr
 fc:Addr
 ez:Addr
 fK:Addr
inductive lV (Y:B) (as:List eG) (ns:List bQ):List (Addr×Addr)→gE→Prop
 |nil:lV Y as ns [] []
 |cons {m it:Addr} {a:eG} {nd:bQ} {n:Str} {i:Nat} {fs:List (Addr×Addr)} {st:gE}:Y m=some (.raw (m7 it))→Y it=some (.raw (lP a.l i))→gf as ns n=some (a,nd)→lV Y as ns fs st→lV Y as ns ((m,it)::fs) ((n,nd.succ.drop i)::st)
theorem lV.congr {Y I:B} {as:List eG} {ns:List bQ} {fs:List (Addr×Addr)} {st:gE} (h:lV Y as ns fs st) (q:∀a∈fs.flatMap (fun p=>[p.1,p.2]),I a=Y a):lV I as ns fs st:=by
 induction h with
 |nil=>exact .nil
 |cons h1 h2 h3 _ ih=>exact .cons ((q _ (by simp)).trans h1) ((q _ (by simp)).trans h2) h3 (ih fun a ha=>q a (by simp only[jZ,b_];exact .inr ha))
theorem lV.some {Y:B} {as:List eG} {ns:List bQ} {fs:List (Addr×Addr)} {st:gE} (h:lV Y as ns fs st):∀a∈fs.flatMap (fun p=>[p.1,p.2]),∃o,Y a=some (.raw o):=by
 induction h with
 |nil=>intro a ha;simp at ha
 |cons h1 h2 h3 _ ih=>
  intro a ha;simp only[jZ,b_,a_,eF,g5]at ha;rcases ha with(rfl|rfl)|ha
  ·exact⟨_,h1⟩
  ·exact⟨_,h2⟩
  ·exact ih a ha
theorem lV.len {Y:B} {as:List eG} {ns:List bQ} {fs:List (Addr×Addr)} {st:gE} (h:lV Y as ns fs st):fs.length=st.length:=by
 induction h with
 |nil=>rfl
 |cons _ _ _ _ ih=>simp[ih]
noncomputable def fq.foot (q:fq) (fs:List (Addr×Addr)):List Addr:=q.ST::q.fc::q.ez::q.fK::fs.flatMap (fun p=>[p.1,p.2])
structure iW (aJ Y:B) (as:List eG) (ns:List bQ) (q:fq) (seen:List Str) (st:gE) (fs:List (Addr×Addr)):Prop where
 keep:e9 aJ Y
 sy:Y q.ST=some (.list (ww (st.map Prod.fst).reverse))
 x9:Y q.fc=some (.list (fs.reverse.map fun p=>.val (.ref p.1)))
 tK:Y q.ez=some (.set seen)
 t6:Y q.fK=some (.dict (ko (st.map Prod.fst).reverse))
 fr:lV Y as ns fs st
 new:∀a∈q.foot fs,aJ a=none
 dist:(q.foot fs).Nodup
 sub:∀x∈st.map Prod.fst,x∈seen
 nodup:(st.map Prod.fst).Nodup
 yd:seen.Nodup
 Am:∀x∈seen,x∈ns.map (fun x=>x.name)
theorem e9.putN (h:e9 aJ Y) (ha:aJ a=none) (x):e9 aJ (Y.put a x):=fun b hb=>by
 exact U (B.aa _ _ (by rintro rfl;exact hb ha)) (h b hb)
section
variable {aJ Y:B} {as:List eG} {ns:List bQ} {q:fq} {seen:List Str} {st:gE} {fs:List (Addr×Addr)}
theorem iW.ne (h:iW aJ Y as ns q seen st fs):∀a∈q.foot fs,Y a≠none:=fun a ha=>by
 delta fq.foot at ha;simp only[a_]at ha;obtain rfl|rfl|rfl|rfl|ha:=ha
 ·refine U h.sy ?_;simp
 ·refine U h.x9 ?_;simp
 ·refine U h.tK ?_;simp
 ·refine U h.t6 ?_;simp
 ·refine aP (h.fr.some a ha) fun o e=>?_;refine U e ?_;simp
theorem iW.four (h:iW aJ Y as ns q seen st fs):q.ST≠q.fc∧q.ST≠q.ez∧q.ST≠q.fK∧q.fc≠q.ez∧q.fc≠q.fK∧q.ez≠q.fK∧∀a∈fs.flatMap (fun p=>[p.1,p.2]),a≠q.ST∧a≠q.fc∧a≠q.ez∧a≠q.fK:=by
 have d:=h.dist;unfold fq.foot at d;simp only[dm,a_,pT]at d;refine pU d fun aH JD Hw pX J=>?_;refine mz aH fun a1 a2 iP iQ=>?_;refine b5 JD fun b1 fC lW=>?_;refine Op Hw fun r7 kM=>?_;exact PJ a1 a2 iP b1 fC r7 (fun a ha=>⟨by rintro rfl;exact iQ ha,by rintro rfl;exact lW ha,by rintro rfl;exact kM ha,by rintro rfl;exact pX ha⟩)
theorem ux (l) (x):ww (l++[x])=ww l++[.str x]:=by simp[ww]
theorem iW.push (h:iW aJ Y as ns q seen st fs) (hx:x∉seen) (hxn:x∈ns.map (fun x=>x.name)) (e:gf as ns x=some (a,nd))
 (hit:(Y.put q.ez (some (.set (seen++[x])))) it=none) (hm:((Y.put q.ez (some (.set (seen++[x])))).put it (some (.raw (lP a.l 0)))) m=none):
 iW aJ ((((((Y.put q.ez (some (.set (seen++[x])))).put it (some (.raw (lP a.l 0)))).put m (some (.raw (m7 it)))).put q.fc (some (.list ((fs.reverse.map fun p=>.val (.ref p.1))++[.val (.ref m)])))).put q.fK (some (.dict (ko (st.map Prod.fst).reverse++[(x,.int ((st.map Prod.fst).reverse.length:Nat))])))).put q.ST (some (.list (ww (st.map Prod.fst).reverse++[.str x])))) as ns q (seen++[x]) ((x,nd.succ)::st) ((m,it)::fs):=by
 refine uf (h.four) fun n1 b6 dS p8 uV xh qN=>?_;have i1:it≠q.ez:=by rintro rfl;rw[B.ai]at hit;injection hit
 rw[B.aa _ _ i1]at hit;have nP:m≠it:=by rintro rfl;rw[B.ai]at hm;injection hm
 rw[B.aa _ _ nP]at hm;have EI:m≠q.ez:=by rintro rfl;rw[B.ai]at hm;injection hm
 rw[B.aa _ _ EI]at hm;have EY:it∉q.foot fs:=fun hh=>h.ne it hh hit;have JF:m∉q.foot fs:=fun hh=>h.ne m hh hm;have DI:∀{b},Y b=none→aJ b=none:=fun{b} hb=>by
  by_cases hh:aJ b=none
  ·exact hh
  ·exact absurd (h.keep b hh) (by refine U hb ?_;exact fun z=>hh z.symm)
 unfold fq.foot at EY JF;simp only[a_,pT]at EY JF;refine pU EY fun O4 Qj J K3 xe=>?_;refine pU JF fun Ko NH J Nd Dn=>?_;have nw:∀a∈q.foot fs,aJ a=none:=h.new;have LY:=nw q.ST (by simp[fq.foot]);have PS:=nw q.fc (by simp[fq.foot]);have Qx:=nw q.ez (by simp[fq.foot]);have Ke:=nw q.fK (by simp[fq.foot]);refine⟨(((((h.keep.putN Qx _).putN (DI hit) _).putN (DI hm) _).putN PS _).putN Ke _).putN LY _,?_,?_,?_,?_,?_,?_,?_,?_,?_,?_,?_⟩
 ·rw[B.ai,aK,DN,ux]
 ·rw[B.aa _ _ (bS n1),B.aa _ _ uV,B.ai];simp
 ·rw[B.aa _ _ (bS b6),B.aa _ _ xh,B.aa _ _ (bS p8),B.aa _ _ (bS EI),B.aa _ _ (bS i1),B.ai]
 ·rw[B.aa _ _ (bS dS),B.ai,aK,DN,Lu]
 ·have key:=lV.cons (Y:=((((((Y.put q.ez (some (.set (seen++[x])))).put it (some (.raw (lP a.l 0)))).put m (some (.raw (m7 it)))).put q.fc (some (.list ((fs.reverse.map fun p=>.val (.ref p.1))++[.val (.ref m)])))).put q.fK (some (.dict (ko (st.map Prod.fst).reverse++[(x,.int ((st.map Prod.fst).reverse.length:Nat))])))).put q.ST (some (.list (ww (st.map Prod.fst).reverse++[.str x]))))) (m:=m) (it:=it) (i:=0) (fs:=fs) (st:=st) ?_ ?_ e (h.fr.congr fun b hb=>?_)
  ·exact key
  ·rw[B.aa _ _ Ko,B.aa _ _ Nd,B.aa _ _ NH,B.ai]
  ·rw[B.aa _ _ O4,B.aa _ _ K3,B.aa _ _ Qj,B.aa _ _ (bS nP),B.ai]
  ·refine mz (qN b hb) fun b1 fC lW xV=>?_;exact U (B.aa _ _ b1) (U (B.aa _ _ xV) (U (B.aa _ _ fC) (U (B.aa _ _ (by rintro rfl;exact Dn hb)) (U (B.aa _ _ (by rintro rfl;exact xe hb)) (U (B.aa _ _ lW) rfl)))))
 ·intro b hb;unfold fq.foot at hb;simp only[jZ,a_,b_,eF,g5]at hb;obtain rfl|rfl|rfl|rfl|(rfl|rfl)|hb:=hb
  ·exact LY
  ·exact PS
  ·exact Qx
  ·exact Ke
  ·exact DI hm
  ·exact DI hit
  ·exact nw b (by unfold fq.foot;simp only[a_];exact .inr (.inr (.inr (.inr hb))))
 ·have d:=h.dist;unfold fq.foot at d⊢;simp only[jZ,dm,a_,pT,b_,eF,g5,nY,oA]at d⊢;refine pU d fun aH JD Hw pX mO=>?_;refine mz aH fun a1 a2 iP iQ=>?_;refine b5 JD fun b1 fC lW=>?_;refine Op Hw fun r7 kM=>?_;exact PJ ⟨a1,a2,iP,bS Ko,bS O4,iQ⟩ ⟨b1,fC,bS NH,bS Qj,lW⟩ ⟨r7,bS EI,bS i1,kM⟩ ⟨bS Nd,bS K3,pX⟩ ⟨nP,Dn⟩ xe mO
 ·intro z hz;refine bD hz ?_ fun hz=>?_
  ·simp
  ·exact iX _ (h.sub z hz)
 ·rw[aK,dm];exact⟨fun hh=>hx (h.sub x hh),h.nodup⟩
 ·rw[kq];refine⟨h.yd,by simp,fun a ha b hb=>?_⟩;refine U (fG.mp hb) ?_;rintro rfl;exact hx ha
 ·intro z hz;obtain hz|hz:=b_.mp hz
  ·exact h.Am z hz
  ·exact U (fG.mp hz) hxn
theorem iW.step (h:iW aJ Y as ns q seen ((n,nd.succ.drop i)::st) ((m,it)::fs)) (h1:Y m=some (.raw (m7 it))) (h3:gf as ns n=some (a,nd)) (h4:lV Y as ns fs st):
 iW aJ (Y.put it (some (.raw (lP a.l (i+1))))) as ns q seen ((n,nd.succ.drop (i+1))::st) ((m,it)::fs):=by
 refine uf (h.four) fun J J J J J J qN=>?_;refine mz (qN it (by simp)) fun b1 fC lW xV=>?_;have d:=h.dist;unfold fq.foot at d;simp only[jZ,dm,a_,pT,b_,eF,g5,nY,oA]at d;obtain⟨_,_,_,_,⟨nP,Dn⟩,xe,mO⟩:=d;refine⟨h.keep.putN (h.new it (by simp[fq.foot])) _,(B.aa _ _ (bS b1)).trans h.sy,(B.aa _ _ (bS fC)).trans h.x9,(B.aa _ _ (bS lW)).trans h.tK,(B.aa _ _ (bS xV)).trans h.t6,
  .cons ((B.aa _ _ nP).trans h1) (B.ai ..) h3 (h4.congr fun b hb=>B.aa _ _ (by rintro rfl;exact xe hb)),h.new,h.dist,h.sub,h.nodup,h.yd,h.Am⟩
theorem iW.pop (h:iW aJ Y as ns q seen ((n,aE)::st) ((m,it)::fs)) (h4:lV Y as ns fs st):
 iW aJ ((((Y.put it (some (.raw o))).put q.ST (some (.list (ww (st.map Prod.fst).reverse)))).put q.fK (some (.dict (ko (st.map Prod.fst).reverse)))).put q.fc (some (.list (fs.reverse.map fun p=>.val (.ref p.1))))) as ns q seen st fs:=by
 refine uf (h.four) fun n1 b6 dS p8 uV xh qN=>?_;refine mz (qN it (by simp)) fun b1 fC lW xV=>?_;have d:=h.dist;unfold fq.foot at d;simp only[jZ,dm,a_,pT,b_,eF,g5,nY,oA]at d;obtain⟨⟨e1,e2,e3,_,_,fY⟩,⟨f1,f2,_,_,f3⟩,⟨g1,_,_,g2⟩,⟨_,_,k1⟩,⟨nP,Dn⟩,xe,mO⟩:=d;have nw:=h.new;refine⟨(((h.keep.putN (nw it (by simp[fq.foot])) _).putN (nw q.ST (by simp[fq.foot])) _).putN (nw q.fK (by simp[fq.foot])) _).putN (nw q.fc (by simp[fq.foot])) _,?_,B.ai ..,?_,?_,h4.congr fun b hb=>?_,fun b hb=>?_,?_,fun x hx=>h.sub x (.tail _ hx),?_,h.yd,h.Am⟩
 ·rw[B.aa _ _ n1,B.aa _ _ dS,B.ai]
 ·refine U (B.aa _ _ (bS p8)) (U (B.aa _ _ xh) (U (B.aa _ _ (bS b6)) (U (B.aa _ _ (bS lW)) ?_)));exact h.tK
 ·rw[B.aa _ _ (bS uV),B.ai]
 ·refine mz (qN b (by simp only[jZ,b_];exact .inr hb)) fun r7 kM c3 Wz=>?_;exact U (B.aa _ _ kM) (U (B.aa _ _ Wz) (U (B.aa _ _ r7) (U (B.aa _ _ (by rintro rfl;exact xe hb)) rfl)))
 ·refine nw b ?_;unfold fq.foot at hb⊢;simp only[jZ,a_,b_]at hb⊢;obtain h|h|h|h|h:=hb
  ·exact .inl h
  ·exact .inr (.inl h)
  ·exact .inr (.inr (.inl h))
  ·exact .inr (.inr (.inr (.inl h)))
  ·exact .inr (.inr (.inr (.inr (.inr h))))
 ·unfold fq.foot;simp only[dm,a_,pT];exact Cs ⟨e1,e2,e3,fY⟩ ⟨f1,f2,f3⟩ ⟨g1,g2⟩ k1 mO
 ·have:=h.nodup;rw[aK,dm]at this;exact this.2
end
end
section
open PySem.W
theorem CG (P:Params):findIn (KF P) (.ref 40) "__setattr__" =some (some (.builtin "object.__setattr__")):=by kernel_rfl
theorem D4 (P:Params):plainOver (KF P) 40=true:=by kernel_rfl
theorem JQ (P:Params) (n):plainGet (KF P) 40 n=true:=by show plainGet (KF P) 40 "" =true;kernel_rfl
theorem Ju (P:Params):isClsIn (KF P) 40=true:=by kernel_rfl
theorem abI (P:Params):makesIn (KF P) 40=true:=by kernel_rfl
theorem Zq (P:Params):keepIn (KF P) (.ref 40)=true:=by kernel_rfl
theorem XF (P:Params):findIn (KF P) (.ref 40) "__init__" =some (some (.ref 36)):=by kernel_rfl
theorem X8 (P:Params):typeIn (KF P) (.ref 36)=some (.type "function"):=by kernel_rfl
theorem Si (P:Params):findIn (KF P) (.ref 40) "node" =some (some (.ref 41)):=by kernel_rfl
theorem JJ (P:Params):findIn (KF P) (.ref 40) "npredecessors" =some (some (.ref 42)):=by kernel_rfl
theorem OS (P:Params):findIn (KF P) (.ref 40) "successors" =some (some (.ref 43)):=by kernel_rfl
theorem adj (P:Params):specialIn (KF P) (.ref 41) "__get__" =some (some (.builtin "member_descriptor.__get__")):=by kernel_rfl
theorem Vk (P:Params):specialIn (KF P) (.ref 42) "__get__" =some (some (.builtin "member_descriptor.__get__")):=by kernel_rfl
theorem afD (P:Params):specialIn (KF P) (.ref 43) "__get__" =some (some (.builtin "member_descriptor.__get__")):=by kernel_rfl
theorem P1 (P:Params):takesIn (KF P) (.ref 41)=some true:=by kernel_rfl
theorem Gi (P:Params):takesIn (KF P) (.ref 42)=some true:=by kernel_rfl
theorem Lz (P:Params):takesIn (KF P) (.ref 43)=some true:=by kernel_rfl
theorem Pw (P:Params):slotIn (KF P) 41 40=some 0:=by kernel_rfl
theorem Iv (P:Params):slotIn (KF P) 42 40=some 1:=by kernel_rfl
theorem Oo (P:Params):slotIn (KF P) 43 40=some 2:=by kernel_rfl
theorem V3 (P:Params):typeIn (KF P) (.ref 41)=some (.type "member_descriptor"):=by kernel_rfl
theorem Qi (P:Params):typeIn (KF P) (.ref 42)=some (.type "member_descriptor"):=by kernel_rfl
theorem adN (P:Params):typeIn (KF P) (.ref 43)=some (.type "member_descriptor"):=by kernel_rfl
theorem El {K:Frag} {C p:Addr} {name:Str} (h:findIn K (.ref C) name=some (some (.ref p))) (t:takesIn K (.ref p)=some true):takerIn K C name=some (some (.ref p)):=by
 unfold takerIn;rw[h,Option.bind_some];simp[t]
theorem sL (P:Params):findIn (KF P) (.ref 137) "__setattr__" =some (some (.builtin "object.__setattr__")):=by kernel_rfl
theorem se (P:Params):plainOver (KF P) 137=true:=by kernel_rfl
theorem jC (P:Params) (n):plainGet (KF P) 137 n=true:=by show plainGet (KF P) 137 "" =true;kernel_rfl
theorem kP (P:Params):hasDictIn (KF P) 137=true:=by kernel_rfl
theorem Wj (P:Params):makesIn (KF P) 137=true:=by kernel_rfl
theorem WT (P:Params):keepIn (KF P) (.ref 137)=true:=by kernel_rfl
theorem DJ (P:Params):findIn (KF P) (.ref 137) "_node2info" =some none:=by kernel_rfl
theorem DW (P:Params):findIn (KF P) (.ref 137) "_ready_nodes" =some none:=by kernel_rfl
theorem Gs (P:Params):findIn (KF P) (.ref 137) "_npassedout" =some none:=by kernel_rfl
theorem Jl (P:Params):findIn (KF P) (.ref 137) "_nfinished" =some none:=by kernel_rfl
theorem rO {K:Frag} {C:Addr} {name:Str} (h:findIn K (.ref C) name=some none):takerIn K C name=some none:=by
 unfold takerIn;refine U h ?_;rfl
theorem Vs (P:Params):findIn (KF P) (.ref 137) "__init__" =some (some (.ref 73)):=by kernel_rfl
theorem Qu (P:Params):findIn (KF P) (.ref 137) "_get_nodeinfo" =some (some (.ref 80)):=by kernel_rfl
theorem KH (P:Params):findIn (KF P) (.ref 137) "add" =some (some (.ref 87)):=by kernel_rfl
theorem Mg (P:Params):findIn (KF P) (.ref 137) "prepare" =some (some (.ref 92)):=by kernel_rfl
theorem Vc (P:Params):findIn (KF P) (.ref 137) "get_ready" =some (some (.ref 99)):=by kernel_rfl
theorem aee (P:Params):findIn (KF P) (.ref 137) "is_active" =some (some (.ref 106)):=by kernel_rfl
theorem Vg (P:Params):findIn (KF P) (.ref 137) "done" =some (some (.ref 120)):=by kernel_rfl
theorem GR (P:Params):findIn (KF P) (.ref 137) "_find_cycle" =some (some (.ref 127)):=by kernel_rfl
theorem ab4 (P:Params):typeIn (KF P) (.ref 73)=some (.type "function"):=by kernel_rfl
theorem P0 (P:Params):typeIn (KF P) (.ref 80)=some (.type "function"):=by kernel_rfl
theorem Mj (P:Params):typeIn (KF P) (.ref 87)=some (.type "function"):=by kernel_rfl
theorem Mh (P:Params):typeIn (KF P) (.ref 92)=some (.type "function"):=by kernel_rfl
theorem Va (P:Params):typeIn (KF P) (.ref 99)=some (.type "function"):=by kernel_rfl
theorem aaF (P:Params):typeIn (KF P) (.ref 106)=some (.type "function"):=by kernel_rfl
theorem aci (P:Params):typeIn (KF P) (.ref 120)=some (.type "function"):=by kernel_rfl
theorem Hh (P:Params):typeIn (KF P) (.ref 127)=some (.type "function"):=by kernel_rfl
end
section
open PySem.W PySem.Calls Builtin Builtin.ObjectAttr Builtin.Getset_descriptor
noncomputable abbrev c8 (c:ah):Frag:=KF c.w.params
theorem aV.oE (t:aV c) (top:c.H0.StaysIn h):(c8 c).In h:=t.K.keeps top
noncomputable abbrev AM (P:Params) (kvs:List (Str×Tok×Value)) (n:Nat):Obj:={cls:=.type "dict",data:=.dict (kvs.map fun x=>(⟨PyData.keyHash P x.1,.str x.1 x.2.1,x.2.2⟩:DictEntry)).toArray n}
noncomputable def uU (kvs:List (Str×Tok×Value)) (n:Str):Option Value:=(kvs.find? fun x=>x.1==n).map (fun x=>x.2.2)
theorem Uj (P:Params) (kvs:List (Str×Tok×Value)):(kvs.map fun x=>(⟨PyData.keyHash P x.1,.str x.1 x.2.1,x.2.2⟩:DictEntry)).any (fun x=>x.refKey)=false:=by
 rw[List.any_eq_false];intro e he;refine wS (ao.mp he) fun x J s4=>?_;subst s4;simp[DictEntry.refKey]
theorem aal (name) (es:List DictEntry) (h:es.any (fun x=>x.refKey)=false):(match es.find? (fun x=>x.key.isStr name)with
 |some e=>some (some e.val)
 |none=>if es.any (fun x=>x.refKey)then none else some none)=some ((es.find? (fun x=>x.key.isStr name)).map (fun x=>x.val)):=by
 cases es.find? (fun x=>x.key.isStr name)with
 |none=>simp only[Sj,h,j3,jA]
 |some e=>rfl
theorem AK (P:Params) (kvs) (n) (name):lookIn name (AM P kvs n)=some (uU kvs name):=by
 refine(aal name _ (Uj P kvs)).trans ?_;have:List.find? (fun x=>x.key.isStr name) (kvs.map fun x=>(⟨PyData.keyHash P x.1,.str x.1 x.2.1,x.2.2⟩:DictEntry))=(kvs.find? fun x=>x.1==name).map fun x=>(⟨PyData.keyHash P x.1,.str x.1 x.2.1,x.2.2⟩:DictEntry):=by
  rw[List.find?_map];rfl
 refine U this ?_;unfold uU;cases kvs.find? fun x=>x.1==name<;>rfl
theorem CH (h:kvs.map Prod.fst=l.map Prod.fst) (bO:au Z (kvs.map (fun x=>x.2.2)) (l.map Prod.snd)) (x):(cN l x=none→uU kvs x=none)∧∀d,cN l x=some d→∃v,uU kvs x=some v∧aR Z v d:=by
 refine yR (f:=fun p:Str×Tok×Value=>p.1) (g:=(fun x=>x.2.2)) (P:=fun kvs l=>(cN l x=none→uU kvs x=none)∧∀d,cN l x=some d→∃v,uU kvs x=some v∧aR Z v d) ?_ ?_ h bO
 ·exact⟨fun J=>rfl,fun d h=>by injection h⟩
 ·intro p kvs d l a _ _ ih;unfold cN uU at*;by_cases e:p.1=x
  ·simp[e];exact a
  ·simp[e]at ih⊢;exact ih
structure Xa (c:ah) (Z:TW) (h:Heap) (a C dx:Addr) (l:List (Option D)) (al:List (Str×D)) (bV:Array (Option Value)) (kvs:List (Str×Tok×Value)) (n:Nat):Prop where
 at_:InstAt h a {cls:=.ref C,dict:=some dx,data:=.plain,slots:=bV} C (some (AM c.w.params kvs n))
 slots:ie Z bV.toList l
 keys:kvs.map Prod.fst=al.map Prod.fst
 vals:au Z (kvs.map (fun x=>x.2.2)) (al.map Prod.snd)
theorem vv (r:bB c Z h V O Y) (ha:Y a=some (.inst C dx l)) (hd:Y dx=some (.attrs al)):∃bV kvs n,Xa c Z h a C dx l al bV kvs n:=by
 refine Op (r.cells a _ ha) fun aH J=>?_;refine wS aH fun o xz ad8=>wS ad8 fun bV Yt hs=>?_;subst Yt;refine Op (r.cells dx _ hd) fun aH J=>?_;refine wS aH fun o' bK VE=>fJ VE fun kvs n acV hk FS=>?_;subst acV;exact⟨bV,kvs,n,⟨xz,rfl,rfl,bK⟩,hs,hk,FS⟩
noncomputable def Ja:D→Bool
 | .val v=>handedIn v
 |_=>true
theorem Oz (t:aR Z v d) (h:Ja d=true):handedIn v=true:=by cases t<;>first|exact h|rfl
section
variable {c:ah} {k:Nat} {O:XV} {Y:B}
theorem S4 (h:ie Z bV l):∀{i:Nat} {d:D},l[i]?=some (some d)→∃v,bV[i]?=some (some v)∧aR Z v d:=by
 induction h with
 |nil=>intro i d h;simp at h
 |some a r ih=>
  intro i d h;obtain _|i:=i
  ·simp at h;subst h;exact⟨_,rfl,a⟩
  ·exact ih (i:=i) h
 |none r ih=>
  intro i d h;obtain _|i:=i
  ·simp at h
  ·exact ih (i:=i) h
theorem aF.pe (t:aV c) (xz:f8 c k O Y o (.val (.ref a))) (ha:Y a=some (.inst C dx l)) (hd:Y dx=some (.attrs al)) (s5:cN al name=Option.none)
 (hg:plainGet (c8 c) C name=true) (hf:findIn (c8 c) (.ref C) name=some (some (.ref f))) (FS:typeIn (c8 c) (.ref f)=some (.type "function")) (IS:qs c (.ref f)) (yO:iA c k O Y args ds) (hc:di c k O Y (.ref f) (.val (.ref a)::ds) Sc)
 (he:∀V,∃pl,eval (.Call (.Attribute o name c9) args [] pos) V=(do
  let iJ←eval o V
  standAt c9.atName
  let(f,first)←holding [iJ] (getMethod iJ name pl)
  callWith pos f first (backTo pos (starEach args V)) (backToKw pos (keywordEach [] V))):=by intro;exact⟨_,rfl⟩)
 (hs:∀V,(starEach args V).all (fun y=>!y.1)=true:=by intro;rfl):aF c k O Y (.Call (.Attribute o name c9) args [] pos) Sc:=by
 intro A V s Z ok r Q E q;obtain⟨pl,he⟩:=he V;refine methodCall_KW (pl:=pl) (xz A V s Z ok r _ E fun v s₁ aB EQ g8=>?_) he;refine g8.v ?_;have r₁:=r.step EQ;refine tD (vv r₁ ha hd) fun bV kvs n im=>?_;refine method_fn (t.oE r₁.top) im.at_ (qE hg).1 (qE hg).2 hf FS (by show(lookIn name _).map _=_;rw[AK,(CH im.keys im.vals name).1 s5];rfl) ?_;dsimp only;show wpAny c.M A (callWith pos (.ref f) [.ref a] (backTo pos (starEach args V)) []) Q E s₁;refine l6 IS (nQ yO (ok.step EQ) r₁ hs fun H s₂ bA t₂ bf=>⟨t₂.top,?_⟩);have st:=EQ.trans t₂;have r₂:=r₁.step t₂;exact hc A V s₂ bA (.ref a::H) (ok.step st) r₂ (.cons (.val _) bf) Q E fun d I v s' Z' aq s5 hp=>q d I v s' Z' ((st.after r).trans aq) s5 hp
end
end
section
open PySem.W PySem.Calls Builtin Builtin.ObjectAttr Builtin.Getset_descriptor
noncomputable def pD:List (Str×Tok×Value)→Str→Tok→Value→List (Str×Tok×Value)
 |[],n,t,v=>[(n,t,v)]
 |(m,t',w)::r,n,t,v=>if m==n then(m,t',v)::r else(m,t',w)::pD r n t v
theorem MO (m t' w r n t v):pD ((m,t',w)::r) n t v=if m==n then(m,t',v)::r else(m,t',w)::pD r n t v:=rfl
noncomputable def iG:List (Str×D)→Str→D→List (Str×D)
 |[],n,d=>[(n,d)]
 |(m,w)::r,n,d=>if m==n then(m,d)::r else(m,w)::iG r n d
theorem Iw (m w r n d):iG ((m,w)::r) n d=if m==n then(m,d)::r else(m,w)::iG r n d:=rfl
theorem aa8 (n d):iG [] n d=[(n,d)]:=rfl
theorem Nm:∀l n d,(iG l n d).length≤l.length+1
 |[],_,_=>aI _
 |(m,w)::r,n,d=>by
  rw[Iw];split
  ·simp
  ·have:=Nm r n d;simp;assumption
theorem LF (P:Params) (name) (tk) (v):∀kvs:List (Str×Tok×Value),PySem.W.putL name (PyData.keyHash P name) (.str name tk) v (kvs.map fun x=>(⟨PyData.keyHash P x.1,.str x.1 x.2.1,x.2.2⟩:DictEntry))=(pD kvs name tk v).map fun x=>(⟨PyData.keyHash P x.1,.str x.1 x.2.1,x.2.2⟩:DictEntry)
 |[]=>rfl
 |(m,t,w)::r=>by
  rw[aK,PySem.W.putL,MO];have:(Value.str m t).isStr name=(m==name):=rfl;dsimp only;refine U this ?_;split
  ·rfl
  ·refine U (LF P name tk v r) ?_;rfl
theorem W6 (s5:aR Z v d) (h:kvs.map Prod.fst=l.map Prod.fst) (bO:au Z (kvs.map (fun x=>x.2.2)) (l.map Prod.snd)):
 (pD kvs name tk v).map Prod.fst=(iG l name d).map Prod.fst∧au Z ((pD kvs name tk v).map (fun x=>x.2.2)) ((iG l name d).map Prod.snd):=by
 refine yR (f:=fun p:Str×Tok×Value=>p.1) (g:=(fun x=>x.2.2)) (P:=fun kvs l=>(pD kvs name tk v).map Prod.fst=(iG l name d).map Prod.fst∧au Z ((pD kvs name tk v).map (fun x=>x.2.2)) ((iG l name d).map Prod.snd)) ?_ ?_ h bO
 ·exact⟨rfl,.cons s5 .nil⟩
 ·intro p kvs d l a h h2 ih;rw[MO,Iw];split
  ·exact⟨cQ (fun x=>p.1::x) h,.cons s5 h2⟩
  ·exact⟨cQ (fun x=>p.1::x) ih.1,.cons a ih.2⟩
section
variable {prog:Program} {w:World} {A:Around} {K:Frag} {C x:Addr} {s:Shared} {R:Result→Shared→Prop}
set_option tactic.hygienic true in theorem abJ {DX od:Obj} {dx:Addr} {name:Str} {tk:Tok} {v:Value} {es:List DictEntry} {n:Nat} (X:K.In s.heap) (bu:InstAt s.heap x DX C (some od)) (hd:DX.dict=some dx) (hp:plainOver K C=true) (FS:takerIn K C name=some none) (hh:hasDictIn K C=true)
 (hl:(lookIn name od).isSome=true) (hc:od.isFreed=false) (e':(Obj.putName name (PyData.keyHash w.params name) (.str name s.toks) v od).data= .dict es.toArray n) (hz:es.length≤1000)
 (h:R (.ok (.ret .none)) {s with heap:=s.heap.update dx (Obj.putName name (PyData.keyHash w.params name) (.str name s.toks) v),toks:=s.toks+1}):
 codeAny (model prog w) A (.call (.builtin "object.__setattr__") ⟨[.ref x,.str name tk,v],[]⟩) R s:=by
 refine osa_open X bu hp FS fun b=>?_;refine wS (any_some hh) fun cd hc hd'=>?_;obtain⟨hx,eT,M2,D⟩:=bu;obtain⟨zP,agf,agv,zx⟩:=DX;dsimp only at eT hd;subst eT hd;replace D:s.heap.get? dx=some od:=D;have qf:(s.heap.update dx (Obj.putName name (PyData.keyHash w.params name) (.str name s.toks) v)).get? dx=some (Obj.putName name (PyData.keyHash w.params name) (.str name s.toks) v od):=kZ _ D (by
  revert e';cases Obj.putName name (PyData.keyHash w.params name) (.str name s.toks) v od;intro e';subst e';rfl)
 refine u8 (On (u8 (u8 (wpAny_loadPart hx (u8 ((looks_clsIn X hc).here ?_))))));refine U hd' ?_;refine On (a:=some dx) (u8 (On (u8 ?_)));unfold nsSet;refine u8 (u8 (pZ (On (u8 (wpAny_mkText (u8 (wpAny_loadPart D ?_)))))));unfold lookIn at hl;split at hl
 ·rename_i Q0 zE q;refine U q ?_;dsimp only;have c:(!Q0.any (fun x=>x.key.isStr name)&&Q0.any (fun x=>x.refKey))=false:=by
   refine ZB Array.any_toList (ZB Array.any_toList ?_);split at hl
   ·rename_i en he;rw[zJ.mpr ⟨en,List.mem_of_find?_eq_some he,List.find?_some he⟩];rfl
   ·split at hl
    ·injection hl
    ·rename_i z;rw[BR]at z;rw[z,HC]
  rw[aRefKeyMayBeTheName_at,c];refine wpAny_updatePart D ?_;refine u8 (wpAny_lookBehind qf (by refine U e' ?_;exact pastItsLine_dict (by refine U jL (U cV ?_);lia)) ?_);exact On h
 ·injection hl
end
section
variable {c:ah} {k:Nat} {O:XV} {Y:B}
theorem YF {A:Around} {V:Env} {s:Shared} {Z:TW} {a C dx:Addr} {l:List (Option D)} {al:List (Str×D)} {name:Str} {v:Value} {d:D} {Q:Unit→Shared→Prop} {E:Value→Shared→Prop} (t:aV c) (r:bB c Z s.heap V O Y) (ha:Y a=some (.inst C dx l)) (hd:Y dx=some (.attrs al))
 (hs:findIn (c8 c) (.ref C) "__setattr__" =some (some (.builtin "object.__setattr__"))) (hp:plainOver (c8 c) C=true) (FS:takerIn (c8 c) C name=some Option.none) (hh:hasDictIn (c8 c) C=true) (hz:al.length≤900) (s5:aR Z v d)
 (q:∀s',aO c Y s Z (Y.put dx (some (.attrs (iG al name d)))) s' Z→Q () s'):wpAny c.M A (setAttr (.ref a) name v) Q E s:=by
 refine tD (vv r ha hd) fun bV kvs n im=>?_;have X:=t.oE r.top;have hdx:=im.at_.dict;replace hdx:s.heap.get? dx=some (AM c.w.params kvs n):=hdx;have sH:∀tk,Obj.putName name (PyData.keyHash c.w.params name) (.str name tk) v (AM c.w.params kvs n)=AM c.w.params (pD kvs name tk v) (putN name (kvs.map fun x=>(⟨PyData.keyHash c.w.params x.1,.str x.1 x.2.1,x.2.2⟩:DictEntry)) n):=fun tk=>by
  have:=putName_dict name (PyData.keyHash c.w.params name) (.str name tk) v (kvs.map fun x=>(⟨PyData.keyHash c.w.params x.1,.str x.1 x.2.1,x.2.2⟩:DictEntry)) n;rw[LF]at this;exact this
 have kt:=fun tk=>W6 (name:=name) (tk:=tk) s5 im.keys im.vals;have kl:∀tk,(pD kvs name tk v).length≤1000:=fun tk=>by
  have h1:=cQ List.length (kt tk).1;simp only[cj]at h1;have:=Nm al name d;exact j7 h1 this (Ev (gw ‹_›) (by decide))
 refine set_plain X im.at_ hs (abJ (s:={s with toks:=s.toks+1}) (dx:=dx) X im.at_ rfl hp FS hh (by rw[AK];rfl) rfl (by rw[sH]) (by rw[cj];exact kl _) ?_);have av:Heap.SameBut dx s.heap (s.heap.update dx (Obj.putName name (PyData.keyHash c.w.params name) (.str name (s.toks+1)) v)):=nh ..;refine q _ (aO.put (t:=s.toks+1+1) (eN:=.attrs (iG al name d)) r.cells r.top r.sub (by refine U hd ?_;simp) av (kZ _ hdx (by rw[sH];rfl)) (fun H=>by rw[sH];simp) ?_ (by lia));rw[sH];exact sR _ _ rfl ((kt _).1) ((kt _).2)
end
end
section
open PySem.W PySem.Calls Builtin Builtin.ObjectAttr Builtin.Getset_descriptor
noncomputable def cy (c:ah) (k:Nat) (O:XV) (Y:B) (a:Addr) (name:Str) (d:D):Prop:=
 ∀(A:Around) (V:Env) (s:Shared) (Z:TW),Ok c k A s→bB c Z s.heap V O Y→∀(Q E:Value→Shared→Prop),gk c s Z d Q→wpAny c.M A (getAttr (.ref a) name true) Q E s
noncomputable def gS (c:ah) (k:Nat) (O:XV) (Y:B) (a:Addr) (name:Str) (d:D) (I:B):Prop:=
 ∀(A:Around) (V:Env) (s:Shared) (Z:TW) (v:Value),Ok c k A s→bB c Z s.heap V O Y→aR Z v d→∀(Q:Unit→Shared→Prop) (E:Value→Shared→Prop),(∀s',aO c Y s Z I s' Z→Q () s')→wpAny c.M A (setAttr (.ref a) name v) Q E s
noncomputable def FE (l:List (Option D)) (i:Nat) (d:D):List (Option D):=(l++List.replicate (i+1-l.length) none).set i (some d)
theorem afj (h:ie Z bV l):ie Z (bV++List.replicate m none) (l++List.replicate m none):=
 h.rec (motive:=fun bV l J=>ie Z (bV++List.replicate m none) (l++List.replicate m none)) (m.rec (motive:=fun m=>ie Z ([]++List.replicate m none) ([]++List.replicate m none)) .nil fun J b=>.none b) (fun a J b=>.some a b) fun J b=>.none b
theorem UM (s5:aR Z v d) (i) (h:ie Z bV l):ie Z (bV.set i (some v)) (l.set i (some d)):=
 h.rec (motive:=fun bV l J=>∀i,ie Z (bV.set i (some v)) (l.set i (some d))) (fun J=>.nil) (fun a r b i=>i.rec (.some s5 r) fun i J=>.some a (b i)) (fun r b i=>i.rec (.some s5 r) fun i J=>.none (b i)) i
theorem abo (h:ie Z bV l):bV.length=l.length:=
 h.rec (motive:=fun bV l J=>bV.length=l.length) rfl (fun J J b=>cQ (fun x=>x+1) b) fun J b=>cQ (fun x=>x+1) b
theorem aas (s5:aR Z v d) (i) (h:ie Z bV.toList l):ie Z ((bV++Array.replicate (i+1-bV.size) none).setIfInBounds i (some v)).toList (FE l i d):=by
 refine U Array.toList_setIfInBounds (U EL (U Array.toList_replicate ?_));have:bV.size=l.length:=by refine ZB gP ?_;exact abo h
 exact U this (UM s5 i (afj h))
section
variable {prog:Program} {w:World} {A:Around} {K:Frag} {C x:Addr} {s:Shared} {R:Result→Shared→Prop}
theorem Ue (X:K.In s.heap) (bu:InstAt s.heap x DX C od) (hp:slotIn K p C=some i) (hi:i<1000)
 (h:R (.ok (.ret .none)) {s with heap:=s.heap.update x fun o=>{o with slots:=(o.slots++Array.replicate (i+1-o.slots.size) none).setIfInBounds i (some v)}}):
 codeAny (model prog w) A (.call (.builtin "member_descriptor.__set__") ⟨[.ref p,.ref x,v],[]⟩) R s:=by
 refine SJ (slot_of X hp) fun n JH owner behind pN d bV cd xz hc hm hb s4=>?_;subst s4;obtain⟨hh,g,HF,t,os⟩:=s;have BN:=bu.type (M:=model prog w);have A6:=looks_mroIn (M:=model prog w) X hm;have ZG:Looks (model prog w) hh (Slots.slotNamesOf (.ref C)) cd.slotNames:=(looks_clsIn X hc).andThen .now;have hx:=bu.at_;dsimp only at xz hx BN A6;have f0:=Ek (M:=model prog w) xz 0 (v:=.str n JH) rfl;have f1:=Ek (M:=model prog w) xz 1 (v:=owner) rfl;have f3:=Ek (M:=model prog w) xz 3 (v:=.builtin "proto.slot#set") rfl;have f4:=Ek (M:=model prog w) xz 4 (v:=.int behind pN) rfl;refine zg KF.slot_mset.plain KF.entry_mset (KF.slot_mset.check _ _ _ _ _ _ _ _ ⟨_,xz,rfl⟩ (KF.args_mset _ _ _) ?_);unfold Builtin.«member_descriptor.__set__» descrSet descrStoreThrough descrCheckInstance descrNameAndClass isInstance;have af8:Looks (model prog w) hh (descrItself (.ref p)) [.ref p]:=((Looks.ld (part:=none) xz).andThen .now).andThen (qJ (by kernel_rfl))
 repeat lk
 refine⟨GW _ (by decide+kernel),mH KF.entry_slotset ?_⟩;unfold Builtin.«proto.slot#set» Slots.target
 repeat lk
 refine U (Tk hb) ?_;refine On (u8 ?_);unfold setSlotAt;dsimp only;refine U (Tk (by refine U cV ?_;exact Nat.not_le_of_lt (fU ‹_› (by decide)))) ?_;exact wpAny_updatePart hx (On h)
end
section
variable {c:ah} {k:Nat} {O:XV} {Y:B}
theorem cy.attr (t:aV c) (ha:Y a=some (.inst C dx l)) (hd:Y dx=some (.attrs al)) (s5:cN al name=some d)
 (hg:plainGet (c8 c) C name=true) (hh:hasDictIn (c8 c) C=true) (hf:findIn (c8 c) (.ref C) name=some Option.none) (hz:Ja d=true):cy c k O Y a name d:=by
 intro A V s Z ok r Q E g;refine tD (vv r ha hd) fun bV kvs n im=>?_;refine wS ((CH im.keys im.vals name).2 d s5) fun v e1 e2=>?_;exact get_value (t.oE r.top) im.at_ (qE hg).1 (findObj_own hh hf rfl (by rw[AK,e1])) (Oz e2 hz) (g v _ Z (r.start.toks (b9 _)) e2)
theorem cy.slot (t:aV c) (ha:Y a=some (.inst C dx l)) (hd:Y dx=some (.attrs al)) (s5:l[i]?=some (some d))
 (hg:plainGet (c8 c) C name=true) (hc:isClsIn (c8 c) C=true) (hf:findIn (c8 c) (.ref C) name=some (some (.ref p))) (M2:specialIn (c8 c) (.ref p) "__get__" =some (some (.builtin "member_descriptor.__get__"))) (FS:takesIn (c8 c) (.ref p)=some true) (hp:slotIn (c8 c) p C=some i) (hz:Ja d=true):cy c k O Y a name d:=by
 intro A V s Z ok r Q E g;refine tD (vv r ha hd) fun bV kvs n im=>?_;refine wS (S4 im.slots s5) fun v e1 e2=>?_;have X:=t.oE r.top;refine get_bind X im.at_ (qE hg).1 (findObj_data hc hf M2 FS) (qE hg).2 (oM (slot_get (s:={s with toks:=s.toks+1}) X im.at_ hp ?_ (handed_on (Oz e2 hz) ?_)))
 ·dsimp only;rw[←xq,e1];rfl
 ·exact g v _ Z (r.start.toks (b9 _)) e2
theorem gS.attr (t:aV c) (ha:Y a=some (.inst C dx l)) (hd:Y dx=some (.attrs al))
 (hs:findIn (c8 c) (.ref C) "__setattr__" =some (some (.builtin "object.__setattr__"))) (hp:plainOver (c8 c) C=true) (FS:takerIn (c8 c) C name=some Option.none) (hh:hasDictIn (c8 c) C=true) (hz:al.length≤900):
 gS c k O Y a name d (Y.put dx (some (.attrs (iG al name d)))):=
 fun A V s Z v ok r s5 Q E q=>YF t r ha hd hs hp FS hh hz s5 q
theorem gS.slot (t:aV c) (ha:Y a=some (.inst C dx l)) (hd:Y dx=some (.attrs al))
 (hs:findIn (c8 c) (.ref C) "__setattr__" =some (some (.builtin "object.__setattr__"))) (hp:plainOver (c8 c) C=true) (FS:takerIn (c8 c) C name=some (some (.ref p))) (hT:typeIn (c8 c) (.ref p)=some (.type "member_descriptor")) (hi:slotIn (c8 c) p C=some i) (hz:i<1000):
 gS c k O Y a name d (Y.put a (some (.inst C dx (FE l i d)))):=by
 intro A V s Z v ok r s5 Q E q;refine tD (vv r ha hd) fun bV kvs n im=>?_;have X:=t.oE r.top;refine set_plain X im.at_ hs (osa_descr (s:={s with toks:=s.toks+1}) KF.slot_mset X im.at_ hp FS hT (Ue (s:={s with toks:=s.toks+1}) X im.at_ hi hz ?_));refine q _ (aO.put (t:=s.toks+1) (eN:=.inst C dx (FE l i d)) r.cells r.top r.sub (by refine U ha ?_;simp) (nh ..) (kZ _ im.at_.at_ rfl) (fun H=>by simp) ⟨_,rfl,aas s5 i im.slots⟩ (b9 _))
theorem f8.ga {o:Expr} {name:Str} {pos:Pos} {a:Addr} {d:D} (xz:f8 c k O Y o (.val (.ref a))) (h:cy c k O Y a name d)
 (he:∀V,eval (.Attribute o name pos) V=(do
  let iJ←eval o V
  standAt pos.atName
  let r←holding [iJ] (getAttr iJ name true)
  letTemporaryGo o iJ r
  pure r):=by intro;with_unfolding_all rfl):f8 c k O Y (.Attribute o name pos) d:=by
 intro A V s Z ok r Q E g;refine Attribute_any_ (xz A V s Z ok r _ E fun v s₁ aB EQ g8=>?_) (he V);exact g8.v (h A V s₁ aB (ok.step EQ) (r.step EQ) Q E (gk.of (c:=c) g EQ))
theorem FM.pq (he:aF c k O Y e fun d I=>f8 c k O I o (.val (.ref a))∧∃gW,gS c k O I a name d gW∧Sc (.next O gW))
 (hs:∀V,swapsWith e (some (.Attribute o name c9)) pos.line V=pure false:=by intros;rfl):FM c k O Y (.Assign [.Attribute o name c9] e pos) Sc:=by
 intro A V s bs Z ok w Q E q;refine plainObj_wpAny_Assign_Attribute (he A V s Z ok w.rd _ E fun d I v s₁ aB aq s5 aef=>Op aef fun xz TY=>wS TY fun gW Ia tM=>?_) (hs V);have w₁:=w.after aq;have jK:=ok.after aq;refine xz A V s₁ aB jK w₁.rd _ E fun Bv s₂ bA t₂ rj=>?_;refine rj.v ?_;have w₂:=w₁.step t₂;refine Ia A V s₂ bA v (jK.step t₂) w₂.rd (s5.mono t₂.le) _ E fun aG zj=>?_;exact q (.next O gW) .next aG bA ((aq.run.trans (t₂.run I)).trans zj.run) (w₂.after zj) .next tM
theorem Rs.Gf:Rs c k O Y (inplaceOp .Add) (.int a) (.int b) (.int (a+b)):=by
 intro A V s Z bk bL ok ⟨_,top,sub,_,_,_,_⟩ h₁ h₂ Q E g;refine h₁.i fun J=>?_;refine h₂.i fun J=>?_;exact iadd_int (gV g top sub (.int _ _) (b9 _))
theorem Rs.acZ:Rs c k O Y (inplaceOp .Sub) (.int a) (.int b) (.int (a-b)):=by
 intro A V s Z bk bL ok ⟨_,top,sub,_,_,_,_⟩ h₁ h₂ Q E g;refine h₁.i fun J=>?_;refine h₂.i fun J=>?_;exact isub_int (gV g top sub (.int _ _) (b9 _))
theorem FM.Df (xz:f8 c k O Y o (.val (.ref a))) (hg:cy c k O Y a name d₁) (he:f8 c k O Y e d₂) (S8:Rs c k O Y (inplaceOp op) d₁ d₂ d)
 (Ia:gS c k O Y a name d I) (tM:Sc (.next O I)):FM c k O Y (.AugAssign (.Attribute o name c9) op e pos) Sc:=by
 intro A V s bs Z ok w Q E q;refine wpAny_AugAssign_AttributeAny (xz A V s Z ok w.rd _ E fun Bv s₁ aB EQ rj=>?_);refine rj.v ?_;have w₁:=w.step EQ;have jK:=ok.step EQ;refine hg A V s₁ aB jK w₁.rd _ E fun bk s₂ bA t₂ UU=>he A V s₂ bA (jK.step t₂) (w₁.step t₂).rd _ E fun bL aG eB t₃ YT=>?_;have w₃:=(w₁.step t₂).step t₃;have uv:=(jK.step t₂).step t₃;refine S8 A V aG eB bk bL uv w₃.rd (UU.mono t₃.le) YT _ E fun v jh oJ t₄ s5=>?_;have iO:=w₃.step t₄;refine Ia A V jh oJ v (uv.step t₄) iO.rd s5 _ E fun iw aq=>?_;exact q (.next O I) .next iw oJ (((((EQ.trans t₂).trans t₃).trans t₄).run Y).trans aq.run) (iO.after aq) .next tM
end
end
section
open PySem.W PySem.Calls Builtin Builtin.ObjectAttr Builtin.Getset_descriptor
theorem adq (t:aV c) (hk:keepIn (c8 c) f=true)
 (h:wpAny c.M A (evalArgs f true args []) (fun a s₁=>c.H0.StaysIn s₁.heap∧wpAny c.M A (call f (first++a.pos) a.kw) Q E s₁) E s):wpAny c.M A (callWith pos f first args []) Q E s:=by
 unfold callWith;refine u8 (b4 (d8 h (fun a s₁ h₁=>u8 (gb ?_)) fun J J x=>x));have tail:∀{t:Sem Value},wpAny c.M A t Q E s₁→wpAny c.M A (t>>=fun r=>holding [r] point>>=fun J=>pure r) Q E s₁:=
  fun FS=>u8 (d8 FS (fun r s₂ hr=>u8 (b4 (zv (On hr)))) fun J J x=>x)
 have mk:∀m,wpAny c.M A (callMarked m f (first++a.pos) a.kw) Q E s₁:=fun m=>by unfold callMarked;exact Calls.wpAny_keep h₁.2
 refine wS (looks_keep (M:=c.M) hk (t.oE h₁.1)) fun dM N5 lk=>?_;refine u8 (lk.here ?_);have op:∀H,wpAny c.M A (operate H (call f (first++a.pos) a.kw)) Q E s₁:=fun H Γ p uu=>by rw[Sem.wp_operate];exact h₁.2 Γ p uu
 cases hs:(args.any Prod.fst||([]:List (Option Str×Sem Value)).any (fun x=>x.1.isNone))with
 |false=>
  obtain rfl|rfl:=N5
  ·show wpAny c.M A (if args.length+2*([]:List (Option Str×Sem Value)).length>30 then(call f (first++a.pos) a.kw>>=fun r=>holding [r] point>>=fun J=>pure r)else(callMarked plainCall f (first++a.pos) a.kw>>=fun r=>holding [r] point>>=fun J=>pure r)) Q E s₁;split
   ·exact tail h₁.2
   ·exact tail (mk _)
  ·exact tail h₁.2
 |true=>
  obtain rfl|rfl:=N5
  ·exact tail (mk _)
  ·exact tail (op _)
section
variable {c:ah} {k:Nat} {O:XV} {Y:B}
theorem Ok.Xs (x:Ok c (k+1) A s):Ok c k (A.under (.builtin "type.__call__" ⟨.ref C::H,[]⟩)) s:=by
 refine⟨?_,?_,?_,x.tok,x.hand⟩
 ·have:=x.depth;show A.depth+1+k<900;exact oZ ‹_›
 ·have:=x.units;have e:(A.under (.builtin "type.__call__" ⟨.ref C::H,[]⟩)).units=A.units+(Code.builtin "type.__call__" ⟨.ref C::H,[]⟩).cUnits:=rfl;have e2:(Code.builtin "type.__call__" ⟨.ref C::H,[]⟩).cUnits≤60:=by show(Code.builtin "type.__call__" ⟨[],[]⟩).cUnits≤60;decide+kernel
  exact U e (C7 this e2)
 ·refine wS (x.frames) fun l a b=>?_;exact⟨l,by show(A.under _).frames=_;refine ZB a ?_;rfl,b⟩
theorem Xy {Sc:D→B→Prop} {Q E:Value→Shared→Prop} (t:aV c) (hm:makesIn (c8 c) C=true) (hi:findIn (c8 c) (.ref C) "__init__" =some (some (.ref Ar))) (IP:typeIn (c8 c) (.ref Ar)=some (.type "function"))
 (zd:∀x dx,Y x=Option.none→Y dx=Option.none→x≠dx→eS c k (.ref Ar) (.val (.ref x)::ds) ((Y.put dx (some (.attrs []))).put x (some (.inst C dx []))) (fun d I=>d= .val .none∧Sc (.val (.ref x)) I))
 (ok:Ok c (k+1) A s) (top:c.H0.StaysIn s.heap) (sub:Sub Z s.heap) (mo:gy c Z s.heap Y) (bf:au Z H ds)
 (q:∀d I v s' Z',aO c Y s Z I s' Z'→aR Z' v d→Sc d I→Q v s'):wpAny c.M A (call (.ref C) H) Q E s:=by
 have X:=t.oE top;obtain⟨hh,g,d,tk,os⟩:=s;refine oM (make_core (makes_of X hm) (looks_findIn X hi) (fun self=>bind_fn X self IP) (.inl rfl) ?_);have o9:aO c Y ⟨hh,g,d,tk,os⟩ Z (Y.put hh.objs.size (some (.attrs []))) ⟨hh.push emptyDict,g,d,tk,os⟩ Z:=
  aO.new (s:=⟨hh,g,d,tk,os⟩) (t:=tk) (cl:=.attrs []) (o:=emptyDict) mo top sub rfl ⟨[],0,rfl,rfl,.nil⟩ (aI _)
 have mU:(hh.push emptyDict).objs.size=hh.objs.size+1:=eX ..;have aeo:aO c (Y.put hh.objs.size (some (.attrs []))) ⟨hh.push emptyDict,g,d,tk,os⟩ Z ((Y.put hh.objs.size (some (.attrs []))).put (hh.objs.size+1) (some (.inst C hh.objs.size []))) ⟨(hh.push emptyDict).push (instObj C hh.objs.size),g,d,tk,os⟩ Z:=by
  have:=aO.new (s:=⟨hh.push emptyDict,g,d,tk,os⟩) (t:=tk) (cl:=.inst C hh.objs.size []) (o:=instObj C hh.objs.size) o9.cells o9.top o9.sub rfl ⟨#[],rfl,.nil⟩ (aI _);rw[mU]at this;exact this
 have aq:=o9.trans aeo;have fr:∀a,hh.objs.size≤a→Y a=Option.none:=fun a ha=>by
  induction e:Y a with
  |none=>rfl
  |some cl=>
   obtain⟨⟨o,xz,_⟩,_⟩:=mo a cl e;exact absurd (cJ xz) (eL.mpr ha)
 refine zd (hh.objs.size+1) hh.objs.size (fr _ (b9 _)) (fr _ (aI _)) (iE (jM _)) _ _ Z (.ref (hh.objs.size+1)::H) ((ok.Xs).af aq.af) aq.top aq.sub (.cons (.val _) bf) aq.cells _ fun cz I v s' Z' aeM s5 hp=>?_;obtain⟨rfl,hp⟩:=hp;exact s5.v ⟨rfl,q _ I _ s' Z' (aq.trans aeM) (.val _) hp⟩
theorem aF.make (t:aV c) (hf:f8 c (k+1) O Y (.Name n p) (.val (.ref C))) (hk:keepIn (c8 c) (.ref C)=true) (ha:iA c (k+1) O Y args ds) (hm:makesIn (c8 c) C=true) (hi:findIn (c8 c) (.ref C) "__init__" =some (some (.ref Ar))) (IP:typeIn (c8 c) (.ref Ar)=some (.type "function"))
 (zd:∀x dx,Y x=Option.none→Y dx=Option.none→x≠dx→eS c k (.ref Ar) (.val (.ref x)::ds) ((Y.put dx (some (.attrs []))).put x (some (.inst C dx []))) (fun d I=>d= .val .none∧Sc (.val (.ref x)) I))
 (hs:∀V,(starEach args V).all (fun y=>!y.1)=true:=by intro;rfl):aF c (k+1) O Y (.Call (.Name n p) args [] pos) Sc:=by
 intro A V s Z ok r Q E q;refine rN (hf A V s Z ok r _ E fun v s₁ aB EQ s5=>?_);refine s5.v ?_;show wpAny c.M A (callWith pos (.ref C) [] (backTo pos (starEach args V)) []) Q E s₁;refine adq t hk (nQ ha (ok.step EQ) (r.step EQ) hs fun H s₂ bA t₂ bf=>⟨t₂.top,?_⟩);have st:=EQ.trans t₂;have r₂:=(r.step EQ).step t₂;exact Xy t hm hi IP zd (ok.step st) r₂.top r₂.sub r₂.cells bf fun d I v s' Z' aq s5 hp=>q d I v s' Z' ((st.after r).trans aq) s5 hp
end
end
section
open PySem.W
noncomputable def wo:D→Bool
 | .val v=>v== .none
 |_=>false
theorem HH (h:aR Z v d):(v== .none)=wo d:=by cases h<;>rfl
section
variable {c:ah} {k:Nat} {O NE:XV} {Y:B} {Sc:fD→Prop}
theorem Rs.isNone:Rs c k O Y (compareOp .Is) d (.val .none) (.val (.bool (wo d))):=by
 intro A V s Z bk bL ok r h₁ h₂ Q E g;have top:=r.top;have sub:=r.sub;refine h₂.v ?_;rw[←HH h₁]at g;exact is_none_gen (kR g top sub (.val _))
theorem Rs.isNotNone:Rs c k O Y (compareOp .IsNot) d (.val .none) (.val (.bool (!wo d))):=by
 intro A V s Z bk bL ok r h₁ h₂ Q E g;have top:=r.top;have sub:=r.sub;refine h₂.v ?_;rw[←HH h₁]at g;exact isnot_none_gen (kR g top sub (.val _))
theorem FM.Pf (he:f8 c k O Y e d) (eW:dX n d O NE) (No:wo d=true→wE c k NE Y t9 Sc) (M2:wo d=false→wE c k NE Y uX Sc):
 FM c k O Y (.If (.Compare (.NamedExpr (.Name n p) e Ao) [.Is] [.Constant .none m q] uG) t9 uX pos) Sc:=by
 intro A V s bs Z ok w Q E q';refine wpAny_If (Ic (wpAny_NamedExpr (he A V s Z ok w.rd _ E fun v s₁ aB t s5=>wG (nM (w.step t) eW s5 fun s₂ af w₂=>?_))));refine On ?_;rw[←HH s5]at No M2;have run:e8 Y s Z Y s₂ aB:=(t.run Y).trans ⟨af,.refl _,fun J J h=>.inl h,fun J h=>.inl h⟩;have mh:=ok.af run.af;refine is_none_gen (yE ?_)
 induction hb:v==Value.none with
 |true=>exact No hb A V s₂ bs aB mh w₂ Q E (n5.of (c:=c) q' run)
 |false=>exact M2 hb A V s₂ bs aB mh w₂ Q E (n5.of (c:=c) q' run)
theorem FM.W9 (he:aF c k O Y e fun d I=>f8 c k O I o (.val (.ref a))∧f8 c k O I i (.str x)∧∃l,I a=some (.dict l)∧l.length≤1000000∧∃NE,dX n d O NE∧aX (.next NE (I.put a (some (.dict (fZ l x d))))))
 (hi:∀V v,PySem.assign (.Subscript o i p) V v=(do
  let iJ←holding [v] (eval o V)
  let GY←holding [v,iJ] (eval i V)
  standAt p
  holding [v,iJ,GY] (setItem iJ GY v)
  release [v,iJ,GY] []):=by intros;rfl)
 (h2:∀V,(assignEach [.Subscript o i p,.Name n sH] V).map Prod.snd=[PySem.assign (.Subscript o i p) V,PySem.assign (.Name n sH) V]:=by intros;rfl)
 (hw:∀V,swappedStores [.Subscript o i p,.Name n sH] e V=pure Option.none:=by intros;rfl):FM c k O Y (.Assign [.Subscript o i p,.Name n sH] e pos) aX:=by
 intro A V s bs Z ok w Q E q;refine wpAny_Assign_two (he A V s Z ok w.rd _ E fun d I v s₁ aB aq s5 abZ=>b5 abZ fun xz lE ac3=>aU ac3 fun l ha hz Zb=>wS Zb fun NE eW Ab=>?_) (h2 V) (hw V);have w₁:=w.after aq;have jK:=ok.after aq;rw[hi];refine u8 (b4 (xz A V s₁ aB jK w₁.rd _ E fun Bv s₂ bA t₂ rj=>u8 (b4 (lE A V s₂ bA (jK.step t₂) (w₁.rd.step t₂) _ E fun FH aG eB t₃ uS=>?_))));refine rj.v ?_;refine uS.s fun J=>?_;have w₃:=(w₁.step t₂).step t₃;refine Op (sP w₃.rd ha) fun _ aak=>d9 aak fun kvs hd e1 e2 _=>?_;have OE:=(s5.mono t₂.le).mono t₃.le;refine u8 (gb (u8 (b4 (wpAny_setItem_pairs (knd:=PySem.strKind c.p c.w) (k:=x) (oh ..) hd (fun h' hd' av=>?_) (by refine U (yM (Z:=eB) e1) (U cV ?_);exact Ev ‹_› (by decide))))));refine wpAny_release ?_;refine Op (FQ e1 e2 (x:=x) OE) fun i1 cR=>?_;have xC:=Ep (t:=aG.toks+1) w₃.rd ha hd' i1 cR av (b9 _);have run:=((aq.run.trans (t₂.run I)).trans (t₃.run I)).trans xC.run;refine wG (nM (w₃.after xC) eW (OE.mono xC.le) fun iw af ic=>?_);exact q (.next NE _) .next _ _ (run.trans ⟨af,.refl _,fun J J h=>.inl h,fun J h=>.inl h⟩) ic .next Ab
end
theorem lX.star (hz:ds.length≤1000)
 (h:∀bk bL:Value,∀H:List Value,bindArgs fd ⟨bk::bL::H,[]⟩=(do let t←newTuple H;pure [(n₁,bk),(pg,bL),(oQ,t)])):lX c fd [(n₁,k₁),(pg,k₂),(oQ,uT)] (d₁::d₂::ds) [d₁,d₂,.tup ds]:=by
 intro A s Z H top sub bf Q E q;refine bf.c fun h1 bf=>?_;refine bf.c fun h2 bf=>?_;rw[h];refine u8 (DM top sub bf (by refine U cV ?_;exact Ev ‹_› (by decide)) fun v s' Z' t s5=>?_);exact On (q [_,_,v] s' Z' t (.cons (h1.mono t.le) (.cons (h2.mono t.le) (.cons s5 .nil))))
theorem lX.VJ (hz:ds.length≤1000)
 (h:∀bk:Value,∀H:List Value,bindArgs fd ⟨bk::H,[]⟩=(do let t←newTuple H;pure [(n₁,bk),(oQ,t)])):lX c fd [(n₁,k₁),(oQ,uT)] (d₁::ds) [d₁,.tup ds]:=by
 intro A s Z H top sub bf Q E q;refine bf.c fun h1 bf=>?_;rw[h];refine u8 (DM top sub bf (by refine U cV ?_;lia) fun v s' Z' t s5=>?_);exact On (q [_,v] s' Z' t (.cons (h1.mono t.le) (.cons s5 .nil)))
theorem Xu (pm cd) (bk bL):∀H:List Value,bindArgs (d_ (ek 6 2) "TopologicalSorter.add" .none pm cd) ⟨bk::bL::H,[]⟩=(do let t←newTuple H;pure [("self",bk),("node",bL),("predecessors",t)]):=fun k7=>by
 induction k7 with
 |nil=>exact rfl
 |cons _ _ mq=>exact rfl
theorem aem (pm cd) (bk):∀H:List Value,bindArgs (d_ (ek 6 7) "TopologicalSorter.done" .none pm cd) ⟨bk::H,[]⟩=(do let t←newTuple H;pure [("self",bk),("nodes",t)])
 |[]=>rfl
 |_::_=>rfl
end
section
open PySem.W
section
variable {c:ah} {k:Nat} {O:XV} {Y:B}
theorem cy.np (t:aV c) (h:jS Y a n):cy c k O Y a.i "npredecessors" (.int n.np):=cy.slot t h.1 h.2.1 rfl (JQ ..) (Ju ..) (JJ ..) (Vk ..) (Gi ..) (Iv ..) rfl
theorem cy.succ (t:aV c) (h:jS Y a n):cy c k O Y a.i "successors" (.val (.ref a.l)):=cy.slot t h.1 h.2.1 rfl (JQ ..) (Ju ..) (OS ..) (afD ..) (Lz ..) (Oo ..) rfl
theorem cy.node (t:aV c) (h:jS Y a n):cy c k O Y a.i "node" (.str n.name):=cy.slot t h.1 h.2.1 rfl (JQ ..) (Ju ..) (Si ..) (adj ..) (P1 ..) (Pw ..) rfl
theorem gS.np (t:aV c) (h:jS Y a n):gS c k O Y a.i "npredecessors" (.int v) (Y.put a.i (some (.inst 40 a.d [some (.str n.name),some (.int v),some (.val (.ref a.l))]))):=
 gS.slot (p:=42) (i:=1) t h.1 h.2.1 (CG ..) (D4 ..) (El (JJ ..) (Gi ..)) (Qi ..) (Iv ..) (by decide)
theorem afa (t:aV c) (hx:Y x=some (.inst 40 dx [])) (hd:Y dx=some (.attrs [])):
 eS c (k+1) (.ref 36) [.val (.ref x),.str nm] Y (fun d I=>d= .val .none∧∃L,Y L=Option.none∧jS I ⟨x,dx,L⟩ ⟨nm,0,[]⟩∧∀b,b≠x→b≠L→I b=Y b):=by
 have bg:dx≠x:=by rintro rfl;rw[hx]at hd;cases hd
 refine eS.fn (st:=ek 4 1) (qual:="_NodeInfo.__init__") (dV:=.none) (ps:=[("self",.loc),("node",.loc)]) (ls:=[]) (gs:=[]) (t.fn rfl rfl rfl rfl) (by kd_p) cI rfl (fun J J=>.plain rfl (sD fun J J=>rfl)) ?_;intro bP;replace t:=t.at (L:=bP);generalize c.at bP=c at t⊢
 kst_p
 refine wE.cons (FM.pq (.nt (d:=.str nm) (by kd_p) ⟨by kd_p,_,gS.slot (p:=41) (i:=0) t hx hd (CG ..) (D4 ..) (El (Si ..) (P1 ..)) (V3 ..) (Pw ..) (by decide),?_⟩));have w4:(Y.put x (some (.inst 40 dx [some (.str nm)]))) dx=some (.attrs []):=(B.aa _ _ bg).trans hd;refine wE.cons (FM.pq (.nt (d:=.int 0) (by kd_p) ⟨by kd_p,_,gS.slot (p:=42) (i:=1) t (B.ai ..) w4 (CG ..) (D4 ..) (El (JJ ..) (Gi ..)) (Qi ..) (Iv ..) (by decide),?_⟩));refine wE.cons (FM.pq (aF.newList .nil (by simp) fun L aW=>⟨by kd_p,_,gS.slot (p:=43) (i:=2) (al:=[]) t ((B.aa _ _ (by rintro rfl;rw[B.ai]at aW;cases aW)).trans (B.ai ..)) ?_ (CG ..) (D4 ..) (El (OS ..) (Lz ..)) (adN ..) (Oo ..) (by decide),?_⟩))
 ·have Ag:dx≠L:=by
   rintro rfl;rw[B.aa _ _ bg,B.aa _ _ bg,hd]at aW;cases aW
  refine U (B.aa _ _ Ag) (U (B.aa _ _ bg) ?_);exact w4
 refine wE.nil ?_;have FN:L≠x:=by rintro rfl;rw[B.ai]at aW;cases aW
 have Ag:dx≠L:=by
  rintro rfl;rw[B.aa _ _ bg,B.aa _ _ bg,hd]at aW;cases aW
 refine⟨rfl,L,?_,⟨B.ai ..,?_,?_⟩,fun b h1 h2=>?_⟩
 ·rw[B.aa _ _ FN,B.aa _ _ FN]at aW;exact aW
 ·refine U (B.aa _ _ bg) (U (B.aa _ _ Ag) (U (B.aa _ _ bg) ?_));exact w4
 ·exact U (B.aa _ _ FN) (B.ai ..)
 ·exact U (B.aa _ _ h1) (U (B.aa _ _ h2) (U (B.aa _ _ h1) (U (B.aa _ _ h1) rfl)))
theorem cy.fF {S:Addr} {y:b3} {st:St} (t:aV c) (h:bI Y S y st):cy c k O Y S "_node2info" (.val (.ref y.N)):=cy.attr t h.inst h.attrs rfl (jC ..) (kP ..) (DJ ..) rfl
theorem cy.gH {S:Addr} {y:b3} {st:St} (t:aV c) (h:bI Y S y st):cy c k O Y S "_ready_nodes" (yW y.rs):=cy.attr t h.inst h.attrs rfl (jC ..) (kP ..) (DW ..) (by cases y.rs<;>rfl)
theorem cy.Ry {S:Addr} {y:b3} {st:St} (t:aV c) (h:bI Y S y st):cy c k O Y S "_npassedout" (.int st.j_):=cy.attr t h.inst h.attrs rfl (jC ..) (kP ..) (Gs ..) rfl
theorem cy.fin {S:Addr} {y:b3} {st:St} (t:aV c) (h:bI Y S y st):cy c k O Y S "_nfinished" (.int st.fin):=cy.attr t h.inst h.attrs rfl (jC ..) (kP ..) (Jl ..) rfl
noncomputable def u6:St:=⟨[],none,0,0⟩
theorem acq (t:aV c) (hx:Y x=some (.inst 137 dx [])) (hd:Y dx=some (.attrs [])):
 eS c (k+1) (.ref 73) [.val (.ref x)] Y (fun d I=>d= .val .none∧∃N,Y N=Option.none∧bI I x ⟨dx,N,[],[]⟩ u6∧∀b,b≠dx→b≠N→I b=Y b):=by
 have bg:dx≠x:=by rintro rfl;rw[hx]at hd;cases hd
 refine eS.fn (st:=ek 6 0) (qual:="TopologicalSorter.__init__") (dV:=.ref 66) (ps:=[("self",.loc),("graph",.loc)]) (ls:=[("node",.loc),("predecessors",.loc)]) (gs:=[]) (ds:=[.val (.ref x),.val .none]) (t.fn rfl rfl rfl rfl) (by kd_p) cI rfl (fun pm cd=>?_) ?_
 ·intro A s Z H top sub bf Q E q;refine wS (iN bf) fun v s4 s5=>?_;subst s4;refine s5.v ?_;refine binds_K (K:=c8 c) (t.oE top) rfl (show(c8 c).lookup 66=some {cls:=(.type "tuple"),dict:=Option.none,data:=(.seq #[.none] 0),slots:=#[]}from rfl) rfl rfl rfl _ _ _ _ (q [.ref x,.none] s Z (.refl top sub) (.cons (.val _) (.cons (.val _) .nil)))
 intro bP;replace t:=t.at (L:=bP);generalize c.at bP=c at t⊢
 kst_p
 refine wE.cons (FM.pq (aF.newDict fun N cP=>⟨by kd_p,_,gS.attr (dx:=dx) (al:=[]) (l:=[]) (C:=137) t ?_ ?_ (sL ..) (se ..) (rO (DJ ..)) (kP ..) (by simp),?_⟩))
 ·exact(B.aa _ _ (by rintro rfl;rw[hx]at cP;cases cP)).trans hx
 ·exact(B.aa _ _ (by rintro rfl;rw[hd]at cP;cases cP)).trans hd
 have acp:x≠N:=by rintro rfl;rw[hx]at cP;cases cP
 have M4:dx≠N:=by rintro rfl;rw[hd]at cP;cases cP
 have XH:∀(al:List (Str×D)),∃m:B,(m x=some (.inst 137 dx [])∧m dx=some (.attrs al)∧m N=some (.dict [])∧∀b,b≠dx→b≠N→m b=Y b)∧m=(Y.put N (some (.dict []))).put dx (some (.attrs al)):=fun al=>
  ⟨_,⟨(B.aa _ _ bg.symm).trans ((B.aa _ _ acp).trans hx),B.ai ..,(B.aa _ _ M4.symm).trans (B.ai ..),fun b h1 h2=>(B.aa _ _ h1).trans (B.aa _ _ h2)⟩,rfl⟩
 refine wS (XH (iG [] "_node2info" (.val (.ref N)))) fun nP aH e1=>?_;refine mz aH fun a1 a2 iP iQ=>?_;refine ZB e1 ?_;refine wE.cons (FM.pq (.nt (d:=.val .none) (by kd_p) ⟨by kd_p,_,gS.attr t a1 a2 (sL ..) (se ..) (rO (DW ..)) (kP ..) (by simp[Iw,aa8]),?_⟩));refine wE.cons (FM.pq (.nt (d:=.int 0) (by kd_p) ⟨by kd_p,_,gS.attr (al:=iG (iG [] "_node2info" (.val (.ref N))) "_ready_nodes" (.val .none)) t ((B.aa _ _ bg.symm).trans a1) (B.ai ..) (sL ..) (se ..) (rO (Gs ..)) (kP ..) (NY (by kd_p)),?_⟩));refine U B.m6 ?_;refine wE.cons (FM.pq (.nt (d:=.int 0) (by kd_p) ⟨by kd_p,_,gS.attr (al:=iG (iG (iG [] "_node2info" (.val (.ref N))) "_ready_nodes" (.val .none)) "_npassedout" (.int 0)) t ((B.aa _ _ bg.symm).trans a1) (B.ai ..) (sL ..) (se ..) (rO (Jl ..)) (kP ..) (NY (by kd_p)),?_⟩));refine U B.m6 ?_;refine wE.cons (FM.ifs (b:=false) (az.cmp (d₁:=.val .none) (d₂:=.val .none) (by kd_p) (by kd_p) Rs.isNotNone) (fun h=>(by injection h)) fun J=>wE.nil ?_);refine wE.nil ?_;refine⟨rfl,N,cP,⟨(B.aa _ _ bg.symm).trans a1,?_,(B.aa _ _ M4.symm).trans iP,.nil,rfl,by simp,by simp⟩,fun b h1 h2=>(B.aa _ _ h1).trans (iQ b h1 h2)⟩;rw[B.ai];rfl
theorem aF.afA (t:aV c) (hf:f8 c (k+2) O Y (.Name "TopologicalSorter" p) (.val (.ref 137)))
 (h:∀S y I,bI I S y u6→bJ [] Y (y.foot S) I→Sc (.val (.ref S)) I):aF c (k+2) O Y (.Call (.Name "TopologicalSorter" p) [] [] pos) Sc:=by
 refine aF.make t hf (WT ..) .nil (Wj ..) (Vs ..) (ab4 ..) (fun x dx hx hdx bg=>?_);have q2:((Y.put dx (some (.attrs []))).put x (some (.inst 137 dx []))) x=some (.inst 137 dx []):=B.ai ..;have fH:((Y.put dx (some (.attrs []))).put x (some (.inst 137 dx []))) dx=some (.attrs []):=(B.aa _ _ bg.symm).trans (B.ai ..);refine fun A s Z H ok top sub bf mo R q=>acq (k:=k) t q2 fH A s Z H ok top sub bf mo R fun d I v s' Z' aq s5 Yk=>Op Yk fun hd VY=>aU VY fun N cP hs hb=>q d I v s' Z' aq s5 ⟨hd,h x _ I hs ⟨fun b J dQ=>?_,fun b dQ=>?_⟩⟩
 ·have h1:b≠x:=by rintro rfl;exact dQ hx
  have h2:b≠dx:=by rintro rfl;exact dQ hdx
  have h3:b≠N:=by
   rintro rfl;rw[B.aa _ _ h1,B.aa _ _ h2]at cP;exact dQ cP
  exact U (hb b h2 h3) (U (B.aa _ _ h1) (U (B.aa _ _ h2) rfl))
 ·right;unfold b3.foot at dQ;simp only[uq,fV,a_,eF,g5]at dQ;obtain rfl|rfl|rfl:=dQ
  ·exact hx
  ·exact hdx
  ·by_cases h1:b=x
   ·exact U h1 hx
   ·by_cases h2:b=dx
    ·exact U h2 hdx
    ·rw[B.aa _ _ h1,B.aa _ _ h2]at cP;exact cP
end
end
section
open PySem.W
theorem jS.keep (x:e9 Y I) (h:jS Y a n):jS I a n:=⟨x.some h.1,x.some h.2.1,x.some h.2.2⟩
theorem c6.keep (x:e9 Y I) (h:c6 Y as ns):c6 I as ns:=by
 induction h with
 |nil=>exact .nil
 |cons h _ ih=>exact .cons (h.keep x) ih
theorem bI.keep {Y I:B} (x:e9 Y I) {S:Addr} {y:b3} {st:St} (h:bI Y S y st):bI I S y st:=
 ⟨x.some h.inst,x.some h.attrs,x.some h.fF,h.dO.keep x,h.gH.congr fun J J J e=>x.some e,h.q7,h.pW⟩
noncomputable def dH (st:St) (x:Str):St:=match eg st.nodes x with
 |some _=>st
 |none=>{st with nodes:=st.nodes++[⟨x,0,[]⟩]}
theorem NL:∀{Y:B} {as:List eG} {ns:List bQ},c6 Y as ns→∀{x:Str} {a:eG} {n:bQ},eg ns x=none→n.name=x→gf (as++[a]) (ns++[n]) x=some (a,n)
 |_,_,_,.nil,x,a,n,_,e=>by simp[m8,U5,e]
 |_,_,_,.cons (a:=b) (n:=m) (as:=as) (ns:=ns) _ h,x,a,n,q,e=>by
  rw[nL]at q;by_cases z:m.name=x
  ·rw[ak z]at q;injection q
  ·rw[Tk z]at q;show gf (b::(as++[a])) (m::(ns++[n])) x=_;rw[m8];exact U (Tk z) (NL h q e)
theorem PW:∀{ns:List bQ} {x:Str},eg ns x=none→x∉ns.map (fun x=>x.name)
 |[],_,_=>by simp
 |n::ns,x,h=>by
  rw[nL]at h;by_cases q:n.name=x
  ·rw[ak q]at h;injection h
  ·rw[Tk q]at h;rw[aK,a_,pT];exact⟨fun e=>q e.symm,PW h⟩
section
variable {c:ah} {k:Nat} {O:XV} {Y:B}
theorem f8.cN (xz:f8 c k O Y o (.val (.ref a))) (he:f8 c k O Y e (.str x)) (ha:Y a=some (.dict l))
 (fO:∀V,attributeBase o "get" V (eval o V)=eval o V:=by kd_p) (hs:∀V,starEach [e] V=[(false,eval e V)]:=by kd_p)
 (f6:(c9.endLine==pos.line)=true:=by rfl):f8 c k O Y (.Call (.Attribute o "get" c9) [e] [] pos) ((Internal.cN l x).getD (.val .none)):=
 f8.nq xz (.dict ha) Cu OD PySem.F.type_dict_get (.cons he .nil hs) (b8.cN ha) fO (fun V=>by rw[hs];rfl) (fun V=>by rw[hs];rfl) f6
theorem OX {S:Addr} {y:b3} {st:St} {x:Str} (t:aV c) (h:bI Y S y st) (hr:st.ready=Option.none) (hz:st.nodes.length≤1000):
 cD c (k+3) (.ref 80) [.val (.ref S),.str x] Y (fun d I=>∃gx a n,d= .val (.ref a.i)∧bI I S gx (dH st x)∧bJ (y.foot S) Y (gx.foot S) I∧gf gx.as (dH st x).nodes x=some (a,n)∧jS I a n∧gx.rs=y.rs):=by
 refine cD.fn (st:=ek 6 1) (qual:="TopologicalSorter._get_nodeinfo") (dV:=.none) (ps:=[("self",.loc),("node",.loc)]) (ls:=[("result",.loc)]) (gs:=[("_NodeInfo",.ref 40)]) (t.fn rfl rfl rfl rfl) (by kd_p) (bC (t.glob (by kd_p)) cI) rfl (fun J J=>.plain rfl (sD fun J J=>rfl)) ?_;intro bP;replace t:=t.at (L:=bP);generalize c.at bP=c at t⊢
 kst_p
 have hg:=vM y.as st.nodes x;refine wE.cons (FM.Pf (f8.cN (f8.ga (by kd_p) (cy.fF t h)) (by kd_p) h.fF) (by kd_in) (fun M2=>?_) (fun M2=>wE.nil ?_))
 ·have EB:eg st.nodes x=none:=by
   induction e:eg st.nodes x with
   |none=>rfl
   |some n=>
    refine wS (h.dO.find e) fun a i1 J=>?_;rw[hg,i1]at M2;injection M2
  refine U hg (U (h.dO.find_none EB) ?_);dsimp only[Option.map_none,Option.getD_none];have hkey:x∉(iy y.as st.nodes).map Prod.fst:=by refine U h.dO.keys ?_;exact PW EB
  refine wE.cons (FM.W9 (a:=y.N) (x:=x) (aF.make t (by kd_p) (Zq ..) (.cons (by kd_p) .nil (by kd_p)) (abI ..) (XF ..) (X8 ..) (fun i d hi hd bg=>?_)));have q2:((Y.put d (some (.attrs []))).put i (some (.inst 40 d []))) i=some (.inst 40 d []):=B.ai ..;have fH:((Y.put d (some (.attrs []))).put i (some (.inst 40 d []))) d=some (.attrs []):=(B.aa _ _ bg.symm).trans (B.ai ..);refine fun A s Z H ok top sub bf mo R q=>afa (k:=k) t q2 fH A s Z H ok top sub bf mo R fun dd I v s' Z' aq s5 UR=>Op UR fun WJ afL=>aU afL fun L aW hat hb=>q dd I v s' Z' aq s5 ⟨WJ,?_⟩;clear q aq s5;have Px:L≠i:=by rintro rfl;rw[B.ai]at aW;injection aW
  have Ag:L≠d:=by rintro rfl;rw[B.aa _ _ Px,B.ai]at aW;injection aW
  have II:Y L=none:=by rw[B.aa _ _ Px,B.aa _ _ Ag]at aW;exact aW
  have dM:e9 Y I:=fun b dQ=>by
   have h1:b≠i:=by rintro rfl;exact dQ hi
   have h2:b≠d:=by rintro rfl;exact dQ hd
   have h3:b≠L:=by rintro rfl;exact dQ II
   exact U (hb b h1 h3) (U (B.aa _ _ h1) (U (B.aa _ _ h2) rfl))
  have h':=h.keep dM;refine⟨f8.ga (by kd_p) (cy.fF t h'),by kd_p,_,h'.fF,by refine U h'.dO.yL ?_;exact Ev ‹_› (by decide),_,by kd_in,?_⟩;refine wE.nil ?_;refine wE.cons (FM.ret (d:=.val (.ref i)) (by kd_p) ?_);refine U (Cj hkey) ?_;have u_:dH st x={st with nodes:=st.nodes++[⟨x,0,[]⟩]}:=by unfold dH;exact U EB rfl
  have hrs:y.rs=[]:=by have:=h.gH;rw[hr]at this;exact this
  have mj:∀b,I b≠some (.dict (iy y.as st.nodes))→b≠y.N:=fun b dQ e=>by rw[e]at dQ;exact dQ h'.fF
  refine Qm ({y with as:=y.as++[⟨i,d,L⟩]}) ⟨i,d,L⟩ ⟨x,0,[]⟩ rfl ?_ ?_ (by refine U u_ ?_;exact NL h.dO EB rfl) ?_ rfl
  ·refine U u_ ?_;have aa7:=mj S (by refine U h'.inst ?_;simp);have ac4:=mj y.iu (by refine U h'.attrs ?_;simp);refine⟨(B.aa _ _ aa7).trans h'.inst,(B.aa _ _ ac4).trans h'.attrs,?_,?_,?_,?_,?_⟩
   ·show(I.put y.N _) y.N=_;rw[B.ai,aej h.dO]
   ·refine(h'.dO.snoc hat).congr fun a ha=>?_;have:∃n,jS I a n:=by
     obtain ha|ha:=b_.mp ha
     ·refine wS (h'.dO.mem a ha) fun n J M2=>?_;exact⟨n,M2⟩
     ·obtain rfl:=fG.mp ha;exact⟨_,hat⟩
    refine aU this fun n n1 b6 dS=>?_;exact⟨B.aa _ _ (mj _ (by refine U n1 ?_;simp)),B.aa _ _ (mj _ (by refine U b6 ?_;simp)),B.aa _ _ (mj _ (by refine U dS ?_;simp))⟩
   ·show yK _ y.rs st.ready;exact U hr hrs
   ·show((y.as++[(⟨i,d,L⟩:eG)]).map (fun a=>a.i)).Nodup;rw[gK,kq];refine⟨h.q7,by simp,fun u cW v s5=>?_⟩;simp only[aK,sq,fG]at s5;subst s5;refine wS (ao.mp cW) fun b dQ s4=>?_;subst s4;refine aU (h.dO.mem b dQ) fun n J n1 J=>?_;rintro e;rw[e,hi]at n1;injection n1
   ·show((y.as++[(⟨i,d,L⟩:eG)]).map (fun a=>a.l)++y.rs).Nodup;have hnl:=h.pW;rw[hrs,fV]at hnl⊢;rw[gK,kq];refine⟨hnl,by simp,fun u cW v s5=>?_⟩;simp only[aK,sq,fG]at s5;subst s5;refine wS (ao.mp cW) fun b dQ s4=>?_;subst s4;refine d9 (h.dO.mem b dQ) fun n J J J n1=>?_;rintro e;rw[e,II]at n1;injection n1
  ·refine⟨fun b dQ hm=>?_,fun b dQ=>?_⟩
   ·have:b≠y.N:=by rintro rfl;exact dQ (y.Ky S)
    exact U (B.aa _ _ this) (dM b hm)
   ·unfold b3.foot at dQ⊢;simp only[Bb,a_,b_,jZ,uq,eF,g5]at dQ⊢;obtain h1|h1|h1|h1|h1|h1|h1|h1:=dQ
    ·exact .inl (.inl h1)
    ·exact .inl (.inr (.inl h1))
    ·exact .inl (.inr (.inr (.inl h1)))
    ·exact .inl (.inr (.inr (.inr (.inl h1))))
    ·exact .inl (.inr (.inr (.inr (.inr h1))))
    ·exact U h1 (.inr hi)
    ·exact U h1 (.inr hd)
    ·exact U h1 (.inr II)
  ·refine b5 hat fun n1 b6 dS=>?_;exact⟨(B.aa _ _ (mj _ (by refine U n1 ?_;simp))).trans n1,(B.aa _ _ (mj _ (by refine U b6 ?_;simp))).trans b6,(B.aa _ _ (mj _ (by refine U dS ?_;simp))).trans dS⟩
 ·obtain⟨n,e⟩:∃n,eg st.nodes x=some n:=by
   induction e:eg st.nodes x with
   |some n=>exact⟨n,rfl⟩
   |none=>rw[hg,h.dO.find_none e]at M2;injection M2
  refine d9 (h.dO.find e) fun a i1 cR fk uK=>?_;refine U hg (U i1 ?_);dsimp only[Option.map_some,Option.getD_some];refine wE.cons (FM.ret (d:=.val (.ref a.i)) (by kd_p) ?_);have u_:dH st x=st:=by unfold dH;exact U e rfl
  exact U u_ (Qm y a n rfl h (bJ.refl _ _) i1 fk rfl)
end
end
section
open PySem.W
theorem uc:∀{as:List eG} {ns:List bQ} {x:Str} {a:eG} {n:bQ},gf as ns x=some (a,n)→eg ns x=some n∧a∈as∧n.name=x
 |[],_,_,_,_,h=>by cases h
 |_::_,[],_,_,_,h=>by cases h
 |b::as,m::ns,x,a,n,h=>by
  rw[m8]at h;rw[nL];by_cases q:m.name=x
  ·rw[ak q]at h⊢;cases h;exact⟨rfl,.head _,q⟩
  ·rw[Tk q]at h⊢;refine b5 (uc h) fun i1 cR fk=>?_;exact⟨i1,.tail _ cR,fk⟩
theorem c6.at (h:c6 Y as ns) (e:gf as ns x=some (a,n)):jS Y a n:=by
 refine b5 (uc e) fun e1 J J=>?_;refine d9 (h.find e1) fun b i1 J fk J=>?_;rw[e]at i1;cases i1;exact fk
theorem bI.wD {Y:B} {S:Addr} {y:b3} {st:St} (h:bI Y S y st) {x:Str} {a:eG} {n:bQ} (e:gf y.as st.nodes x=some (a,n)) (v):
 bI (Y.put a.i (some (.inst 40 a.d [some (.str n.name),some (.int v),some (.val (.ref a.l))]))) S y {st with nodes:=eo st.nodes x {n with np:=v}}:=by
 refine b5 (uc e) fun e1 e2 e3=>?_;have hat:=h.dO.at e;have ne:∀b,Y b≠Y a.i→b≠a.i:=fun b hb z=>hb (U z rfl);have hi:=hat.1;refine⟨(B.aa _ _ (ne S ?_)).trans h.inst,(B.aa _ _ (ne _ ?_)).trans h.attrs,?_,h.dO.wD h.q7 e v,?_,h.q7,h.pW⟩
 ·refine U h.inst (U hi ?_);intro z;cases z
 ·refine U h.attrs (U hi ?_);simp
 ·refine U (B.aa _ _ (ne y.N (by refine U h.fF (U hi ?_);simp))) (U h.fF ?_);exact U (EZ (as:=y.as) (ns:=eo st.nodes x {n with np:=v}) (ms:=st.nodes) (xX e1 rfl)) rfl
 ·exact h.gH.congr fun R J l e=>(B.aa _ _ (ne R (by refine U e (U hi ?_);simp))).trans e
theorem bI.IE {Y:B} {S:Addr} {y:b3} {st:St} (h:bI Y S y st) {x:Str} {a:eG} {n:bQ} (e:gf y.as st.nodes x=some (a,n)) (v):
 bI (Y.put a.l (some (.list (ww v)))) S y {st with nodes:=eo st.nodes x {n with succ:=v}}:=by
 refine b5 (uc e) fun e1 e2 e3=>?_;have hat:=h.dO.at e;have ne:∀b,Y b≠Y a.l→b≠a.l:=fun b hb z=>hb (U z rfl);have hi:=hat.2.2;have nl:=(kq.mp h.pW);refine⟨(B.aa _ _ (ne S ?_)).trans h.inst,(B.aa _ _ (ne _ ?_)).trans h.attrs,?_,h.dO.IE nl.1 e v,?_,h.q7,h.pW⟩
 ·refine U h.inst (U hi ?_);simp
 ·refine U h.attrs (U hi ?_);simp
 ·refine U (B.aa _ _ (ne y.N (by refine U h.fF (U hi ?_);simp))) (U h.fF ?_);exact U (EZ (as:=y.as) (ns:=eo st.nodes x {n with succ:=v}) (ms:=st.nodes) (xX e1 rfl)) rfl
 ·refine h.gH.congr fun R bE l e=>(B.aa _ _ ?_).trans e;exact fun z=>nl.2.2 a.l (cA e2) R bE z.symm
noncomputable def k_ (st:St) (x:Str) (v:Int):St:=match eg st.nodes x with
 |some n=>{st with nodes:=eo st.nodes x {n with np:=n.np+v}}
 |none=>st
noncomputable def jt (st:St) (p x:Str):St:=match eg st.nodes p with
 |some n=>{st with nodes:=eo st.nodes p {n with succ:=n.succ++[x]}}
 |none=>st
noncomputable def fW (st:St) (x:Str) (ps:List Str):St:=ps.foldl (fun s p=>jt (dH s p) p x) (k_ (dH st x) x ps.length)
theorem IF:∀ns x m,(eo ns x m).length=ns.length
 |[],_,_=>rfl
 |n::ns,x,m=>by
  rw[ud];split
  ·rfl
  ·simp[IF ns x m]
theorem DL (st) (x):(dH st x).ready=st.ready∧(dH st x).nodes.length≤st.nodes.length+1:=by
 unfold dH;cases eg st.nodes x<;>simp
theorem Od (st) (x) (v):(k_ st x v).ready=st.ready∧(k_ st x v).nodes.length=st.nodes.length:=by
 unfold k_;cases eg st.nodes x<;>simp[IF]
theorem RC (st) (p x):(jt st p x).ready=st.ready∧(jt st p x).nodes.length=st.nodes.length:=by
 unfold jt;cases eg st.nodes p<;>simp[IF]
noncomputable def jT (m:Nat) (ns:List bQ):Prop:=∀n∈ns,n.succ.length≤m
theorem zc:∀{ns:List bQ} {x:Str} {n:bQ},eg ns x=some n→n∈ns
 |[],_,_,h=>by injection h
 |m::ns,x,n,h=>by
  rw[nL]at h;by_cases q:m.name=x
  ·rw[ak q]at h;obtain rfl:=bh h;exact .head _
  ·rw[Tk q]at h;exact .tail _ (zc h)
theorem IZ:∀{ns:List bQ} {x:Str} {m n:bQ},n∈eo ns x m→n=m∨n∈ns
 |[],_,_,_,h=>by cases h
 |k::ns,x,m,n,h=>by
  rw[ud]at h;by_cases q:k.name=x
  ·rw[ak q]at h;exact(a_.mp h).imp id (.tail _)
  ·rw[Tk q]at h;refine bD h ?_ fun h=>?_
   ·exact .inr (.head _)
   ·exact(IZ h).imp id (.tail _)
theorem jT.mono (h:jT m ns) (hm:m≤m'):jT m' ns:=fun n M2=>Ev (h n M2) hm
theorem AF {st:St} {m:Nat} (h:jT m st.nodes) (x):jT m (dH st x).nodes:=by
 unfold dH
 induction eg st.nodes x with
 |some _=>exact h
 |none=>
  intro n M2;obtain M2|M2:=b_.mp M2
  ·exact h n M2
  ·obtain rfl:=fG.mp M2;exact fz _
theorem Rc {st:St} {m:Nat} (h:jT m st.nodes) (x) (v):jT m (k_ st x v).nodes:=by
 unfold k_
 induction e:eg st.nodes x with
 |none=>exact h
 |some k=>
  intro n M2;obtain rfl|M2:=IZ M2
  ·exact h k (zc e)
  ·exact h n M2
theorem PE {st:St} {m:Nat} (h:jT m st.nodes) (p x):jT (m+1) (jt st p x).nodes:=by
 unfold jt
 induction e:eg st.nodes p with
 |none=>exact h.mono (b9 _)
 |some k=>
  intro n M2;obtain rfl|M2:=IZ M2
  ·have:=h k (zc e);simp;assumption
  ·exact pC (h n M2)
section
variable {c:ah} {k:Nat} {O:XV} {Y:B}
theorem f8.NO (hf:f8 c k O Y (.Name "len" p) (.val (.builtin "len"))) (he:f8 c k O Y e (.tup l)) (hb:l.length≤1000000)
 (hst:∀V,starEach [e] V=[(false,eval e V)]:=by kd_p):f8 c k O Y (.Call (.Name "len" p) [e] [] pos) (.int l.length):=by
 refine f8.call hf (.inl fun a e=>(by injection e)) (.cons he .nil hst) ?_ (fun V=>by rw[hst];rfl);intro A V s Z H ok r h Q E g;refine wS (iN h) fun v s4 s5=>?_;subst s4;refine s5.t fun{a xs n} xP FS=>?_;have e1:xs.size=l.length:=by exact ZB FS.length (U gP rfl)
 refine len_tuple ⟨_,r.sub.get xP,rfl,n,rfl⟩ (by refine U e1 ?_;exact qv hb) ?_;exact U e1 (gV g r.top r.sub (.int _ _) (bX _ 2))
inductive P4 (S:Addr) (y:b3) (st:St) (x:Str) (ps:List Str) (a:eG) (Y:B) (aE:List D) (O:XV) (I:B):Prop
 |mk (ay:List Str) (s:St) (gx:b3) (bU bN:Option D):(aE=ww ay)→(bI I S gx s)→(bJ (y.foot S) Y (gx.foot S) I)→(gx.rs=y.rs)→(s.ready=Option.none)→(s.nodes.length+ay.length≤st.nodes.length+1+ps.length)→(ay.length≤ps.length)→(jT (500+(ps.length-ay.length)) s.nodes)→(fW st x ps=ay.foldl (fun s p=>jt (dH s p) p x) s)→(O=[⟨"self",.loc,some (.val (.ref S))⟩,⟨"node",.loc,some (.str x)⟩,⟨"predecessors",.loc,some (.tup (ww ps))⟩,⟨"nodeinfo",.loc,some (.val (.ref a.i))⟩,⟨"pred",.loc,bU⟩,⟨"pred_info",.loc,bN⟩,⟨"len",.bz,some (.val (.builtin "len"))⟩])→P4 S y st x ps a Y aE O I
theorem Mt {S:Addr} {y:b3} {st:St} {x:Str} {ps:List Str} (t:aV c) (h:bI Y S y st) (hr:st.ready=Option.none) (hz:st.nodes.length+ps.length≤900) (yv:jT 500 st.nodes) (hp:ps.length≤100):
 eS c (k+4) (.ref 87) (.val (.ref S):: .str x::ww ps) Y (fun d I=>d= .val .none∧∃gx,bI I S gx (fW st x ps)∧bJ (y.foot S) Y (gx.foot S) I∧gx.rs=y.rs):=by
 refine eS.fn (st:=ek 6 2) (qual:="TopologicalSorter.add") (dV:=.none) (ps:=[("self",.loc),("node",.loc),("predecessors",.loc)]) (ls:=[("nodeinfo",.loc),("pred",.loc),("pred_info",.loc)]) (gs:=[("len",.builtin "len")]) (ds:=[.val (.ref S),.str x,.tup (ww ps)]) (t.fn rfl rfl rfl rfl) (by kd_p) (bC (t.dw (by kd_p) (by kd_p) (by decide)) cI) rfl (fun pm cd=>lX.star (by simp[ww];exact Ev hp (by decide)) (Xu pm cd)) ?_;intro bP;replace t:=t.at (L:=bP);generalize c.at bP=c at t⊢
 kst_p
 have hh:=t.hd;have hrs:y.rs=[]:=by have:=h.gH;rw[hr]at this;exact this
 have hpl:(ww ps).length=ps.length:=by simp[ww]
 refine wE.cons (FM.ifs (b:=false) ((az.cmp (f8.ga (by kd_p) (cy.gH t h)) (by kd_p) Rs.isNotNone).to (by refine U hrs ?_;rfl)) (fun h=>(by injection h)) fun J=>wE.nil ?_);obtain⟨acK,YA⟩:=DL st x;refine wE.cons (FM.iT (aF.pe t (by kd_p) h.inst h.attrs (by rfl) (jC ..) (Qu ..) (P0 ..) (fX (st:=ek 6 1) (t.fn rfl rfl rfl rfl)) (.cons (by kd_p) .nil (by kd_p)) (di.mono (cD.r (OX t h hr (f7 (bX ..) hz (by decide)))) ?_)));intro d gA Go;obtain⟨G3,a,n,rfl,h₁,GV,hf,hat,acQ⟩:=Go;refine⟨_,by kd_in,?_⟩;have b1:=Od (dH st x) x ps.length;refine wE.cons (FM.Df (d₂:=.int (ps.length:Nat)) (by kd_p) (cy.np t hat) ?_ Rs.Gf (gS.np t hat) ?_)
 ·exact ZB hpl (f8.NO (by kd_p) (by kd_p) (j7 hpl hp (by decide)))
 have h₂:=h₁.wD hf (n.np+(ps.length:Nat));refine b5 (uc hf) fun afz pS J=>?_;have Ge:k_ (dH st x) x ps.length={dH st x with nodes:=eo (dH st x).nodes x {n with np:=n.np+(ps.length:Nat)}}:=by unfold k_;exact U afz rfl
 rw[←Ge]at h₂;have O5:bJ (y.foot S) Y (G3.foot S) (gA.put a.i (some (.inst 40 a.d [some (.str n.name),some (.int (n.np+(ps.length:Nat))),some (.val (.ref a.l))]))):=GV.trans (bJ.put (G3.yC S pS).1 _);have P9:fW st x ps=ps.foldl (fun s p=>jt (dH s p) p x) (k_ (dH st x) x ps.length):=rfl;generalize gA.put a.i _=ki at h₂ O5;have sh:=Rc (AF yv x) x ps.length;have ln:(k_ (dH st x) x ps.length).nodes.length≤st.nodes.length+1:=by refine U b1.2 ?_;exact YA
 have rd:(k_ (dH st x) x ps.length).ready=Option.none:=by refine U b1.1 (U acK ?_);exact hr
 generalize k_ (dH st x) x ps.length=qK at h₂ P9 sh ln rd;refine wE.cons (FM.for hh x_ (items:=ww ps) (bF.tup (by kd_p)) (P4 S y st x ps a Y)
  ⟨ps,qK,G3,_,_,rfl,h₂,O5,acQ,rd,nk ln _,aI _,sh.mono (bX ..),P9,rfl⟩ (fun J J J J=>trivial) ?_ ?_)
 ·intro d rest NE I Go;obtain⟨ay,s,gx,bU,bN,bG,hs,ol,Hu,wL,CJ,oz,hsh,gY,rfl⟩:=Go;obtain _|⟨p,ay⟩:=ay
  ·injection bG
  obtain⟨rfl,rfl⟩:=jd bG;refine bl.name (by kd_in) ?_;simp only[bW]at CJ oz;obtain⟨ac7,S9⟩:=DL s p;refine wE.cons (FM.iT (aF.pe t (by kd_p) hs.inst hs.attrs (by rfl) (jC ..) (Qu ..) (P0 ..) (fX (st:=ek 6 1) (t.fn rfl rfl rfl rfl)) (.cons (by kd_p) .nil (by kd_p)) (di.mono (cD.r (OX t hs wL (VK CJ hz))) ?_)));intro d kY Go;obtain⟨RU,b,m,rfl,qu,Xj,AD,LB,abL⟩:=Go;refine⟨_,by kd_in,?_⟩;refine b5 (uc AD) fun vc AV J=>?_;have aa2:m.succ.length≤600:=by
   exact aeh (AF hsh p m (zc vc)) hp
  refine wE.cons (FM.expr (aF.append (a:=b.l) (l:=ww m.succ) (d:=.str x) (f8.ga (by kd_p) (cy.succ t LB)) (by kd_p) LB.2.2 (by simp[ww];exact Ev aa2 (by decide)) ?_));refine wE.nil ?_;have eP:jt (dH s p) p x={dH s p with nodes:=eo (dH s p).nodes p {m with succ:=m.succ++[x]}}:=by unfold jt;exact U vc rfl
  have h₄:=qu.IE AD (m.succ++[x]);rw[←eP]at h₄;have pk:=RC (dH s p) p x;refine⟨ay,jt (dH s p) p x,RU,_,_,rfl,?_,(ol.trans Xj).trans (bJ.put (RU.yC S AV).2.2 _),abL.trans Hu,by refine U pk.1 (U ac7 ?_);exact wL,by refine U pk.2 ?_;exact JT S9 CJ,by exact fN ‹_›,(PE (AF hsh p) p x).mono (by simp only[bW];exact afb oz),gY,rfl⟩;have:ww m.succ++[D.str x]=ww (m.succ++[x]):=by simp[ww]
  exact U this h₄
 ·intro NE I Go;obtain⟨ay,s,gx,bU,bN,bG,hs,ol,Hu,wL,CJ,oz,hsh,gY,rfl⟩:=Go;obtain _|⟨p,ay⟩:=ay
  rotate_left
  ·injection bG
  refine wE.nil ?_;refine wE.nil ?_;exact U gY ⟨rfl,gx,hs,ol,Hu⟩
theorem adM {S:Addr} {y:b3} {st:St} {x:Str} {ps:List Str} (t:aV c) (h:bI Y S y st) (hr:st.ready=Option.none) (hz:st.nodes.length+ps.length≤900) (yv:jT 500 st.nodes) (hp:ps.length≤100):
 cD c (k+4) (.ref 87) (.val (.ref S):: .str x::ww ps) Y (fun d I=>d= .val .none∧∃gx,bI I S gx (fW st x ps)∧bJ (y.foot S) Y (gx.foot S) I∧gx.rs=y.rs):=
 (Mt t h hr hz yv hp).pm
end
end
section
open PySem.W
theorem XQ (l) (items):PySem.Meets (Builtin.«bool.__new__» ⟨[.type "bool",.ref l],[]⟩) (fun J R s=>s.heap.IsList l items∧(items.size:Int)<2^63∧R (.ok (.ret (.bool (!items.isEmpty)))) {s with toks:=s.toks+1+1}):=
 PySem.Meets.of_wp fun prog w A R s hs=>by
  obtain⟨hp,g,d,tk,os⟩:=s;refine b5 hs fun hl hz h=>?_;have f1:=PySem.F.conv_sub_bool;have abB:∀{Q:Bool→Shared→Prop} {E:Value→Shared→Prop} {A:Around},Q (!items.isEmpty) ⟨hp,g,d,tk+1+1,os⟩→wpAny (model prog w) A (truthy (.ref l)) Q E ⟨hp,g,d,tk,os⟩:=fun q=>Jq hl ‹_› q
  repeat(any_goals (first|assumption|with_reducible apply abB|wp_step))
  all_goals first|exact⟨_,rfl,h⟩|skip
open PySem.AutoSeq1 (wpAny_loadPart')in
theorem ad9 (l) (o) (items) (n) (hc:o.cls= .type "list") (hd:o.data= .seq items n) (hsz:items.size≤sizeLine):
 PySem.Meets (Builtin.«tuple.__new__» ⟨[.type "tuple",.ref l],[]⟩)
  (fun J R s=>s.heap.get? l=some o∧∀h':Heap,(∀b o',s.heap.get? b=some o'→h'.get? b=some o')→s.heap.objs.size≤h'.objs.size→R (.ok (.ret (.ref h'.objs.size))) {s with heap:=h'.push {cls:=.type "tuple",data:=.seq items}}):=
 .of_wp fun prog w A R s h=>by
  obtain⟨hp,g,d,tk,os⟩:=s;refine Op h fun FS h=>?_;have hsub:=PySem.sub_tuple_self;have zd:=PySem.init_tuple_lookup;have VO:=PySem.madeHere_tuple;have hT:Shared.TypeIs ⟨hp,g,d,tk,os⟩ (.ref l) "list" :=⟨o,FS,hc⟩;have H_:∀{A:Around} {Q:List Value→Shared→Prop} {E:Value→Shared→Prop},(∀h':Heap,(∀b o',hp.get? b=some o'→h'.get? b=some o')→hp.objs.size≤h'.objs.size→Q items.toList ⟨h',g,d,tk,os⟩)→wpAny (model prog w) A (collect (.ref l)) Q E ⟨hp,g,d,tk,os⟩:=
   fun q=>h_ (wpAny_collect_seq (hsz:=hsz) l (.inl rfl) FS hc hd fun h' hk up=>q h' hk up.size)
  wp_walk using fB FS,wpAny_typeOf hT,H_;intro h' hk hz;show wpAny _ _ (Builtin.Tuple.tupleExact items.toList.toArray>>=fun v=>ret v) _ _ _;unfold Builtin.Tuple.tupleExact;refine u8 (iS ?_ (by show items.toList.toArray.size≤sizeLine;simpa using hsz));refine On ⟨_,rfl,?_⟩;have e:items.toList.toArray=items:=by simp
  exact U e (h h' hk hz)
section
variable {c:ah} {k:Nat} {O:XV} {Y:B}
theorem b8.aeq (hs:aL c O Y d l) (hz:l.length≤1000000):b8 c k O Y (.type "bool") [d] (.val (.bool (!l.isEmpty))):=by
 intro A V s Z H ok r h Q E g;refine wS (iN h) fun v s4 s5=>?_;subst s4;refine dW (hs _ V Z v r s5) fun a H n s4 hg FS=>?_;subst s4;have e1:H.size=l.length:=by exact ZB FS.length (U gP rfl)
 have e2:(!H.isEmpty)=(!l.isEmpty):=by
  have h1:=FS.length;rcases H with⟨H⟩;cases H<;>cases l<;>simp_all
 refine PySem.call_bool_1 (XQ a H) ⟨⟨_,hg,rfl,n,rfl⟩,by refine U e1 ?_;exact qv ‹_›,?_⟩;exact U e2 ⟨rfl,gV g r.top r.sub (.val _) (by lia)⟩
theorem b8.Pg (hs:aL c O Y d l) (hz:l.length≤1000):b8 c k O Y (.type "tuple") [d] (.tup l):=by
 intro A V s Z H ok r h Q E g;refine wS (iN h) fun v s4 s5=>?_;subst s4;refine dW (hs _ V Z v r s5) fun a H n s4 hg FS=>?_;subst s4;have e1:H.size=l.length:=by exact ZB FS.length (U gP rfl)
 refine Dv AH (by decide) (RK _) (Lk _) (fun obj=>PC obj _) QM
  (ad9 a _ H n rfl rfl (by refine U e1 (U cV ?_);exact Ev ‹_› (by decide))) ⟨hg,fun h' hk hz=>⟨⟨_,d7 _ rfl,rfl⟩,?_⟩⟩
 have nV:aD c s Z {s with heap:=h'} Z:=aD.keep (t:=s.toks) r.top r.sub hk hz (aI _);have qK:=aD.push (s:={s with heap:=h'}) nV.top nV.sub {cls:=.type "tuple",data:=.seq H} rfl (by simp);exact g _ _ _ (nV.trans qK) (.tup (TW.ai ..) (FS.mono qK.le))
theorem f8.ofInt (h:f8 c k O Y e (.val (.int i tk))):f8 c k O Y e (.int i):=fun A V s Z ok r Q E g=>h A V s Z ok r Q E fun v s' Z' t s5=>by
 exact s5.v (g _ s' Z' t (.int _ _))
noncomputable def o4 (ns:List bQ) (x:Str) (v:Int):List bQ:=match eg ns x with
 |some n=>eo ns x {n with np:=v}
 |none=>ns
noncomputable def sA (st:St) (r:List Str):St:={nodes:=r.foldl (fun ns x=>o4 ns x (-1)) st.nodes,ready:=some [],j_:=st.j_+(r.length:Nat),fin:=st.fin}
theorem bI.Mi {S:Addr} {y:b3} {st:St} {R:Addr} {r:List Str} (h:bI Y S y st) (bE:y.rs=[R]) (hr:st.ready=some r) (v):bI (Y.put R (some (.list (ww v)))) S y {st with ready:=some v}:=by
 obtain⟨Pa,e1,e2⟩:∃R,y.rs=[R]∧Y R=some (.list (ww r)):=by have:=h.gH;rw[hr]at this;exact this
 rw[bE]at e1;cases e1;have ne:∀b,Y b≠Y R→b≠R:=fun b hb z=>hb (U z rfl);have nl:=kq.mp h.pW;refine⟨(B.aa _ _ (ne S (by refine U h.inst (U e2 ?_);simp))).trans h.inst,(B.aa _ _ (ne _ (by refine U h.attrs (U e2 ?_);simp))).trans h.attrs,(B.aa _ _ (ne _ (by refine U h.fF (U e2 ?_);simp))).trans h.fF,h.dO.congr fun a ha=>?_,⟨R,bE,B.ai ..⟩,h.q7,h.pW⟩;refine d9 (h.dO.mem a ha) fun n J n1 b6 dS=>?_;exact⟨B.aa _ _ (ne _ (by refine U n1 (U e2 ?_);simp)),B.aa _ _ (ne _ (by refine U b6 (U e2 ?_);simp)),B.aa _ _ fun z=>nl.2.2 a.l (cA ha) R (by refine U bE ?_;simp) z⟩
theorem bI.J_ {S:Addr} {y:b3} {st:St} (h:bI Y S y st) (p f):bI (Y.put y.iu (some (.attrs (g_ y {st with j_:=p,fin:=f})))) S y {st with j_:=p,fin:=f}:=by
 have ne:∀b,Y b≠Y y.iu→b≠y.iu:=fun b hb z=>hb (U z rfl);have ha:=h.attrs;refine⟨(B.aa _ _ (ne S (by refine U h.inst (U ha ?_);simp))).trans h.inst,B.ai ..,(B.aa _ _ (ne _ (by refine U h.fF (U ha ?_);simp))).trans h.fF,h.dO.congr fun a hm=>?_,h.gH.congr fun R J l e=>(B.aa _ _ (ne R (by refine U e (U ha ?_);simp))).trans e,h.q7,h.pW⟩;refine d9 (h.dO.mem a hm) fun n J n1 b6 dS=>?_;refine⟨B.aa _ _ (ne _ (by refine U n1 (U ha ?_);simp)),B.aa _ _ (ne _ ?_),B.aa _ _ (ne _ (by refine U dS (U ha ?_);simp))⟩;refine U b6 (U ha ?_);simp[g_]
theorem WK (ns) (x) (v):(o4 ns x v).map (fun x=>x.name)=ns.map (fun x=>x.name):=by
 unfold o4
 induction e:eg ns x with
 |none=>rfl
 |some n=>exact xX e rfl
theorem J9:(∃n,eg ns x=some n)↔x∈ns.map (fun x=>x.name):=by
 induction ns with
 |nil=>simp[nL,T6]
 |cons m ns ih=>
  rw[nL];by_cases q:m.name=x
  ·refine U (ak q) ?_;simp[q]
  ·rw[Tk q,ih,aK,a_];exact⟨.inr,fun h=>h.resolve_left fun e=>q e.symm⟩
inductive Rr (S:Addr) (y:b3) (st:St) (r:List Str) (Y:B) (aE:List D) (O:XV) (I:B):Prop
 |mk (ay:List Str) (ns:List bQ) (o:Option D):(aE=ww ay)→(bI I S y {st with nodes:=ns})→(bJ (y.foot S) Y (y.foot S) I)→(ns.map (fun x=>x.name)=st.nodes.map (fun x=>x.name))→((∀x∈ay,x∈r))→(r.foldl (fun ns x=>o4 ns x (-1)) st.nodes=ay.foldl (fun ns x=>o4 ns x (-1)) ns)→(O=[⟨"self",.loc,some (.val (.ref S))⟩,⟨"result",.loc,some (.tup (ww r))⟩,⟨"n2i",.loc,some (.val (.ref y.N))⟩,⟨"node",.loc,o⟩,⟨"tuple",.bz,some (.val (.type "tuple"))⟩,⟨"_NODE_OUT",.bz,some (.val (.int (-1) 197))⟩,⟨"len",.bz,some (.val (.builtin "len"))⟩])→Rr S y st r Y aE O I
theorem afx {S:Addr} {y:b3} {st:St} {r:List Str} (t:aV c) (h:bI Y S y st) (hr:st.ready=some r) (hz:r.length≤500) (hin:∀x∈r,x∈st.nodes.map (fun x=>x.name)):
 cD c (k+1) (.ref 99) [.val (.ref S)] Y (fun d I=>d= .tup (ww r)∧bI I S y (sA st r)∧bJ (y.foot S) Y (y.foot S) I):=by
 refine cD.fn (st:=ek 6 4) (qual:="TopologicalSorter.get_ready") (dV:=.none) (ps:=[("self",.loc)]) (ls:=[("result",.loc),("n2i",.loc),("node",.loc)]) (gs:=[("tuple",.type "tuple"),("_NODE_OUT",.int (-1) 197),("len",.builtin "len")]) (t.fn rfl rfl rfl rfl) (by kd_p) (bC (t.dw (by kd_p) (by kd_p) (by decide)) (bC (t.glob (by kd_p)) (bC (t.dw (by kd_p) (by kd_p) (by decide)) cI))) rfl (fun J J=>.plain rfl (jg fun J=>rfl)) ?_;intro bP;replace t:=t.at (L:=bP);generalize c.at bP=c at t⊢
 kst_p
 have hh:=t.hd;obtain⟨R,bE,qm⟩:∃R,y.rs=[R]∧Y R=some (.list (ww r)):=by have:=h.gH;rw[hr]at this;exact this
 have pY:yW y.rs= .val (.ref R):=by refine U bE ?_;rfl
 have nH:(ww r).length=r.length:=by simp[ww]
 have qL:∀{O:XV} {I:B} {st':St},bI I S y st'→cy c k O I S "_ready_nodes" (.val (.ref R)):=fun h'=>by
  exact ZB pY (cy.gH t h')
 refine wE.cons (FM.ifs (b:=false) ((az.cmp (f8.ga (by kd_p) (qL h)) (by kd_p) Rs.isNone).to rfl) (fun h=>(by injection h)) fun J=>wE.nil ?_);refine wE.cons (FM.assign (d:=.tup (ww r)) (f8.call (by kd_p) ue (.cons (f8.ga (by kd_p) (qL h)) .nil (by kd_p)) (b8.Pg (.cell qm) (by exact j7 ‹_› ‹_› (by decide))) (by kd_p)) (by kd_in) ?_);refine wE.cons (FM.assign (d:=.val (.ref y.N)) (f8.ga (by kd_p) (cy.fF t h)) (by kd_in) ?_);refine wE.cons (FM.for hh x_ (items:=ww r) (bF.tup (by kd_p)) (Rr S y st r Y)
  ⟨r,st.nodes,_,rfl,h,bJ.refl _ _,rfl,fun J h=>h,rfl,rfl⟩ (fun J J J J=>trivial) ?_ ?_)
 ·intro d rest NE I Go;obtain⟨ay,ns,o,bG,hs,ol,vt,hsub,gY,rfl⟩:=Go;obtain _|⟨x,ay⟩:=ay
  ·cases bG
  cases bG;refine bl.name (by kd_in) ?_;obtain⟨n,M2⟩:=J9.mpr (show x∈ns.map (fun x=>x.name) by refine U vt ?_;exact hin x (hsub x (.head _)));refine d9 (hs.dO.find M2) fun a i1 cR fk J=>?_;have hdg:=vM y.as ns x;rw[i1]at hdg;have O8:=hs.wD i1 (-1);refine wE.cons (FM.pq (.nt (d:=.int (-1)) (f8.ofInt (by kd_p)) ⟨f8.sub (by kd_p) (by kd_p) (Rs.u7 hs.fF hdg),_,gS.np t fk,?_⟩));dsimp only;refine wE.nil ?_;have e:o4 ns x (-1)=eo ns x {n with np:= -1}:=by unfold o4;exact U M2 rfl
  refine⟨ay,o4 ns x (-1),_,rfl,by refine U e ?_;exact O8,ol.trans (bJ.put (y.yC S cR).1 _),(WK ..).trans vt,fun z hz=>hsub z (.tail _ hz),gY,rfl⟩
 ·intro NE I Go;obtain⟨ay,ns,o,bG,hs,ol,vt,hsub,gY,rfl⟩:=Go;obtain _|⟨p,ay⟩:=ay
  rotate_left
  ·cases bG
  refine wE.nil ?_;have dc:bI I S y {st with nodes:=ns}:=hs;have SE:I R=some (.list (ww r)):=by
   obtain⟨Pa,g4,mE⟩:∃R,y.rs=[R]∧I R=some (.list (ww r)):=by have:=hs.gH;rw[show({st with nodes:=ns}:St).ready=some r from hr]at this;exact this
   rw[bE]at g4;cases g4;exact mE
  refine wE.cons (FM.expr (aF.clear (a:=R) (f8.ga (by kd_p) (qL hs)) SE (j7 nH hz (by decide)) ?_));have h2:=hs.Mi bE hr [];have kX:bJ (y.foot S) Y (y.foot S) (I.put R (some (.list (ww [])))):=ol.trans (bJ.put (y.EW S (by refine U bE ?_;simp)) _);change bI (I.put R (some (.list []))) S y _ at h2;change bJ (y.foot S) Y (y.foot S) (I.put R (some (.list [])))at kX;generalize I.put R (some (.list []))=ki at h2 kX;refine wE.cons (FM.Df (d₂:=.int (r.length:Nat)) (by kd_p) (cy.Ry t h2) (by refine ZB nH ?_;exact f8.NO (by kd_p) (by kd_p) (j7 nH hz (by decide))) Rs.Gf (gS.attr t h2.inst h2.attrs (sL ..) (se ..) (rO (Gs ..)) (kP ..) (by simp[g_])) ?_);dsimp only;have h3:=h2.J_ (st.j_+(r.length:Nat)) st.fin;refine wE.cons (FM.ret (d:=.tup (ww r)) (by kd_p) ?_);have i9:iG (g_ y {st with nodes:=ns,ready:=some []}) "_npassedout" (.int (st.j_+(r.length:Nat)))=g_ y {nodes:=ns,ready:=some [],j_:=st.j_+(r.length:Nat),fin:=st.fin}:=rfl;refine⟨rfl,?_,kX.trans (bJ.put (y.yX S) _)⟩;refine U (show sA st r={nodes:=ns,ready:=some [],j_:=st.j_+(r.length:Nat),fin:=st.fin} by unfold sA;refine U gY ?_;rfl) ?_;exact h3
end
end
section
open PySem.W
noncomputable def adX (x:D):Value:=match x with| .val v=>v|_=>.none
noncomputable def i_ (l:List (Str×D)):List (Str×Value):=l.map fun x=>(x.1,adX x.2)
noncomputable def qt (l:List (Str×D)):Prop:=∀x∈l,∃v,x.2= .val v
theorem Vo (s5:qt l) (bO:au Z H (l.map Prod.snd)):H=(i_ l).map Prod.snd:=by
 induction l generalizing H with
 |nil=>exact bO.n rfl
 |cons p l ih=>
  refine bO.c fun{a b} h r=>?_;refine aP (s5 _ (.head _)) fun v e=>?_;have q:=ih (fun x hx=>s5 x (.tail _ hx)) r;obtain⟨n,d⟩:=p;simp only at e;subst e;refine h.v ?_;refine U q ?_;rfl
theorem EG:∀{l:List (Str×D)},qt l→au Z ((i_ l).map Prod.snd) (l.map Prod.snd)
 |[],_=>.nil
 |(n,d)::l,s5=>by
  refine aP (s5 _ (.head _)) fun v e=>?_;simp only at e;subst e;exact .cons (.val v) (EG fun x hx=>s5 x (.tail _ hx))
theorem Bl (l):(i_ l).map Prod.fst=l.map Prod.fst:=by simp[i_]
theorem Oi (s5:qt l) (h:qa c Z o l):o.IsDictOf (strKind c.p c.w) (i_ l):=by
 refine aU h fun kvs h1 h2 h3=>?_;have e2:=Vo s5 h3;have:kvs=i_ l:=by
  have e1:kvs.map Prod.fst=(i_ l).map Prod.fst:=h2.trans (Bl l).symm;clear h1 h2 h3 s5;revert e1 e2;generalize i_ l=m;intro e2 e1
  induction kvs generalizing m with
  |nil=>induction m with|nil=>rfl|cons=>simp at e1
  |cons x kvs ih=>
   obtain _|⟨z,m⟩:=m
   ·simp at e1
   ·simp only[aK,vL]at e1 e2;exact U (ih m e2.2 e1.2) (U (Prod.ext e1.1 e2.1) rfl)
 exact ZB this h1
theorem afE (s5:qt l) (h:o.IsDictOf (strKind c.p c.w) (i_ l)):qa c Z o l:=⟨_,h,Bl l,EG s5⟩
section
variable {c:ah} {k:Nat} {O:XV} {Y:B}
theorem Xz (r:bB c Z h V O Y) (cP:Y N=some (.dict l)) (s5:qt l):∃o,o.IsDictOf (strKind c.p c.w) (i_ l)∧bB c Z h V O (Y.put N (some (.raw o)))∧h.get? N=some o:=by
 refine Op (r.cells N _ cP) fun aH hz=>?_;refine wS aH fun o xz hd=>?_;have hf:=Oi s5 hd;refine gg o hf ⟨r.fn,r.top,r.sub,r.vars,fun a cl e=>?_,⟨⟨?_,r.own.1.2⟩,fun n a e=>⟨?_,(r.own.2 n a e).2⟩⟩,r.glob⟩ xz
 ·by_cases q:a=N
  ·subst q;rw[B.ai]at e;obtain rfl:=bh e;exact⟨⟨o,xz,rfl,by refine U (qa.cls hd) ?_;simp⟩,hz⟩
  ·rw[B.aa _ _ q]at e;exact r.cells a cl e
 ·exact U (B.aa _ _ (by intro z;have:=r.own.1.1;rw[z,cP]at this;injection this)) r.own.1.1
 ·exact U (B.aa _ _ (by intro z;have:=(r.own.2 n a e).1;rw[z,cP]at this;injection this)) ((r.own.2 n a e).1)
theorem Hf (h:Y N=some cl):(Y.put N (some eN)) a=Option.none↔Y a=Option.none:=by
 by_cases q:a=N
 ·subst q;rw[B.ai,h];simp
 ·rw[B.aa _ _ q]
theorem aO.Mr (s5:qt l) (cP:Y N=some (.dict l)) (hf:o.IsDictOf (strKind c.p c.w) (i_ l)) (h:aO c (Y.put N (some (.raw o))) s Z I s' Z') (NS:I N=some (.raw o)):aO c Y s Z (I.put N (some (.dict l))) s' Z':=by
 have ne:∀a,(Y.put N (some (.raw o))) a≠Option.none↔Y a≠Option.none:=fun a=>not_congr (Hf cP);refine⟨h.size,fun a o' ha e=>h.keep a o' ((Hf cP).mpr ha) e,h.fields,h.top,h.le,fun a o' e=>(h.ext a o' e).imp id (Or.imp (ne a).mp id),h.sub,fun a ha=>?_,fun a cl e=>?_,h.tok,h.rest⟩
 ·have:=h.jz a (fun z=>ha ((Hf (eN:=.dict l) NS).mpr z));exact this.imp (ne a).mp id
 ·by_cases q:a=N
  ·subst q;rw[B.ai]at e;obtain rfl:=bh e;refine Op (h.cells a _ NS) fun aH hz=>?_;refine aU aH fun o' bK e' J=>?_;subst e';exact⟨⟨o',bK,afE s5 hf⟩,hz⟩
  ·rw[B.aa _ _ q]at e;exact h.cells a cl e
theorem aF.fix (cP:Y N=some (.dict l)) (s5:qt l)
 (h:∀o,o.IsDictOf (strKind c.p c.w) (i_ l)→aF c k O (Y.put N (some (.raw o))) e fun d I=>I N=some (.raw o)∧Sc d (I.put N (some (.dict l)))):aF c k O Y e Sc:=by
 intro A V s Z ok r Q E q;refine aU (Xz r cP s5) fun o hf r' J=>?_;exact h o hf A V s Z ok r' Q E fun d I v s' Z' aq g8 Yi=>Op Yi fun h1 h2=>q d _ v s' Z' (aO.Mr s5 cP hf aq h1) g8 h2
theorem eS.fix (cP:Y N=some (.dict l)) (s5:qt l)
 (h:∀o,o.IsDictOf (strKind c.p c.w) (i_ l)→eS c k f ds (Y.put N (some (.raw o))) fun d I=>I N=some (.raw o)∧Sc d (I.put N (some (.dict l)))):eS c k f ds Y Sc:=by
 intro A s Z H ok top sub bf mo R q;refine Op (mo N _ cP) fun aH hz=>?_;refine wS aH fun o xz hd=>?_;have hf:=Oi s5 hd;refine h o hf A s Z H ok top sub bf (fun a cl e=>?_) R fun d I v s' Z' aq g8 acs=>Op acs fun h1 h2=>q d _ v s' Z' (aO.Mr s5 cP hf aq h1) g8 h2;by_cases q:a=N
 ·subst q;rw[B.ai]at e;obtain rfl:=bh e;exact⟨⟨o,xz,rfl,by refine U (qa.cls hd) ?_;simp⟩,hz⟩
 ·rw[B.aa _ _ q]at e;exact mo a cl e
theorem Ij (r:bB c Z h V O Y) (cP:Y N=some (.raw o)) (hf:o.IsDictOf (strKind c.p c.w) kvs):(N==sysModules)=false∧h.get? N=some o∧h.DictOf (strKind c.p c.w) N kvs:=by
 refine b5 (r.cells N _ cP) fun aH J h0=>?_;refine aU aH fun o' xz e J=>?_;subst e;refine⟨?_,xz,yq.mpr ⟨o',xz,hf⟩⟩;have:N≠sysModules:=by rintro rfl;exact r.glob.2.2.1 h0
 simpa using this
theorem Rs.Vq (s5:qt l) (ha:Y a=some (.raw o)) (hf:o.IsDictOf (strKind c.p c.w) (i_ l)) (hx:Internal.cN l x=some d)
 (hsub:∀o j,subscripted bV false o j=operate [o,j] (getItem o j):=by intros;rfl):Rs c k O Y (subscriptTail v bV) (.val (.ref a)) (.str x) d:=by
 intro A V s Z bk bL ok r h₁ h₂ Q E g;refine h₁.v ?_;refine h₂.s fun J=>?_;refine b5 (Ij r ha hf) fun J xz hd=>?_;refine wS ((wV (Bl l) (EG (Z:=Z) s5) x).2 d hx) fun y No ty=>?_;exact rQ (T:="dict") hd.typeIs slot_dict_getitem.lookup (wpAny_getItem_of (knd:=PySem.strKind c.p c.w) (k:=x) (oh ..) hd.mapOf No (gV g r.top r.sub ty (b9 _))) (hsub _ _)
end
inductive Hg (N:Addr) (kvs:List (Str×Value)) (ep:Nat) (Z:TW) (aE:List D) (it:Addr):cC→Prop
 |mk (o:Obj) (i:Nat):o.cls= .type "dict_keyiterator"→o.data= .fields #[.ref N,.int i 0,.int kvs.length 0,.int ep 0]→aE=(kvs.map fun x=>.str x.1).drop i→Hg N kvs ep Z aE it [(it,o)]
inductive Io (N:Addr) (kvs:List (Str×Value)) (ep:Nat) (Z:TW) (aE:List D) (it:Addr):cC→Prop
 |mk (o:Obj) (i:Nat):o.cls= .type "dict_valueiterator"→o.data= .fields #[.ref N,.int i 0,.int kvs.length 0,.int ep 0]→aE=(kvs.map fun x=>.val x.2).drop i→Io N kvs ep Z aE it [(it,o)]
noncomputable def rZ (c:ah) (o:Obj) (kvs:List (Str×Value)) (ep:Nat):Prop:=∃es,o.ExactDict∧o.data= .dict es ep∧KeysOf (strKind c.p c.w) es∧Pairs (strKind c.p c.w) es.toList kvs∧(kvs.map Prod.fst).Nodup
theorem HA (h:o.IsDictOf (strKind c.p c.w) kvs):∃ep,rZ c o kvs ep:=fL h fun es ep r=>⟨ep,es,r⟩
theorem rZ.of (h:rZ c o kvs ep):o.IsDictOf (strKind c.p c.w) kvs:=aP h fun es r=>⟨es,ep,r⟩
theorem tE (r:bB c Z h V O Y) (cP:Y N=some (.raw o)) (hf:rZ c o kvs ep):(N==sysModules)=false∧h.DictAt (strKind c.p c.w) N kvs ep:=by
 refine b5 (Ij r cP hf.of) fun a b J=>?_;refine aP hf fun es q=>?_;exact⟨a,o,es,b,q⟩
theorem Lv {α β:Type} {l:List α} {f:α→β} {d:β} {aE:List β} (h:d::aE=(l.map f).drop i):∃x,l[i]?=some x∧d=f x∧aE=(l.map f).drop (i+1):=by
 have h1:(l.map f)[i]?=some d:=by rw[←BP,←h];rfl
 rw[kF,J0]at h1;refine wS h1 fun x hx e=>?_;exact gg x hx e.symm (by refine ZB C_ (ZB h ?_);rfl)
theorem Ly {α β:Type} {l:List α} {f:α→β} (h:[]=(l.map f).drop i):l[i]?=none:=by
 have:=Gy.mp h.symm;rw[cj]at this;exact mu.mpr this
theorem Ol (hf:rZ c o kvs ep):qO c (Hg N kvs ep) (fun Y=>Y N=some (.raw o)) where
 mono:=fun J ⟨o,i,h2,h3,h4⟩=>⟨o,i,h2,h3,h4⟩
 rows:=fun⟨o,i,h2,h3,h4⟩=>vK h2 (by decide) h3
 iter:=by
  intro A s Z it os aE Q E st Go q;obtain⟨o,i,h2,h3,h4⟩:=Go;exact wpAny_pyIter_keyiter ⟨o,cS.mp st,h2,h3⟩ q
 go:=by
  intro A s Z it os aE v br Q E _ sub top cK st Go q;obtain⟨o,i,h2,h3,h4⟩:=Go;exact wJ (cS.mp st) h2 h3 (by decide) (q s _ (.id top sub) rfl st ⟨o,i,h2,h3,h4⟩)
 next:=by
  intro A V s Z O Y it os d aE Q E hh r src cK st Go q;obtain⟨o,i,h2,h3,h4⟩:=Go;refine Op (tE r src hf) fun _ hd=>?_;refine aU (Lv h4) fun UG hx US bG=>?_;obtain⟨jB,bR⟩:=UG;subst US;refine wpAny_pyNext_dict_item ⟨o,cS.mp st,h2,h3⟩ hd hx fun key h' hkey aag av=>aU aag fun o' bK jf hd'=>?_;have tk:∃t,key= .str jB t:=by
   have hkey:Value.isStrOf jB key=true:=hkey;cases key<;>simp[Value.isStrOf]at hkey
   subst hkey;exact⟨_,rfl⟩
  refine aP tk fun t adw=>?_;subst adw;exact q _ {s with heap:=h'} Z [(it,o')] (dN.same r.top r.sub (cK _ (.head _)) av (.head _) (aI _) ⟨o,_,cS.mp st,h3⟩) rfl (cS.mpr bK) ⟨o',i+1,jf,hd',bG⟩ (.str _ _)
 fin:=by
  intro A V s Z O Y it os Q E hh r src cK st Go q;obtain⟨o,i,h2,h3,h4⟩:=Go;refine Op (tE r src hf) fun _ hd=>?_;exact h_ (wpAny_pyNext_dict_end hh ⟨o,cS.mp st,h2,h3⟩ hd (Ly h4) fun h' x u=>q _ Z (dN.ext' r.top r.sub (cK _ (.head _)) x (.head _) u ⟨o,_,cS.mp st,h3⟩))
theorem adJ (hf:rZ c o kvs ep):qO c (Io N kvs ep) (fun Y=>Y N=some (.raw o)) where
 mono:=fun J ⟨o,i,h2,h3,h4⟩=>⟨o,i,h2,h3,h4⟩
 rows:=fun⟨o,i,h2,h3,h4⟩=>vK h2 (by decide) h3
 iter:=by
  intro A s Z it os aE Q E st Go q;obtain⟨o,i,h2,h3,h4⟩:=Go;exact wpAny_pyIter_valiter ⟨o,cS.mp st,h2,h3⟩ q
 go:=by
  intro A s Z it os aE v br Q E _ sub top cK st Go q;obtain⟨o,i,h2,h3,h4⟩:=Go;exact wJ (cS.mp st) h2 h3 (by decide) (q s _ (.id top sub) rfl st ⟨o,i,h2,h3,h4⟩)
 next:=by
  intro A V s Z O Y it os d aE Q E hh r src cK st Go q;obtain⟨o,i,h2,h3,h4⟩:=Go;refine Op (tE r src hf) fun J hd=>?_;refine aU (Lv h4) fun aH hx s4 bG=>?_;subst s4;obtain⟨jB,bR⟩:=aH;refine wpAny_pyNext_values_item ⟨o,cS.mp st,h2,h3⟩ hd hx fun h' ae1 av=>aU ae1 fun o' bK jf hd'=>?_;exact q _ {s with heap:=h'} Z [(it,o')] (dN.same r.top r.sub (cK _ (.head _)) av (.head _) (aI _) ⟨o,_,cS.mp st,h3⟩) rfl (cS.mpr bK) ⟨o',i+1,jf,hd',bG⟩ (.val _)
 fin:=by
  intro A V s Z O Y it os Q E hh r src cK st Go q;obtain⟨o,i,h2,h3,h4⟩:=Go;refine Op (tE r src hf) fun J hd=>?_;exact h_ (wpAny_pyNext_values_end hh ⟨o,cS.mp st,h2,h3⟩ hd (Ly h4) fun h' x u=>q _ Z (dN.ext' r.top r.sub (cK _ (.head _)) x (.head _) u ⟨o,_,cS.mp st,h3⟩))
section
variable {c:ah} {k:Nat} {O:XV} {Y:B}
theorem bF.keys (he:f8 c k O Y e (.val (.ref N))) (cP:Y N=some (.raw o)) (hf:rZ c o kvs ep):bF c k O Y e (Hg N kvs ep) (kvs.map fun x=>.str x.1):=by
 intro A V s Z ok r Q E q;refine he A V s Z ok r _ E fun v s₁ aB EQ s5=>?_;refine s5.v ?_;refine Op (tE (r.step EQ) cP hf) fun hs hd=>?_;refine wpAny_pyIter_dict hs hd ?_;have st:=EQ.trans (aD.alloc EQ.top EQ.sub {cls:=.type "dict_keyiterator",data:=.fields #[.ref N,.int 0 0,.int kvs.length 0,.int ep 0]});refine q _ [(_,_)] _ _ st (cS.mpr (d7 _ rfl)) (fun p hp=>?_) ⟨_,0,rfl,rfl,rfl⟩;refine bD hp ?_ fun hp=>?_
 ·exact⟨EQ.grow.1,gR EQ.sub (aI _)⟩
 ·cases hp
theorem bF.values (he:f8 c k O Y e (.val (.ref N))) (cP:Y N=some (.raw o)) (hf:rZ c o kvs ep)
 (fO:∀V,attributeBase e "values" V (eval e V)=eval e V:=by intro;rfl) (f6:(c9.endLine==pos.line)=true:=by rfl):bF c k O Y (.Call (.Attribute e "values" c9) [] [] pos) (Io N kvs ep) (kvs.map fun x=>.val x.2):=by
 intro A V s Z ok r Q E q;refine zK (fO V) rfl f6 (he A V s Z ok r _ E fun v s₁ aB EQ s5=>?_);refine s5.v ?_;have r₁:=r.step EQ;refine Op (tE r₁ cP hf) fun hs hd=>?_;refine b5 (Ij r₁ cP hf.of) fun J xz J=>?_;have hex:o.dict=Option.none:=by refine wS hf fun es aH J=>?_;refine b5 aH fun J e J=>?_;exact e
 refine yw ("dict") ("dict.values") Cu RJ (by show builtinType _=_;refine U builtinType_eq_fast ?_;kernel_rfl) hd.dictOf.typeIs (fun a e=>by cases e;exact⟨o,xz,hex⟩) ?_;refine l6 (c:=c) (f:=.builtin "dict.values") (first:=[.ref N]) sU (nQ (es:=[]) (ds:=[]) .nil (ok.step EQ) r₁ (by intro;rfl) fun H s₂ bA t₂ bf=>⟨t₂.top,?_⟩);refine bf.n ?_;have r₂:=r₁.step t₂;refine Op (tE r₂ cP hf) fun J Jr=>?_;refine CY RJ Jr.dictOf.typeIs PySem.F.entry_dict_values (PySem.F.args_dict_values_1 _) (meets_dict_values (strKind c.p c.w) N hs) ⟨⟨kvs,Jr.dictOf⟩,?_⟩;have l5:=aD.alloc t₂.top t₂.sub {cls:=.type "dict_values",data:=.fields #[.ref N]};have mU:(s₂.heap.push {cls:=.type "dict_values",data:=.fields #[.ref N]}).objs.size=s₂.heap.objs.size+1:=eX ..;refine wpAny_pyIter_values (s:={s₂ with heap:=s₂.heap.push {cls:=.type "dict_values",data:=.fields #[.ref N]}}) (kvs:=kvs) (ep:=ep) ⟨_,d7 _ rfl,rfl,rfl⟩ (Jr.push _) ?_;have st:=((EQ.trans t₂).trans l5).trans (aD.alloc l5.top l5.sub {cls:=.type "dict_valueiterator",data:=.fields #[.ref N,.int 0 0,.int kvs.length 0,.int ep 0]});refine q _ [(_,_)] _ _ st (cS.mpr (d7 _ rfl)) (fun p hp=>?_) ⟨_,0,rfl,rfl,rfl⟩;refine bD hp ?_ fun hp=>?_
 ·exact⟨Ev (EQ.trans t₂).grow.1 l5.grow.1,gR l5.sub (aI _)⟩
 ·cases hp
end
end
section
theorem gD.slots (x:Heap.SlotsOnly S h h') (hS:∀b∈S,∃o,h.get? b=some o∧kc o):gD h h':=by
 refine⟨bT x.1.symm,fun a o e=>?_⟩;by_cases q:a∈S
 ·refine wS (hS a q) fun OA lH i=>?_;rw[e]at lH;obtain rfl:=bh lH;obtain⟨bV,e'⟩:=x.2.2 a o e;exact⟨_,e',.inr ⟨i.2,bV,rfl⟩⟩
 ·exact⟨o,(x.2.1 a q).trans e,.refl _⟩
noncomputable def B.del (Y:B) (l:List Addr):B:=fun b=>if b∈l then none else Y b
theorem B.O3 {Y:B} {l:List Addr} {b:Addr} (h:b∉l):Y.del l b=Y b:=Tk h
theorem B.C1 {Y:B} {l:List Addr}:∀a cl,Y.del l a=some cl→Y a=some cl:=fun a cl e=>by
 delta B.del at e;split at e
 ·injection e
 ·exact e
noncomputable def pP (Y:B) (e:Addr) (ts:List Addr) (cls:Value):Prop:=∃o H,Y e=some (.raw o)∧o.cls=cls∧o.data= .fields H∧1<H.size∧
 ((ts=[]∧H[1]?=some .none)∨∃T lN us,ts=[T]∧H[1]?=some (.ref T)∧T≠e∧Y T=some (.raw lN)∧lN.data= .fields us∧us[3]?=some .none)
section
variable {c:ah} {k:Nat} {A:Around} {E:Value→Shared→Prop} {s:Shared} {Z:TW} {Y:B} {e L:Addr} {o:Obj} {H:Array Value} {V:Env}
theorem aO.adf (r:gy c Z s.heap Y) (top:c.H0.StaysIn s.heap) (sub:Sub Z s.heap) (ha:Y a≠none∧Y a≠some .any) (av:Heap.SameBut a s.heap h') (xz:h'.get? a=some o') (hc:eV c Z o' eN) (tok:s.toks≤t):aO c Y s Z (Y.put a (some eN)) {s with heap:=h',toks:=t} Z:=by
 refine aP (n8.mp ha.1) fun uL i6=>?_;refine b5 (r a uL i6) fun aH hz h0=>?_;obtain⟨XO,GO,H9⟩:=aH;refine aO.chg (S:=[a]) r (.of_same av (.head _)) (fun b hb=>by refine U (fG.mp hb) ?_;exact ha.1) (fun b hb o e h=>?_) (fun b o e=>?_) (.refl ..) (fun b o e=>?_) (fun b hb=>Tk (fun q=>hb (by refine U q ?_;exact .head _))) (fun b hb cl e=>?_) tok ⟨_,_,rfl⟩
 ·rw[fG.mp hb,GO]at e;obtain rfl:=bh e;exact absurd h.2 (H9.M7 (by rintro rfl;exact ha.2 i6))
 ·exact(av.2 b (by rintro rfl;rw[h0]at e;injection e)).trans (top b o e)
 ·exact⟨(av.2 b (by rintro rfl;rw[hz]at e;injection e)).trans (sub.get e),(sub b o e).2⟩
 ·rw[fG.mp hb]at e⊢;rw[B.ai]at e;obtain rfl:=bh e;exact⟨o',xz,hc⟩
theorem aO.raw (mo:gy c Z s.heap Y) (top:c.H0.StaysIn s.heap) (sub:Sub Z s.heap) (he:Y e=some (.raw o)) (hd:o.data= .fields H) (f:Array Value→Array Value):
 aO c Y s Z (Y.put e (some (.raw (o.mapFields f)))) {s with heap:=s.heap.update e (Obj.mapFields f)} Z:=by
 refine Op (mo e _ he) fun aH J=>?_;refine aU aH fun o' xz s4 hc=>?_;subst s4;have hd':=Cx hd f;exact aO.adf (t:=s.toks) mo top sub (by refine U he ?_;simp) (nh ..) (kZ _ xz (Obj.isFreed_of_fields hd')) ⟨rfl,by rw[Obj.cls_mapFields];exact hc⟩ (aI _)
theorem abY (ku:A.frames=some (qX::outer)) (hl:s.heap.FunFrames base (qX::outer)) (h0:qX.frame=some L)
 (hf:V.frame=some L) (h:∀h',Heap.SlotsOnly ((qX::outer).filterMap (fun x=>x.frame)) s.heap h'→Q (.ref L) {s with heap:=h'}):wpAny M A (PySem.frameOf V) Q E s:=by
 delta PySem.frameOf;refine u8 (wpAny_frameEnvs ku ?_);have qG:((qX::outer).dropWhile fun x=>x.frame !=V.frame)=qX::outer:=by simp[List.dropWhile,h0,hf]
 refine U qG ?_;delta frameObject;refine u8 (u8 (wpAny_readyFrames_fun hl fun h₁ iI=>On ?_));exact U h0 (On (h h₁ iI))
theorem Ph (aW:c.fr=some L) (hf:V.frame=some L) (ok:Ok c k A s) (top:c.H0.StaysIn s.heap) (sub:Sub Z s.heap) (mo:gy c Z s.heap Y)
 (he:Y e=some (.raw o)) (hd:o.data= .fields H) (hsz:1<H.size)
 (h:∀I T s',aO c Y s Z I s' Z→Y T=none→pP I e [T] o.cls→(∀b,b≠e→b≠T→I b=Y b)→Q () s'):
 wpAny c.M A (do let a←PySem.frameOf V;let pl←entryPlaceOf L agB;let b←EntryCells.newEntry head a .none (rawInt L) .none pl;setField (.ref e) 1 b) (fun J s'=>wpAny c.M A (setFlight (.ref e) none) Q E s') E s:=by
 refine d9 (ok.frames) fun l ku hl VN lk=>?_;refine eO (lk L aW) fun qX l' s4 h0=>?_;subst s4;refine u8 (abY ku hl h0 hf fun h₁ iI=>?_);have g₁:=gD.slots iI VN;have nV:aD c s Z {s with heap:=h₁} Z:=⟨g₁,fun b kr EM=>by
  refine U (iI.2.1 b fun hm=>by rw[(hl.mem hm).1]at EM;cases EM) ?_;exact top b kr EM,.refl ..,g₁.sub sub,aI _,⟨_,_,rfl⟩⟩
 have a₁:=nV.pR mo;refine u8 (wpAny_entryPlaceOf fun pl hpl=>?_);delta EntryCells.newEntry newFields;refine u8 (iS ?_ (hpl.sizeOk5 _ _ _ _ _));have a₂:=aO.new (t:=s.toks) (s:={s with heap:=h₁}) (o:={cls:=.type "traceback",dict:=none,data:=.fields ([head,.ref L,.none,rawInt L,.none]++(if pl.isEmpty then List.replicate 6 Value.none else pl)).toArray}) a₁.cells a₁.top a₁.sub rfl (cl:=.raw {cls:=.type "traceback",dict:=none,data:=.fields ([head,.ref L,.none,rawInt L,.none]++(if pl.isEmpty then List.replicate 6 Value.none else pl)).toArray}) ⟨rfl,by simp⟩ (aI _);have qk:Y h₁.objs.size=none:=gy.fresh a₁.cells (aI _);have qe:h₁.objs.size≠e:=by rintro q;rw[q,he]at qk;injection qk
 have Nu:(Y.put h₁.objs.size (some (.raw {cls:=.type "traceback",dict:=none,data:=.fields ([head,.ref L,.none,rawInt L,.none]++(if pl.isEmpty then List.replicate 6 Value.none else pl)).toArray}))) e=some (.raw o):=by refine U (B.aa _ _ (bS qe)) ?_;exact he
 refine Op (a₂.cells e _ Nu) fun aH J=>?_;refine aU aH fun o' xz s4 hc=>?_;subst s4;have a₃:=aO.raw a₂.cells a₂.top a₂.sub Nu hd (·.setIfInBounds 1 (Value.ref h₁.objs.size));refine v5 xz hd hsz ?_;have hd₃:=Cx hd (·.setIfInBounds 1 (Value.ref h₁.objs.size));refine Op (a₃.cells e _ (B.ai ..)) fun aH J=>?_;refine aU aH fun J qz s4 J=>?_;subst s4;delta setFlight;refine u8 (gQ qz hd₃ (x:=.ref h₁.objs.size) (by simp[hsz]) ?_);refine U (ak (show(Value.ref h₁.objs.size !=Value.none)=true from by simp)) ?_;have RT:=(B.aa (Y.put h₁.objs.size (some (.raw {cls:=.type "traceback",dict:=none,data:=.fields ([head,.ref L,.none,rawInt L,.none]++(if pl.isEmpty then List.replicate 6 Value.none else pl)).toArray}))) (some (.raw (o'.mapFields (·.setIfInBounds 1 (Value.ref h₁.objs.size))))) qe).trans (B.ai ..);refine Op (a₃.cells _ _ RT) fun aH J=>?_;refine aU aH fun J wM s4 J=>?_;subst s4;have a₄:=aO.raw a₃.cells a₃.top a₃.sub RT rfl (·.setIfInBounds 3 ((none:Option Addr).elim Value.none fun f=>rawInt f));refine v5 wM rfl (by simp only[jL,dZ,bW,g6]<;>lia) (h _ h₁.objs.size _ (((a₁.trans a₂).trans a₃).trans a₄) qk ?_ fun b hb Mv=>?_)
 ·refine zm _ _ ((B.aa _ _ (bS qe)).trans (B.ai ..)) (Obj.cls_mapFields ..) hd₃ (by simp[hsz]) (.inr ⟨_,_,_,rfl,by simp[hsz],qe,B.ai ..,Cx rfl _,?_⟩)
  first|(simp;done)|(rcases hpl with rfl|⟨_,_,_,_,_,_,_,rfl⟩<;>simp)
 ·exact U (B.aa _ _ Mv) (U (B.aa _ _ hb) (U (B.aa _ _ Mv) rfl))
theorem M6 {ts:List Addr} {cls:Value} {Q:Unit→Shared→Prop} (aW:c.fr=some L) (hf:V.frame=some L) (ok:Ok c k A s) (top:c.H0.StaysIn s.heap) (sub:Sub Z s.heap) (mo:gy c Z s.heap Y) (x:pP Y e ts cls)
 (h:∀I T s',aO c Y s Z I s' Z→pP I e [T] cls→I.del [e,T]=Y.del (e::ts)→Q () s'):wpAny c.M A (noteFrame (.ref e) V) (fun J s₂=>wpAny c.M A (setFlight (.ref e) none) Q E s₂) E s:=by
 refine xw x fun o H he s4 hd hsz hh=>?_;subst s4;obtain⟨⟨o',xz,rfl,hc⟩,_⟩:=mo e _ he;delta noteFrame;simp only[hf];rcases hh with⟨rfl,h1⟩|⟨T,lN,us,rfl,h1,qe,hT,uQ,h3⟩
 ·refine u8 (gQ xz hd h1 ?_);refine U (Tk (by decide)) ?_;refine Ph aW hf ok top sub mo he hd hsz fun I T s' aq qk ex same=>h I T s' aq ex ?_;funext b;delta B.del;by_cases q:b=e
  ·subst q;simp
  ·by_cases q':b=T
   ·subst q';simp[q,qk]
   ·simp[q,q',same b q q']
 ·refine u8 (gQ xz hd h1 ?_);obtain⟨⟨pM,wM,rfl,Sw⟩,_⟩:=mo T _ hT;refine U (ak (show(Value.ref T !=Value.none)=true from by simp)) ?_;refine u8 (gQ wM uQ h3 ?_);refine U (Tk (show¬((Value.none==rawInt L)=true)from by simp[rawInt])) ?_;refine u8 (v5 wM uQ (QL.mp h3).1 ?_);have a₁:=aO.raw mo top sub hT uQ (fun x=>x.setIfInBounds 3 .none);have acM:(Y.put T (some (.raw (pM.mapFields (fun x=>x.setIfInBounds 3 .none))))) e=some (.raw o'):=by refine U (B.aa _ _ (bS qe)) ?_;exact he
  refine Ph aW hf (ok.af a₁.af) a₁.top a₁.sub a₁.cells acM hd hsz fun I T' s' aq qk ex same=>?_;have Ov:T≠T':=by rintro rfl;rw[B.ai]at qk;cases qk
  have e1:(I.del [T]).del [e,T']=Y.del [e,T]:=by
   funext b;delta B.del;by_cases q:b=e
   ·subst q;simp
   ·by_cases q':b=T'
    ·subst q';have:Y b=none:=by rw[B.aa _ _ (bS Ov)]at qk;exact qk
     simp[q,this]
    ·by_cases F3:b=T
     ·subst F3;simp
     ·simp[q,q',F3,same b q q',B.aa _ _ F3]
  refine h (I.del [T]) T' s' ((a₁.trans aq).shrink B.C1) ?_ e1;refine xw ex fun o H NQ VB x3 UE Xf=>?_;rcases Xf with⟨y,_⟩|⟨agM,aex,abW,y1,y2,T8,SR,y5,W8⟩
  ·cases y
  ·cases y1;exact zm o H (by refine U (B.O3 (by simpa using bS qe)) ?_;exact NQ) VB x3 UE (.inr ⟨T',aex,abW,rfl,y2,T8,by refine U (B.O3 (by simpa using bS Ov)) ?_;exact SR,y5,W8⟩)
end
end
section
noncomputable def rH (c:ah) (k:Nat) (O:XV) (Y:B) (e:Expr) (cls:Value) (aX:B→Prop):Prop:=
 ∀(A:Around) (V:Env) (s:Shared) (Z:TW),Ok c k A s→bB c Z s.heap V O Y→∀(Q:Value→Shared→Prop) (E:Value→Shared→Prop),
  (∀x ts I s' Z',aO c Y s Z I s' Z'→pP I x ts cls→aX (I.del (x::ts))→E (.ref x) s')→wpAny c.M A (eval e V) Q E s
noncomputable def mT (c:ah) (k:Nat) (O:XV) (Y:B) (st:Stmt) (cls:Value) (aX:XV→B→Prop):Prop:=
 ∀(A:Around) (V:Env) (s:Shared) (base Z:TW),Ok c k A s→bx c base Z s.heap V O Y→∀(Q:Flow→Shared→Prop) (E:Value→Shared→Prop),
  (∀x ts NE I s' Z',e8 Y s Z I s' Z'→bx c base Z' s'.heap V NE I→pP I x ts cls→aX NE (I.del (x::ts))→E (.ref x) s')→wpAny c.M A (exec st V) Q E s
noncomputable def kh (c:ah) (k:Nat) (O:XV) (Y:B) (JR:List Stmt) (cls:Value) (aX:XV→B→Prop):Prop:=
 ∀(A:Around) (V:Env) (s:Shared) (base Z:TW),Ok c k A s→bx c base Z s.heap V O Y→∀(Q:Flow→Shared→Prop) (E:Value→Shared→Prop),
  (∀x ts NE I s' Z',e8 Y s Z I s' Z'→bx c base Z' s'.heap V NE I→pP I x ts cls→aX NE (I.del (x::ts))→E (.ref x) s')→wpAny c.M A (execs JR V) Q E s
noncomputable def EV (c:ah) (k:Nat) (f:Value) (ds:List D) (Y:B) (cls:Value) (aX:B→Prop):Prop:=
 ∀(A:Around) (s:Shared) (Z:TW) (H:List Value),Ok c k A s→c.H0.StaysIn s.heap→Sub Z s.heap→au Z H ds→gy c Z s.heap Y→∀(Q E:Value→Shared→Prop),
  (∀x ts I s' Z',aO c Y s Z I s' Z'→pP I x ts cls→aX (I.del (x::ts))→E (.ref x) s')→wpAny c.M A (call f H) Q E s
theorem e8.src (x:e8 Y s Z I s' Z') (le:∀a,Y a≠none→aJ a≠none):e8 aJ s Z I s' Z':=
 ⟨x.af,x.le,fun a o e=>(x.ext a o e).imp id (Or.imp (le a) id),fun a h=>(x.jz a h).imp (le a) id⟩
theorem B.Wu {Y:B} {l:List Addr} (a) (h:Y.del l a≠none):Y a≠none:=by
 refine aP (n8.mp h) fun cl e=>?_;refine U (B.C1 a cl e) ?_;simp
section
variable {c:ah} {k:Nat} {O:XV} {Y:B} {Sc:fD→Prop} {cls:Value} {aX:XV→B→Prop}
theorem kh.here {st:Stmt} {rest:List Stmt} (h:mT c k O Y st cls aX):kh c k O Y (st::rest) cls aX:=fun A V s base Z ok w Q E q=>
 Dw (h A V s base Z ok w _ E q)
theorem kh.cons {st:Stmt} {rest:List Stmt} (h:FM c k O Y st (ZC fun NE I=>kh c k NE I rest cls aX)):kh c k O Y (st::rest) cls aX:=by
 intro A V s base Z ok w Q E q;refine Dw (h A V s base Z ok w _ E fun o f s' Z' m cU dG xz=>?_)
 induction dG with
 |next=>exact xz A V s' base Z' (ok.af m.af) cU Q E fun x ts NE I s'' eU m' jO ex hp=>q x ts NE I s'' eU (m.trans m') jO ex hp
 |brk=>exact xz.elim
 |cont=>exact xz.elim
 |ret _=>exact xz.elim
theorem mT.assign (he:rH c k O Y e cls (aX O))
 (hs:∀V,V.scope.kind= .function→swapsWith e (some (.Name n p)) pos.line V=pure false:=by intros;rfl):mT c k O Y (.Assign [.Name n p] e pos) cls aX:=by
 intro A V s base Z ok w Q E q;exact Ah (he A V s Z ok w.rd _ E fun x ts I s' Z' t ex hp=>q x ts O I s' Z' t.run (w.after t) ex hp) (hs V w.rd.fn)
theorem mT.ifs (FS:az c k O Y e b) (No:b=true→kh c k O Y t9 cls aX) (M2:b=false→kh c k O Y uX cls aX):mT c k O Y (.If e t9 uX pos) cls aX:=by
 intro A V s base Z ok w Q E q;refine wpAny_If (FS A V s Z ok w.rd _ E fun s' Z' t=>?_);have q':=fun x ts NE I s'' eU m' jO ex hp=>q x ts NE I s'' eU ((t.run Y).trans m') jO ex hp
 induction b with
 |true=>exact No rfl A V s' base Z' (ok.step t) (w.step t) Q E q'
 |false=>exact M2 rfl A V s' base Z' (ok.step t) (w.step t) Q E q'
theorem UQ (top:c.H0.StaysIn s.heap) (sub:Sub Z s.heap) (mo:gy c Z s.heap Y) (ex:pP Y x [T] cls)
 (h:∀I s',aO c Y s Z I s' Z→pP I x [T] cls→I.del [x,T]=Y.del [x,T]→Q () s'):wpAny c.M A (setFlight (.ref x) none) Q E s:=by
 refine xw ex fun o H he s4 hd hsz hh=>?_;subst s4;obtain⟨⟨o',xz,rfl,hc⟩,_⟩:=mo x _ he;rcases hh with⟨y,_⟩|⟨T',lN,us,y,h1,qe,hT,uQ,h3⟩
 ·cases y
 cases y;obtain⟨⟨pM,wM,rfl,Sw⟩,_⟩:=mo T _ hT;unfold setFlight;refine u8 (gQ xz hd h1 ?_);refine U (ak (show(Value.ref T !=Value.none)=true from by simp)) ?_;have hi:=(QL.mp h3).1;have a₁:=aO.raw mo top sub hT uQ (·.setIfInBounds 3 ((none:Option Addr).elim Value.none fun f=>rawInt f));refine v5 wM uQ hi (h _ _ a₁ ?_ ?_)
 ·refine zm o' H (by refine U (B.aa _ _ (bS qe)) ?_;exact he) rfl hd hsz (.inr ⟨T,_,_,rfl,h1,qe,B.ai ..,Cx uQ _,?_⟩);simp[hi]
 ·funext b;unfold B.del;by_cases q:b=T
  ·subst q;simp
  ·exact U (B.aa _ _ q) rfl
theorem FM.R4 {body K2:List Stmt} {t:Expr} {b₀:Stmt} {hs:List ExceptHandler} {pos Ud:Pos} {tv:Value} (ku:c.fr≠none) (hb:kh c k O Y body cls aX)
 (hm:∀{A:Around} {s:Shared} {x:Addr} {o:Obj} {Q:Bool→Shared→Prop} {E:Value→Shared→Prop},c.H0.StaysIn s.heap→s.heap.get? x=some o→o.cls=cls→Q true s→wpAny c.M A (excMatches (.ref x) tv) Q E s)
 (hh:∀NE I,aX NE I→f8 (c.re true c.T) k NE I t (.val tv)∧wE (c.re true c.T) k NE I (b₀::K2) Sc):
 FM c k O Y (.Try body (.ExceptHandler (some t) none (b₀::K2) Ud::hs) [] [] pos) Sc:=by
 intro A V s bs Z ok w Q E q;refine aP (n8.mp ku) fun L aW=>?_;refine wpAny_Try_except (hb A V s bs Z ok w _ _ fun x ts NE gA s₁ aB run w₁ ex hp=>?_);refine M6 aW (w₁.rd.glob.2.2.2 L aW) (ok.af run.af) w₁.rd.top w₁.rd.sub w₁.rd.cells ex fun ki T s₂ aq DU Jk=>?_;have w₂:=w₁.after aq;rw[←Jk]at hp;refine Op (hh _ _ hp) fun he X4=>?_;have mh:=(ok.af run.af).af aq.af;have Nr:∀{s:Shared},Ok c k A s→Ok (c.re true c.T) k (A.mark (some (.ref x))) s:=fun ok=>⟨ok.depth,ok.units,ok.frames,ok.tok,fun h=>(by injection h)⟩;have UC:=(w₂.shrink (I:=ki.del [x,T]) B.C1).re (hd:=true) (T:=c.T);refine wpAny_handleBy_cons (codeAny_handlers_test (he (A.mark (some (.ref x))) V s₂ aB (Nr mh) UC.rd _ _ fun v aG eB t₃ s5=>?_)) (by intro h;injection h);refine s5.v ?_;have w₃:=w₂.step t₃.nv;refine fJ (id DU) fun o H e1 e2 J=>?_;refine Op (w₃.rd.cells x _ e1) fun aH J=>?_;refine aU aH fun o' xz s4 J=>?_;subst s4;refine hm w₃.rd.top xz e2 ?_;dsimp only[if_true];refine codeAny_handlers_suite ?_;refine UQ w₃.rd.top w₃.rd.sub w₃.rd.cells DU fun xA jh a₄ agg RP=>?_;have iO:=w₃.after a₄;have ic:=(iO.shrink (I:=xA.del [x,T]) B.C1).re (hd:=true) (T:=c.T);have U9:=(mh.step t₃.nv).af a₄.af;rw[RP]at ic;refine X4 (A.mark (some (.ref x))) V jh bs eB (Nr U9) ic _ _ fun o f uh oU r n6 dG adY=>?_;refine q o f uh oU ?_ n6.nv dG adY;refine(((run.trans aq.run).trans (t₃.nv.run ki)).trans a₄.run).trans (r.src fun a h=>?_);rw[←RP]at h;exact B.Wu a h
theorem FM.while (Inv:Nat→XV→B→Prop) (n) (h0:Inv n O Y)
 (turn:∀n NE I,Inv n NE I→∃b,az c k NE I test b∧(b=true→wE c k NE I body (FD (fun J7 kY=>∃m,m<n∧Inv m J7 kY) Sc))∧(b=false→wE c k NE I orelse Sc)):FM c k O Y (.While test body orelse pos) Sc:=by
 intro A V s bs Z ok w Q E q;refine wpAny_While (codeAny_whileLoop (fun n s₂=>∃NE I Z',Inv n NE I∧bx c bs Z' s₂.heap V NE I∧e8 Y s Z I s₂ Z') ?_ n ⟨O,Y,Z,h0,w,.refl ..⟩);intro n s₂ Go;refine dW Go fun NE I bA inv w₂ tV=>?_;refine aU (turn n NE I inv) fun b FS No M2=>?_;refine FS A V s₂ bA (ok.af tV.af) w₂.rd _ _ fun aG eB t=>?_;have uv:=(ok.af tV.af).step t;have w₃:=w₂.step t;have nZ:=tV.trans (t.run I)
 induction b with
 |true=>
  refine U (ak rfl) ?_;refine No rfl A V aG bs eB uv w₃ _ _ fun o f jh oJ r iO dG h=>?_
  induction dG with
  |next=>
   refine wS h fun m hm Jx=>?_;exact⟨m,hm,_,_,oJ,Jx,iO,nZ.trans r⟩
  |cont=>
   refine wS h fun m hm Jx=>?_;exact⟨m,hm,_,_,oJ,Jx,iO,nZ.trans r⟩
  |brk=>exact q (.next _ _) .next jh oJ (nZ.trans r) iO .next h
  |ret t=>exact q (.ret _ _ _) _ jh oJ (nZ.trans r) iO (.ret t) h
 |false=>
  exact U (Tk (by decide)) (M2 rfl A V aG bs eB uv w₃ _ _ fun o f jh oJ r iO dG h=>q o f jh oJ (nZ.trans r) iO dG h)
end
end
section
open PySem.W Builtin
theorem M9 {c:ah} {A:Around} {E:Value→Shared→Prop} {s:Shared} {it m:Addr} {pos:Pos} {Q:Value→Shared→Prop} (hm:s.heap.get? m=some (m7 it))
 (h:wpAny c.M A (call (.ref m) []) Q E s):wpAny c.M A (callWith pos (.ref m) [] (backTo pos []) []) Q E s:=by
 delta callWith;refine u8 (b4 ?_);unfold evalArgs;show wpAny c.M A (spliced []>>=_) _ E s;refine u8 (wN ?_);refine u8 (On ?_);refine b4 ?_;refine u8 (On (u8 (On (On ?_))));refine u8 (gb ?_);have tail:∀{t:Sem Value},wpAny c.M A t Q E s→wpAny c.M A (t>>=fun r=>holding [r] point>>=fun J=>pure r) Q E s:=
  fun FS=>u8 (d8 FS (fun r s₂ hr=>u8 (b4 (zv (On hr)))) fun J J x=>x)
 refine u8 (m:=keeperOf (.ref m)) ?_;unfold keeperOf;refine u8 (lK hm ?_);dsimp only;refine U (ak (by decide)) (U (ak (by decide)) ?_);exact On (tail h)
section
variable {c:ah} {k:Nat} {O:XV} {Y:B} {Sc:D→B→Prop}
theorem aF.Xc (he:aF c k O Y e fun d I=>∃it L i,d= .val (.ref it)∧I it=some (.raw (lP L i))∧∀m,I m=none→Sc (.val (.ref m)) (I.put m (some (.raw (m7 it)))))
 (Au:∀V,eval (.Attribute e "__next__" pos) V=(do
  let iJ←eval e V
  standAt pos.atName
  let r←holding [iJ] (getAttr iJ "__next__" true)
  letTemporaryGo e iJ r
  pure r):=by intro;with_unfolding_all rfl):aF c k O Y (.Attribute e "__next__" pos) Sc:=by
 intro A V s Z ok r Q E g;refine Attribute_any_ (he A V s Z ok r _ E fun d I v s₁ aB EQ s5 ab9=>dW ab9 fun it L i hd hit Ch=>?_) (Au V);subst hd;refine s5.v ?_;have r₁:=r.after EQ;refine Op (r₁.cells it _ hit) fun aH J=>?_;refine aU aH fun o xz e1 J=>?_;subst e1;exact ae8 xz rfl rfl rfl (g _ _ _ _ aB (EQ.trans (aO.new (t:=s₁.toks+1) (cl:=.raw (m7 it)) (o:=m7 it) r₁.cells r₁.top r₁.sub rfl ⟨rfl,by simp⟩ (b9 _))) (.val _) (Ch _ (r₁.fresh (aI _))))
theorem aF.step (hf:f8 c k O Y uD (.val (.ref m))) (hm:Y m=some (.raw (m7 it))) (hi:Y it=some (.raw (lP L i))) (aW:Y L=some (.list l)) (hx:l[i]?=some d)
 (Ch:Sc d (Y.put it (some (.raw (lP L (i+1))))))
 (Au:∀V,eval (.Call uD [] [] pos) V=(do callWith pos (←eval uD V) [] (backTo pos []) []):=by intro;with_unfolding_all rfl):aF c k O Y (.Call uD [] [] pos) Sc:=by
 intro A V s Z ok r Q E g;rw[Au];refine u8 (hf A V s Z ok r _ E fun v s₁ aB EQ s5=>?_);refine s5.v ?_;have r₁:=r.step EQ;obtain⟨⟨acC,y9,e1,_⟩,_⟩:=r₁.cells m _ hm;subst e1;obtain⟨⟨jk,tw,e2,_⟩,_⟩:=r₁.cells it _ hi;subst e2;refine eO (q8 r₁ aW) fun its n IM FS=>?_;refine wS (yz FS hx) fun x iC dz=>?_;refine M9 y9 (Ld y9 ?_);show wpAny _ _ (field (.ref it) 0>>=_) _ _ s₁;refine u8 (gQ tw rfl (x:=.ref L) rfl ?_);show wpAny _ _ (if(Value.ref L==Value.none)=true then _ else _) _ _ s₁;refine U (Tk (show¬((Value.ref L==Value.none)=true)from oV)) ?_;show wpAny _ _ (field (.ref it) 1>>=_) _ _ s₁;refine u8 (gQ tw rfl (x:=.int i 0) rfl ?_);show wpAny _ _ (seqItems? (.ref L)>>=_) _ _ s₁;refine u8 (nC IM rfl ?_);simp only[qB,iC];refine u8 (v5 tw rfl (by simp) (On ⟨x,rfl,?_⟩));have aq:=aO.raw r₁.cells r₁.top r₁.sub hi rfl (·.setIfInBounds 1 (rawInt (i+1)));exact g d _ x _ aB ((EQ.after r).trans aq) dz Ch
theorem rH.step (hh:c.hd=false) (hf:f8 c k O Y uD (.val (.ref m))) (hm:Y m=some (.raw (m7 it))) (hi:Y it=some (.raw (lP L i))) (aW:Y L=some (.list l)) (hx:l[i]?=none)
 (Ch:∀o,aX (Y.put it (some (.raw o))))
 (Au:∀V,eval (.Call uD [] [] pos) V=(do callWith pos (←eval uD V) [] (backTo pos []) []):=by intro;with_unfolding_all rfl):rH c k O Y (.Call uD [] [] pos) (.type "StopIteration") aX:=by
 intro A V s Z ok r Q E g;rw[Au];refine u8 (hf A V s Z ok r _ E fun v s₁ aB EQ s5=>?_);refine s5.v ?_;have r₁:=r.step EQ;obtain⟨⟨acC,y9,e1,_⟩,_⟩:=r₁.cells m _ hm;subst e1;obtain⟨⟨jk,tw,e2,_⟩,_⟩:=r₁.cells it _ hi;subst e2;refine eO (q8 r₁ aW) fun its n IM FS=>?_;have iC:its[i]?=none:=by
  rw[←xq,mu,FS.length];exact mu.mp hx
 refine M9 y9 (Ld y9 ?_);show wpAny _ _ (field (.ref it) 0>>=_) _ _ s₁;refine u8 (gQ tw rfl (x:=.ref L) rfl ?_);show wpAny _ _ (if(Value.ref L==Value.none)=true then _ else _) _ _ s₁;refine U (Tk (show¬((Value.ref L==Value.none)=true)from oV)) ?_;show wpAny _ _ (field (.ref it) 1>>=_) _ _ s₁;refine u8 (gQ tw rfl (x:=.int i 0) rfl ?_);show wpAny _ _ (seqItems? (.ref L)>>=_) _ _ s₁;refine u8 (nC IM rfl ?_);simp only[qB,iC];refine u8 (pJ (u8 (v5 tw rfl (by simp) ?_)));have a₁:=aO.raw r₁.cells r₁.top r₁.sub hi rfl (fun x=>x.setIfInBounds 0 Value.none);show wpAny _ _ (newExc (.type "StopIteration") []>>=_) _ _ _;refine u8 ?_;simp only[newExc,newTuple];refine u8 (iS ?_ (by size_fits));refine u8 (m:=firstArgMember _ _) (qw (a:=Value.none) (by first|rfl|(simp only[firstArgMember];rfl)) ?_);refine iS ?_ (by size_fits);delta raiseNew;refine u8 (wpAny_handled ?_);refine U (show A.in1.handled=none from ok.hand hh) ?_;refine u8 (On (wpAny_throw ?_));have st:=aD.alloc a₁.top a₁.sub {cls:=.type "tuple",data:=.seq #[]};have a₂:=st.pR a₁.cells;have bg:∀{x:Addr},(Y.put it (some (.raw ((lP L i).mapFields (fun x=>x.setIfInBounds 0 Value.none))))) x=none→x≠it:=fun{x} h q=>by rw[q,B.ai]at h;injection h
 have fr:=gy.fresh a₂.cells (aI _);have a₃:=aO.new (t:=s₁.toks) (cl:=.raw {cls:=.type "StopIteration",data:=.fields #[.ref (s₁.heap.update it (Obj.mapFields (fun x=>x.setIfInBounds 0 Value.none))).objs.size,.none,.none,.none,.bool false,.none]}) (o:={cls:=.type "StopIteration",data:=.fields #[.ref (s₁.heap.update it (Obj.mapFields (fun x=>x.setIfInBounds 0 Value.none))).objs.size,.none,.none,.none,.bool false,.none]}) a₂.cells a₂.top a₂.sub rfl ⟨rfl,by simp⟩ (aI _);refine g _ [] _ _ aB ((((EQ.after r).trans a₁).trans a₂).trans a₃) ⟨_,_,B.ai ..,rfl,rfl,by simp,.inl ⟨rfl,rfl⟩⟩ ?_;have e:((Y.put it (some (.raw ((lP L i).mapFields (fun x=>x.setIfInBounds 0 Value.none))))).put ((s₁.heap.update it (Obj.mapFields (fun x=>x.setIfInBounds 0 Value.none))).push {cls:=.type "tuple",data:=.seq #[]}).objs.size (some (.raw {cls:=.type "StopIteration",data:=.fields #[.ref (s₁.heap.update it (Obj.mapFields (fun x=>x.setIfInBounds 0 Value.none))).objs.size,.none,.none,.none,.bool false,.none]}))).del [((s₁.heap.update it (Obj.mapFields (fun x=>x.setIfInBounds 0 Value.none))).push {cls:=.type "tuple",data:=.seq #[]}).objs.size]=Y.put it (some (.raw ((lP L i).mapFields (fun x=>x.setIfInBounds 0 Value.none)))):=by
  funext b;unfold B.del;by_cases q:b∈[((s₁.heap.update it (Obj.mapFields (fun x=>x.setIfInBounds 0 Value.none))).push {cls:=.type "tuple",data:=.seq #[]}).objs.size]
  ·refine U (ak q) ?_;exact U (fG.mp q) fr.symm
  ·exact U (Tk q) (U (B.aa _ _ (fun z=>q (by refine U z ?_;exact .head _))) rfl)
 exact cast (cQ aX e).symm (Ch _)
end
end
section
open PySem.W
noncomputable abbrev Ax (S N:Addr) (q:fq) (o:Option D):XV:=[⟨"self",.loc,some (.val (.ref S))⟩,⟨"n2i",.loc,some (.val (.ref N))⟩,⟨"stack",.loc,some (.val (.ref q.ST))⟩,⟨"itstack",.loc,some (.val (.ref q.fc))⟩,⟨"seen",.loc,some (.val (.ref q.ez))⟩,⟨"node2stacki",.loc,some (.val (.ref q.fK))⟩,⟨"node",.loc,o⟩,
 ⟨"set",.bz,some (.val (.type "set"))⟩,⟨"iter",.bz,some (.val (.builtin "iter"))⟩,⟨"len",.bz,some (.val (.builtin "len"))⟩,⟨"StopIteration",.bz,some (.val (.type "StopIteration"))⟩]
theorem Uy (xz:s.heap.get? x=some o) (hc:o.cls= .type "StopIteration") (h:Q true s):wpAny (model prog w) A (excMatches (.ref x) (.type "StopIteration")) Q E s:=
 wpAny_excMatches_type (b:=true) (X:="StopIteration") ⟨o,xz,hc⟩ (by rw[l_];kernel_rfl) (by rw[l_];kernel_rfl) (by rw[l_];kernel_rfl) h
theorem iW.start {aJ:B} {as:List eG} {ns:List bQ} {ST fc ez fK:Addr} (vV:aJ ST=none) (uZ:(aJ.put ST (some (.list []))) fc=none) (p_:((aJ.put ST (some (.list []))).put fc (some (.list []))) ez=none)
 (lJ:(((aJ.put ST (some (.list []))).put fc (some (.list []))).put ez (some (.set []))) fK=none):iW aJ ((((aJ.put ST (some (.list []))).put fc (some (.list []))).put ez (some (.set []))).put fK (some (.dict []))) as ns ⟨ST,fc,ez,fK⟩ [] [] []:=by
 have a1:fc≠ST:=by rintro rfl;rw[B.ai]at uZ;injection uZ
 rw[B.aa _ _ a1]at uZ;have a2:ez≠fc:=by rintro rfl;rw[B.ai]at p_;injection p_
 rw[B.aa _ _ a2]at p_;have iP:ez≠ST:=by rintro rfl;rw[B.ai]at p_;injection p_
 rw[B.aa _ _ iP]at p_;have iQ:fK≠ez:=by rintro rfl;rw[B.ai]at lJ;injection lJ
 rw[B.aa _ _ iQ]at lJ;have tX:fK≠fc:=by rintro rfl;rw[B.ai]at lJ;injection lJ
 rw[B.aa _ _ tX]at lJ;have xj:fK≠ST:=by rintro rfl;rw[B.ai]at lJ;injection lJ
 rw[B.aa _ _ xj]at lJ;refine⟨((((e9.refl aJ).putN vV _).putN uZ _).putN p_ _).putN lJ _,?_,?_,?_,?_,.nil,?_,?_,fun x hx=>(nomatch hx),yT,yT,fun x hx=>(nomatch hx)⟩
 ·show(((_:B).put fc _).put ez _ |>.put fK _) ST=_;rw[B.aa _ _ (bS xj),B.aa _ _ (bS iP),B.aa _ _ (bS a1),B.ai];rfl
 ·show(((_:B).put fc _).put ez _ |>.put fK _) fc=_;rw[B.aa _ _ (bS tX),B.aa _ _ (bS a2),B.ai];rfl
 ·show(((_:B).put fc _).put ez _ |>.put fK _) ez=_;rw[B.aa _ _ (bS iQ),B.ai]
 ·exact B.ai ..
 ·intro a ha;delta fq.foot at ha;simp only[uq,a_,eF,g5]at ha;obtain rfl|rfl|rfl|rfl:=ha
  ·exact vV
  ·exact uZ
  ·exact p_
  ·exact lJ
 ·delta fq.foot;simp[a1,a2,iP,iQ,tX,xj,bS a1,bS a2,bS iP,bS iQ,bS tX,bS xj]
theorem Cq:∀as ns,qt (iy as ns)
 |[],_=>fun J h=>nomatch h
 |_::_,[]=>fun J h=>nomatch h
 |a::as,n::ns=>fun x h=>by
  rw[yr]at h;refine bD h ?_ fun h=>?_
  ·exact⟨_,rfl⟩
  ·exact Cq as ns x h
section
variable {c:ah} {k:Nat} {aJ:B}
inductive QO (S:Addr) (y:b3) (st:St) (dK:Nat) (b:Option (List Str)) (q:fq) (aJ:B) (aE:List D) (O:XV) (Y:B):Prop
 |mk (r:List Str) (seen:List Str) (od:Option D):(aE=r.map .str)→(iW aJ Y y.as st.nodes q seen [] [])→(iR st.nodes dK r seen=some b)→((∀x∈r,x∈st.nodes.map (fun x=>x.name)))→(O=Ax S y.N q od)→QO S y st dK b q aJ aE O Y
inductive QT (S:Addr) (y:b3) (st:St) (q:fq) (aJ:B) (res:List Str⊕List Str) (f:Nat) (O:XV) (Y:B):Prop
 |mk (node:Str) (seen':List Str) (c5:gE) (fs:List (Addr×Addr)):(iW aJ Y y.as st.nodes q seen' c5 fs)→(mJ st.nodes f node seen' c5=some res)→(node∈st.nodes.map (fun x=>x.name))→(O=Ax S y.N q (some (.str node)))→QT S y st q aJ res f O Y
inductive KG (S:Addr) (y:b3) (st:St) (q:fq) (aJ:B) (res:List Str⊕List Str) (f:Nat) (mL:List Str) (m:Nat) (O:XV) (Y:B):Prop
 |mk (node:Str) (c5:gE) (fs:List (Addr×Addr)):(m=c5.length)→(iW aJ Y y.as st.nodes q mL c5 fs)→((match j0 c5 with|none=>some (.inr mL)|some (z,st')=>mJ st.nodes f z mL st')=some res)→(O=Ax S y.N q (some (.str node)))→KG S y st q aJ res f mL m O Y
theorem TS {S:Addr} {y:b3} {st:St} {o:Obj} {dK:Nat} {b:Option (List Str)} (t:aV c) (ku:c.fr≠none) (hS:aJ S=some (.inst 137 y.iu [])) (hd:aJ y.iu=some (.attrs (g_ y st)))
 (cP:aJ y.N=some (.raw o)) (hf:o.IsDictOf (PySem.strKind c.p c.w) (i_ (iy y.as st.nodes))) (hnd:c6 aJ y.as st.nodes) (hz:st.nodes.length≤900)
 (eT:∀n∈st.nodes,∀x∈n.succ,x∈st.nodes.map (fun x=>x.name)) (hb:iR st.nodes dK (st.nodes.map (fun x=>x.name)) []=some b):
 wE c k (vars [("self",.loc)] [.val (.ref S)] [("n2i",.loc),("stack",.loc),("itstack",.loc),("seen",.loc),("node2stacki",.loc),("node",.loc)] [("set",.type "set"),("iter",.builtin "iter"),("len",.builtin "len"),("StopIteration",.type "StopIteration")]) aJ (gM (ek 6 8))
  (vg fun d I=>d=nK b∧(∀l,b=some l→l≠[]∧l.length≤1000)∧e9 aJ I):=by
 kst_p
 have hh:=t.hd;refine aP (HA hf) fun ep zB=>?_;have hkeys:(i_ (iy y.as st.nodes)).map Prod.fst=st.nodes.map (fun x=>x.name):=by rw[Bl];exact hnd.keys
 refine wE.cons (FM.assign (d:=.val (.ref y.N)) (f8.ga (by kd_p) (cy.attr t hS hd rfl (jC ..) (kP ..) (DJ ..) rfl)) (by kd_in) ?_);refine wE.cons (FM.iT (aF.newList .nil (by decide) fun ST vV=>⟨_,by kd_in,?_⟩));refine wE.cons (FM.iT (aF.newList .nil (by decide) fun fc uZ=>⟨_,by kd_in,?_⟩));refine wE.cons (FM.iT (aF.call (by kd_p) ue .nil (di.newSet fun ez p_=>⟨_,by kd_in,?_⟩)));refine wE.cons (FM.iT (aF.newDict fun fK lJ=>⟨_,by kd_in,?_⟩));have h0:=iW.start (as:=y.as) (ns:=st.nodes) vV uZ p_ lJ;generalize(((aJ.put ST (some (.list []))).put fc (some (.list []))).put ez (some (.set []))).put fK (some (.dict []))=gA at h0⊢;generalize Ch:(⟨ST,fc,ez,fK⟩:fq)=q at h0;obtain⟨rfl,rfl,rfl,rfl⟩:q.ST=ST∧q.fc=fc∧q.ez=ez∧q.fK=fK:=by subst Ch;exact sJ rfl rfl rfl rfl
 refine wE.cons (FM.for hh (Ol zB).dg (items:=(i_ (iy y.as st.nodes)).map fun x=>.str x.1) (bF.keys (by kd_p) (h0.keep.some cP) zB)
  (QO S y st dK b q aJ)
  ⟨st.nodes.map (fun x=>x.name),[],none,by rw[←hkeys,cO];rfl,h0,hb,fun J h=>h,rfl⟩ ?_ ?_ ?_)
 ·intro _ _ Y Go;obtain⟨r,seen,od,_,h,_⟩:=Go;exact h.keep.some cP
 ·intro d rest O Y Go;obtain⟨r,seen,od,bG,h,hs,hr,rfl⟩:=Go;obtain _|⟨x,r⟩:=r
  ·injection bG
  refine Op (jd bG) fun s4 eE=>?_;subst s4 eE;refine bl.name (by kd_in) ?_;refine wE.cons (FM.ifs (b:=decide (x∈seen)) (az.cmp (by kd_p) (by kd_p) (Rs.inSet h.tK)) (fun hx=>wE.cons (FM.cont ?_)) (fun hx=>wE.nil ?_))
  ·refine⟨r,seen,_,rfl,h,?_,fun z hz=>hr z (.tail _ hz),rfl⟩;rw[ye]at hs;rw[ak (by simpa using hx)]at hs;exact hs
  have iC:x∉seen:=by simpa using hx
  rw[ye]at hs;rw[Tk iC]at hs;obtain⟨res,DE,RO⟩:∃res,mJ st.nodes dK x seen []=some res∧(match res with| .inl l=>b=some l| .inr s'=>iR st.nodes dK r s'=some b):=by
   rcases e:mJ st.nodes dK x seen []with _|res
   ·rw[e]at hs;injection hs
   ·rw[e]at hs;refine⟨res,rfl,?_⟩;obtain l|s':=res
    ·obtain rfl:=bh hs;rfl
    ·exact hs
  refine wE.cons (FM.while (QT S y st q aJ res) dK ⟨x,seen,[],[],h,DE,hr x (.head _),rfl⟩ ?_);intro f NE I Go;obtain⟨node,seen',c5,fs,h,hd',M2,rfl⟩:=Go;refine gg true (az.plain f8.bool dB.bool) (fun J=>?_) (fun h=>(by injection h));obtain _|f:=f
  ·injection hd'
  have jm:seen'.length≤900:=Ev (uo h.yd h.Am) (by simpa using hz);have hst:c5.length≤900:=by
   have:=uo h.nodup h.sub;rw[cj]at this;exact Ev ‹_› ‹_›
  have hfl:fs.length≤900:=by refine U h.fr.len ?_;exact hst
  have gi:(ww (c5.map Prod.fst).reverse).length=c5.length:=by simp[ww]
  rw[xZ]at hd';refine wE.cons (FM.mono (Im:=F7 (fun NE I=>∃mL yU HU,iW aJ I y.as st.nodes q mL yU HU∧(match j0 yU with|none=>some (.inr mL)|some (z,st')=>mJ st.nodes f z mL st')=some res∧NE=Ax S y.N q (some (.str node))) (vg fun d I=>d=nK b∧(∀l,b=some l→l≠[]∧l.length≤1000)∧e9 aJ I)) (FM.ifs (b:=decide (node∈seen')) (az.cmp (by kd_p) (by kd_p) (Rs.inSet h.tK)) (fun hm=>?_) (fun hm=>?_)) ?_)
  ·have pA:node∈seen':=by simpa using hm
   rw[ak pA]at hd';refine wE.cons (FM.ifs (b:=decide (node∈c5.map Prod.fst)) ((az.cmp (by kd_p) (by kd_p) (Rs.inDict h.t6)).to (by rw[A3,Iu];simp)) (fun GQ=>?_) (fun GQ=>wE.nil ?_))
   ·have D0:node∈c5.map Prod.fst:=by simpa using GQ
    rw[ak D0]at hd';obtain rfl:=bh hd';have hi:=adt (vh.mpr D0);have hle:(c5.map Prod.fst).reverse.idxOf node≤(ww (c5.map Prod.fst).reverse).length:=by
     exact U (show(ww (c5.map Prod.fst).reverse).length=(c5.map Prod.fst).reverse.length by simp[ww]) I_
    have cM:(lF (ww (c5.map Prod.fst).reverse) (some ((c5.map Prod.fst).reverse.idxOf node:Nat)) none none).length≤900:=by
     refine U (CR hle) (U wO ?_);exact f7 (Eu ..) (bT gi) hst
    refine wE.cons (FM.ret (d:=.list (lF (ww (c5.map Prod.fst).reverse) (some ((c5.map Prod.fst).reverse.idxOf node:Nat)) none none++[.str node])) (f8.bin (f8.slice (by kd_p) (aL.cell h.sy) (fy.some (f8.sub (by kd_p) (by kd_p) (Rs.u7 h.t6 hi))) fy.none fy.none (by simp) (j7 gi hst (by decide))) (f8.list (.cons (by kd_p) .nil) (by simp)) (Rs.D_ aL.list aL.list (by simp only[bW,g6];exact Ev (gw cM) (by decide)))) ?_);have Qt:b=some (nD (c5.map Prod.fst).reverse node):=RO;refine⟨?_,fun l hl=>?_,h.keep⟩
    ·refine U Qt (U (CR hle) ?_);show _=D.list (ww (nD _ _));delta nD ww;refine U gK (U CO ?_);rfl
    ·rw[Qt]at hl;obtain rfl:=bh hl;refine⟨by simp[nD],?_⟩;delta nD;refine U dZ (U wO ?_);simp only[bW,g6,List.length_reverse,cj];exact Ev (gw (Ev (Eu ..) hst)) (by decide)
   ·have D0:node∉c5.map Prod.fst:=by simpa using GQ
    rw[Tk D0]at hd';exact wE.nil ⟨seen',c5,fs,h,hd',rfl⟩
  ·have pA:node∉seen':=by simpa using hm
   rw[Tk pA]at hd';refine aP (J9.mpr M2) fun nd Na=>?_;refine d9 (hnd.find Na) fun a i1 cR fk J=>?_;have hdg:=vM y.as st.nodes node;rw[i1]at hdg;have FG:ji st.nodes node=nd.succ:=by delta ji;exact U Na rfl
   rw[FG]at hd';refine wE.cons (FM.expr (aF.nq (by kd_p) (kL.set h.tK) F.plainAttrs_set F.slot_set_add F.type_set_add (.cons (by kd_p) .nil (by kd_p)) (di.WH h.tK (by kd_p) ?_)));refine uf (h.four) fun n1 b6 dS p8 uV xh qN=>?_;have k1:e9 aJ (I.put q.ez (some (.set (seen'++[node])))):=h.keep.putN (h.new _ (by simp[fq.foot])) _;have Mn:jS (I.put q.ez (some (.set (seen'++[node])))) a nd:=fk.keep k1;refine wE.cons (FM.expr (aF.Tf (by kd_p) (kL.seq (.cell ((B.aa _ _ p8).trans h.x9))) Di F.slot_list_append F.type_list_append (ni.one (aF.Xc (aF.call (by kd_p) sU (.cons (f8.ga (f8.sub (by kd_p) (by kd_p) (Rs.Vq (Cq _ _) (k1.some cP) hf hdg)) (cy.succ t Mn)) .nil (by kd_p)) (di.iter Mn.2.2 fun it hit=>⟨it,a.l,0,rfl,B.ai ..,fun m hm=>?_⟩))))));have pu:=h.push pA M2 i1 hit hm;have abj:it≠q.ez:=by rintro rfl;rw[B.ai]at hit;injection hit
   have abD:I it=none:=by rw[B.aa _ _ abj]at hit;exact hit
   have afW:m≠it:=by rintro rfl;rw[B.ai]at hm;injection hm
   have hm₂:=hm;rw[B.aa _ _ afW]at hm₂;have ZE:m≠q.ez:=by rintro rfl;rw[B.ai]at hm₂;injection hm₂
   have mn:I m=none:=by rw[B.aa _ _ ZE]at hm₂;exact hm₂
   have HM:∀{b},I b≠none→b≠it∧b≠m:=fun{b} hb=>⟨by rintro rfl;exact hb abD,by rintro rfl;exact hb mn⟩;refine Op (HM (b:=q.fc) (by refine U h.x9 ?_;simp)) fun bU bN=>?_;refine Op (HM (b:=q.ST) (by refine U h.sy ?_;simp)) fun ee cX=>?_;refine Op (HM (b:=q.fK) (by refine U h.t6 ?_;simp)) fun dF jy=>?_;refine di.append (l:=fs.reverse.map fun p=>.val (.ref p.1)) (by refine U (B.aa _ _ bN) (U (B.aa _ _ bU) (U (B.aa _ _ p8) ?_));exact h.x9) (by simp;exact Ev hfl (by decide)) ?_;dsimp only;refine wE.cons (FM.Aa (.nt (d:=.int ((ww (c5.map Prod.fst).reverse).length:Nat)) (f8.len (by kd_p) (by kd_p) (aL.cell (l:=ww (c5.map Prod.fst).reverse) (by refine U (B.aa _ _ n1) (U (B.aa _ _ cX) (U (B.aa _ _ ee) (U (B.aa _ _ b6) ?_)));exact h.sy)) (j7 gi hst (by decide))) ⟨by kd_p,by kd_p,ko (c5.map Prod.fst).reverse,?_,by rw[Ro];simp;exact Ev ‹_› (by decide),?_⟩))
   ·refine U (B.aa _ _ (bS uV)) (U (B.aa _ _ jy) (U (B.aa _ _ dF) (U (B.aa _ _ (bS xh)) ?_)));exact h.t6
   refine U (Cj (by rw[Iu];intro z;exact pA (h.sub _ (vh.mp z)))) (U (show(ww (c5.map Prod.fst).reverse).length=(c5.map Prod.fst).reverse.length by simp[ww]) ?_);refine wE.cons (FM.expr (aF.append (l:=ww (c5.map Prod.fst).reverse) (by kd_p) (by kd_p) (by refine U (B.aa _ _ dS) (U (B.aa _ _ n1) (U (B.aa _ _ cX) (U (B.aa _ _ ee) (U (B.aa _ _ b6) ?_))));exact h.sy) (j7 gi hst (by decide)) ?_));exact wE.nil ⟨_,_,_,pu,hd',rfl⟩
  ·rintro o xz
   induction o with
   |brk _ _=>exact xz.elim
   |cont _ _=>exact xz.elim
   |ret d _ I=>
    exact xz
   |next NE I=>
   refine dW xz fun mL yU HU h hd' s4=>?_;subst s4;refine wE.cons (FM.while (KG S y st q aJ res f mL) yU.length ⟨node,yU,HU,rfl,h,hd',rfl⟩ ?_);intro m NE I Go;obtain⟨node,c5,fs,rfl,h,hd',rfl⟩:=Go;have jm:mL.length≤900:=Ev (uo h.yd h.Am) (by simpa using hz);have hst:c5.length≤900:=by
    have:=uo h.nodup h.sub;rw[cj]at this;exact Ev ‹_› ‹_›
   have hfl:fs.length≤900:=by refine U h.fr.len ?_;exact hst
   have gi:(ww (c5.map Prod.fst).reverse).length=c5.length:=by simp[ww]
   refine gg _ (az.plain (by kd_p) (dB.seq (aL.cell h.sy) (j7 gi hst (by decide)))) (fun bg=>?_) (fun he=>?_)
   ·have afG:=h.fr
    induction afG with
    |nil=>simp[ww]at bg
    | @cons m it a nd n i fs c5 h1 h2 h3 h4=>
    have hat:=(hnd.at h3).keep h.keep;have yI:I q.fc=some (.list ((fs.reverse.map fun p=>D.val (.ref p.1))++[.val (.ref m)])):=by refine U h.x9 ?_;simp
    have jG:((fs.reverse.map fun p=>D.val (.ref p.1))++[.val (.ref m)])[(-(1:Int)+(((fs.reverse.map fun p=>D.val (.ref p.1))++[D.val (.ref m)]).length:Nat)).toNat]?=some (.val (.ref m)):=by
     have:(-(1:Int)+(((fs.reverse.map fun p=>D.val (.ref p.1))++[D.val (.ref m)]).length:Nat)).toNat=(fs.reverse.map fun p=>D.val (.ref p.1)).length:=by
      refine U dZ ?_;simp only[bW,g6];exact Ht
     refine U this ?_;simp
    have QK:((fs.reverse.map fun p=>D.val (.ref p.1))++[D.val (.ref m)]).length≤1000000:=by
     simp only[bW]at hfl;simp;exact Ev (g9 hfl) (by decide)
    rcases bG:nd.succ.drop i with _|⟨z,zs⟩
    ·rw[bG]at h hd';have vV:I q.ST=some (.list (ww (c5.map Prod.fst).reverse++[.str n])):=by rw[h.sy,aK,DN,ux]
     have lJ:I q.fK=some (.dict (ko (c5.map Prod.fst).reverse++[(n,.int ((c5.map Prod.fst).reverse.length:Nat))])):=by rw[h.t6,aK,DN,Lu]
     have zf:n∉(ko (c5.map Prod.fst).reverse).map Prod.fst:=by
      have:=h.nodup;rw[aK,dm]at this;rw[Iu,vh];exact this.1
     refine uf (h.four) fun n1 b6 dS p8 uV xh qN=>?_;refine mz (qN it (by simp)) fun b1 fC lW xV=>?_;simp only[bW]at hst hfl;refine wE.cons (FM.R4 (cls:=.type "StopIteration") (tv:=.type "StopIteration") (aX:=fun NE gW=>NE=Ax S y.N q (some (.str node))∧∃o,gW=I.put it (some (.raw o))) ku (kh.here (mT.assign (rH.step hh (f8.sub (by kd_p) (f8.neg (i:=1) (by kd_p)) (Rs.wg (aL.cell yI) (by decide) (by simp;exact Gv (kG _)) jG QK)) h1 h2 hat.2.2 (by
      have:nd.succ.length≤i:=by simpa using bG
      simp[ww];exact this) fun o=>⟨rfl,o,rfl⟩))) (fun J=>Uy) ?_)
     intro _ _ Go;obtain⟨rfl,o,rfl⟩:=Go;refine⟨by kd_p,?_⟩;refine wE.cons (FM.del (x:=n) (by kd_p) (aF.pop (l:=ww (c5.map Prod.fst).reverse) (by kd_p) ((B.aa _ _ (bS b1)).trans vV) (by simp[ww];exact Ev (g9 hst) (by decide)) ⟨rfl,ko (c5.map Prod.fst).reverse++[(n,.int ((c5.map Prod.fst).reverse.length:Nat))],?_,?_,?_,?_⟩))
     ·refine U (B.aa _ _ (bS dS)) (U (B.aa _ _ (bS xV)) ?_);exact lJ
     ·refine U A3 ?_;simp
     ·rw[dZ,Ro];simp;exact Ev (g9 hst) (by decide)
     refine U (ZN zf) ?_;refine wE.cons (FM.expr (aF.pop (l:=fs.reverse.map fun p=>D.val (.ref p.1)) (d:=.val (.ref m)) (by kd_p) ?_ (by simp;exact Ev (g9 hfl) (by decide)) ?_))
     ·refine U (B.aa _ _ uV) (U (B.aa _ _ (bS n1)) (U (B.aa _ _ (bS fC)) ?_));exact yI
     exact wE.nil (wE.nil ⟨c5.length,by simp,node,c5,fs,rfl,h.pop h4,hd',rfl⟩)
    ·rw[bG]at hd';have LV:nd.succ[i]?=some z:=by rw[←BP,bG];rfl
     have yv:nd.succ.drop (i+1)=zs:=by refine ZB C_ (U bG ?_);rfl
     have qU:z∈st.nodes.map (fun x=>x.name):=eT nd (zc (uc h3).1) z (uy LV);refine wE.cons (FM.A1 (wE.cons (FM.iT (aF.step (d:=.str z) (f8.sub (by kd_p) (f8.neg (i:=1) (by kd_p)) (Rs.wg (aL.cell yI) (by decide) (by simp;exact Gv (kG _)) jG QK)) h1 h2 hat.2.2 (by simp[ww,LV]) ⟨_,by kd_in,?_⟩))));refine wE.cons (FM.brk ?_);refine wE.nil ⟨f,jM f,z,mL,_,_,h.step h1 h3 h4,?_,qU,rfl⟩;exact U yv hd'
   ·have:c5=[]:=by
     obtain _|⟨a,b⟩:=c5
     ·rfl
     ·simp[ww]at he
    subst this;cases h.fr;obtain rfl:=bh hd';refine wE.cons (FM.brk ?_);exact wE.nil ⟨r,mL,_,rfl,h,RO,fun z hz=>hr z (.tail _ hz),rfl⟩
 ·intro O Y Go;obtain⟨r,seen,od,bG,h,hs,hr,rfl⟩:=Go;obtain _|⟨x,r⟩:=r
  rotate_left
  ·injection bG
  obtain rfl:=bh hs;exact wE.nil (wE.cons (FM.ret (d:=.val .none) (by kd_p) ⟨rfl,fun l hl=>(by injection hl),h.keep⟩))
end
end
section
open PySem.W
section
variable {c:ah} {k:Nat} {O:XV} {Y:B}
theorem f8.Vu (h:f8 c k O Y e d):f8 c k O Y (.JoinedStr [e] pos) d:=fun A V s Z ok r Q E q=>JoinedStr_one (h A V s Z ok r Q E q)
theorem c6.put (h:c6 Y as ns) (ha:Y a=some cl) (M2:(∀C d l,cl≠ .inst C d l)∧(∀l,cl≠ .attrs l)∧∀l,cl≠ .list l):c6 (Y.put a (some eN)) as ns:=by
 refine h.congr fun b hb=>?_;refine d9 (h.mem b hb) fun n J h1 h2 h3=>?_;refine⟨B.aa _ _ ?_,B.aa _ _ ?_,B.aa _ _ ?_⟩
 ·rintro rfl;rw[ha]at h1;obtain rfl:=bh h1;exact M2.1 _ _ _ rfl
 ·rintro rfl;rw[ha]at h2;obtain rfl:=bh h2;exact M2.2.1 _ rfl
 ·rintro rfl;rw[ha]at h3;obtain rfl:=bh h3;exact M2.2.2 _ rfl
theorem Ff {S:Addr} {y:b3} {st:St} {dK:Nat} {b:Option (List Str)} (t:aV c) (h:bI Y S y st) (hz:st.nodes.length≤900) (eT:∀n∈st.nodes,∀x∈n.succ,x∈st.nodes.map (fun x=>x.name)) (hb:iR st.nodes dK (st.nodes.map (fun x=>x.name)) []=some b):
 cD c (k+1) (.ref 127) [.val (.ref S)] Y (fun d I=>d=nK b∧(∀l,b=some l→l≠[]∧l.length≤1000)∧e9 Y I):=by
 refine eS.pm (eS.fix (N:=y.N) h.fF (Cq _ _) fun o hf=>?_);refine eS.fn (st:=ek 6 8) (qual:="TopologicalSorter._find_cycle") (dV:=.none) (ps:=[("self",.loc)]) (ls:=[("n2i",.loc),("stack",.loc),("itstack",.loc),("seen",.loc),("node2stacki",.loc),("node",.loc)]) (gs:=[("set",.type "set"),("iter",.builtin "iter"),("len",.builtin "len"),("StopIteration",.type "StopIteration")]) (t.fn rfl rfl rfl rfl) (by kd_p)
  (bC (t.dw (by kd_p) (by kd_p) (by decide)) (bC (t.dw (by kd_p) (by kd_p) (by decide)) (bC (t.dw (by kd_p) (by kd_p) (by decide)) (bC (t.dw (by kd_p) (by kd_p) (by decide)) cI)))) rfl (fun J J=>.plain rfl (jg fun J=>rfl)) fun bP=>?_
 have mj:∀{a:Addr} {cl:iz},Y a=some cl→(∀l,cl≠ .dict l)→(Y.put y.N (some (.raw o))) a=some cl:=fun{a cl} e M2=>by
  exact U (B.aa _ _ (by rintro rfl;rw[h.fF]at e;obtain rfl:=bh e;exact M2 _ rfl)) e
 intro A V s bs Z ok w Q E q;refine TS (t.at (L:=bP)) (by simp) (mj h.inst (by simp)) (mj h.attrs (by simp)) (B.ai ..) hf (h.dO.put h.fF (by simp)) hz eT hb A V s bs Z ok w Q E fun f5 f s' Z' r cU dG hp=>q f5 f s' Z' r cU dG ?_
 induction f5 with
 |next _ _=>exact hp.elim
 |brk _ _=>exact hp
 |cont _ _=>exact hp
 |ret d _ I=>
  refine b5 hp fun h1 h0 h2=>?_;refine sJ (h2.some (B.ai ..)) h1 h0 (fun a ha=>?_);by_cases e:a=y.N
  ·subst e;rw[B.ai,h.fF]
  ·refine U (B.aa _ _ e) ?_;have:=h2 a (by refine U (B.aa _ _ e) ?_;exact ha);exact U this (U (B.aa _ _ e) rfl)
noncomputable def k6 (ns:List bQ):List Str:=(ns.filter fun n=>n.np==0).map (fun x=>x.name)
theorem OB:∀as ns,(i_ (iy as ns)).map (fun x=>D.val x.2)=(as.zip ns).map fun p=>.val (.ref p.1.i)
 |[],_=>rfl
 |_::_,[]=>rfl
 |a::as,n::ns=>cQ (D.val (.ref a.i)::·) (OB as ns)
theorem Sf:∀(as:List eG) (ns:List bQ),as.length=ns.length→((as.zip ns).filter fun p=>p.2.np==0).map (fun p=>D.str p.2.name)=ww (k6 ns)
 |[],[],_=>rfl
 |a::as,n::ns,h=>by
  have ih:=Sf as ns (by simpa using h);unfold k6 ww at ih⊢;refine U p6 (U je (U je ?_));by_cases q:(n.np==0)=true
  ·simp only[q,mC,aK,ih]
  ·simp only[q,jA,ih,j3]
theorem bI.Ku {S:Addr} {y:b3} {st:St} {R:Addr} (h:bI Y S y st) (hr:y.rs=[]) (bE:Y R=none) (r):
 bI ((Y.put R (some (.list (ww r)))).put y.iu (some (.attrs (g_ {y with rs:=[R]} {st with ready:=some r})))) S {y with rs:=[R]} {st with ready:=some r}:=by
 have ne:∀{b:Addr} {cl:iz},Y b=some cl→b≠R:=fun{b cl} e q=>by rw[q,bE]at e;cases e
 have nd:∀{b:Addr} {cl:iz},Y b=some cl→(∀l,cl≠ .attrs l)→b≠y.iu:=fun{b cl} e M2 q=>by rw[q,h.attrs]at e;cases e;exact M2 _ rfl
 have key:∀{b:Addr} {cl:iz},Y b=some cl→(∀l,cl≠ .attrs l)→((Y.put R (some (.list (ww r)))).put y.iu (some (.attrs (g_ {y with rs:=[R]} {st with ready:=some r})))) b=some cl:=fun{b cl} e M2=>by
  refine U (B.aa _ _ (nd e M2)) (U (B.aa _ _ (ne e)) ?_);exact e
 refine⟨key h.inst (by simp),B.ai ..,key h.fF (by simp),h.dO.congr fun a ha=>?_,⟨R,rfl,?_⟩,h.q7,?_⟩
 ·refine d9 (h.dO.mem a ha) fun n J n1 b6 dS=>?_;refine⟨(key n1 (by simp)).trans n1.symm,?_,(key dS (by simp)).trans dS.symm⟩;have:a.d≠y.iu:=by intro q;rw[q,h.attrs]at b6;cases b6
  exact U (B.aa _ _ this) (U (B.aa _ _ (ne b6)) rfl)
 ·rw[B.aa _ _ (bS (ne h.attrs)),B.ai]
 ·have:=h.pW;rw[hr,fV]at this;rw[kq];refine⟨this,by simp,fun a ha b hb=>?_⟩;refine wS (ao.mp ha) fun z hz s4=>?_;subst s4;refine d9 (h.dO.mem z hz) fun n J J J dS=>?_;exact U (fG.mp hb) (ne dS)
theorem bJ.keep (h:e9 Y I):bJ F Y F I:=⟨fun a J ha=>h a ha,fun J h=>.inl h⟩
theorem c6.zip (h:c6 Y as ns):∀p∈as.zip ns,jS Y p.1 p.2:=by
 induction h with
 |nil=>intro p hp;cases hp
 |cons h1 _ ih=>
  intro p hp;rw[p6]at hp;refine bD hp ?_ fun hp=>?_
  ·exact h1
  ·exact ih p hp
theorem KA {S:Addr} {y:b3} {st:St} {Sc:D→B→Prop} {um nX VT QN LD acj ac8 aay aaV Wa abw pos:Pos} {tk:Tok} {sc:Scope} (t:aV c) (h:bI Y S y st) (hS:⟨"self",.loc,some (.val (.ref S))⟩∈O) (hz:st.nodes.length≤900)
 (hok:nG sc [("i",.loc)] [] []=true) (Ch:∀R,Y R=none→Sc (.val (.ref R)) (Y.put R (some (.list (ww (k6 st.nodes))))))
 (hl:(QN.endLine==LD.line)=true):
 aF c k O Y (.ListComp (.Attribute (.Name "i" um) "node" nX) [⟨.Name "i" VT,.Call (.Attribute (.Attribute (.Name "self" acj) "_node2info" ac8) "values" QN) [] [] LD,[.Compare (.Attribute (.Name "i" aay) "npredecessors" aaV) [.Eq] [.Constant (.int 0) tk Wa] abw],0⟩] sc pos) Sc:=by
 refine aF.fix h.fF (Cq _ _) fun o hf=>?_;obtain⟨ep,zB⟩:=HA hf;have mj:∀{a:Addr} {cl:iz},Y a=some cl→(∀l,cl≠ .dict l)→(Y.put y.N (some (.raw o))) a=some cl:=fun{a cl} e M2=>by
  exact U (B.aa _ _ (by rintro rfl;rw[h.fF]at e;obtain rfl:=bh e;exact M2 _ rfl)) e
 have dO:=h.dO.put (eN:=.raw o) h.fF (by simp);refine aF.mono (aF.mV t.hd (adJ zB).dg (ts:=[("i",.loc)]) (caps:=[]) (gs:=[]) (items:=(i_ (iy y.as st.nodes)).map fun x=>.val x.2) (out:=ww (k6 st.nodes)) (Sc:=fun d I=>I y.N=some (.raw o)∧Sc d (I.put y.N (some (.dict (iy y.as st.nodes))))) (by intros;rfl) hok (by simp) cI
  (bF.values (f8.ga (f8.name hS (hd:=by kd_p)) (cy.attr t (mj h.inst (by simp)) (mj h.attrs (by simp)) rfl (jC ..) (kP ..) (DJ ..) rfl)) (B.ai ..) zB (by kd_p) hl) (B.ai ..) ?_ (fun R bE=>?_)) (fun d I h=>h)
 ·rw[OB,←Sf y.as st.nodes h.dO.len];refine dR.one (xs:=y.as.zip st.nodes) (P:=fun p=>p.2.np==0) (F:=fun p=>.str p.2.name) (fun p=>.val (.ref p.1.i)) (by refine U List.length_zip (U h.dO.len ?_);exact Ev (Nat.min_le_left ..) (Ev ‹_› (by decide))) fun p hp=>?_;have at_:jS (Y.put y.N (some (.raw o))) p.1 p.2:=dO.zip p hp
  exact⟨eH.one (az.cmp (f8.ga (by kd_p) (cy.np t at_)) (by kd_p) Rs.PU),fun J=>f8.ga (by kd_p) (cy.node t at_)⟩
 ·have HX:R≠y.N:=by rintro rfl;rw[B.ai]at bE;injection bE
  rw[B.aa _ _ HX]at bE;refine⟨by rw[B.aa _ _ (bS HX),B.ai],?_⟩;have e:((Y.put y.N (some (.raw o))).put R (some (.list (ww (k6 st.nodes))))).put y.N (some (.dict (iy y.as st.nodes)))=Y.put R (some (.list (ww (k6 st.nodes)))):=by
   funext b;by_cases q:b=y.N
   ·subst q;rw[B.ai,B.aa _ _ (bS HX),h.fF]
   ·by_cases q':b=R
    ·subst q';rw[B.aa _ _ q,B.ai,B.ai]
    ·exact U (B.aa _ _ q) (U (B.aa _ _ q') (U (B.aa _ _ q) (U (B.aa _ _ q') rfl)))
  exact U e (Ch R bE)
end
end
section
open PySem.W
section
variable {c:ah} {k:Nat} {O:XV} {Y:B}
theorem rH.pe (t:aV c) (xz:f8 c k O Y o (.val (.ref a))) (ha:Y a=some (.inst C dx l)) (hd:Y dx=some (.attrs al)) (s5:cN al name=Option.none)
 (hg:plainGet (c8 c) C name=true) (hf:findIn (c8 c) (.ref C) name=some (some (.ref f))) (FS:typeIn (c8 c) (.ref f)=some (.type "function")) (IS:qs c (.ref f)) (yO:iA c k O Y args ds) (hc:EV c k (.ref f) (.val (.ref a)::ds) Y cls aX)
 (he:∀V,∃pl,eval (.Call (.Attribute o name c9) args [] pos) V=(do
  let iJ←eval o V
  standAt c9.atName
  let(f,first)←holding [iJ] (getMethod iJ name pl)
  callWith pos f first (backTo pos (starEach args V)) (backToKw pos (keywordEach [] V))):=by intro;exact⟨_,rfl⟩)
 (hs:∀V,(starEach args V).all (fun y=>!y.1)=true:=by kd_p):rH c k O Y (.Call (.Attribute o name c9) args [] pos) cls aX:=by
 intro A V s Z ok r Q E q;obtain⟨pl,he⟩:=he V;refine methodCall_KW (pl:=pl) (xz A V s Z ok r _ E fun v s₁ aB EQ g8=>?_) he;refine g8.v ?_;have r₁:=r.step EQ;refine tD (vv r₁ ha hd) fun aQ kvs n im=>?_;refine method_fn (t.oE r₁.top) im.at_ (qE hg).1 (qE hg).2 hf FS (by show(lookIn name _).map _=_;rw[AK,(CH im.keys im.vals name).1 s5];rfl) ?_;dsimp only;show wpAny c.M A (callWith pos (.ref f) [.ref a] (backTo pos (starEach args V)) []) Q E s₁;refine l6 IS (nQ yO (ok.step EQ) r₁ hs fun H s₂ bA t₂ bf=>⟨t₂.top,?_⟩);have st:=EQ.trans t₂;have r₂:=r₁.step t₂;exact hc A s₂ bA (.ref a::H) (ok.step st) r₂.top r₂.sub (.cons (.val _) bf) r₂.cells Q E fun x ts I s' Z' aq ex hp=>q x ts I s' Z' ((st.after r).trans aq) ex hp
theorem mT.ret (he:rH c k O Y e cls (aX O)):mT c k O Y (.Return (some e) pos) cls aX:=by
 intro A V s bs Z ok w Q E q;exact Il (he A V s Z ok w.rd _ E fun x ts I s' Z' t ex hp=>q x ts O I s' Z' t.run (w.after t) ex hp)
noncomputable abbrev lZ (st:St):St:={st with ready:=some (k6 st.nodes)}
noncomputable abbrev gn (y:b3) (R:Addr):b3:={y with rs:=[R]}
theorem U8 {S:Addr} {y:b3} {st:St} {dK:Nat} (t:aV c) (h:bI Y S y st) (hr:st.ready=none) (hz:st.nodes.length≤900) (eT:∀n∈st.nodes,∀x∈n.succ,x∈st.nodes.map (fun x=>x.name)) (hb:iR st.nodes dK (st.nodes.map (fun x=>x.name)) []=some none):
 cD c (k+2) (.ref 92) [.val (.ref S)] Y (fun d I=>d= .val .none∧∃R,bI I S (gn y R) (lZ st)∧bJ (y.foot S) Y ((gn y R).foot S) I):=by
 have hrs:y.rs=[]:=by have:=h.gH;rw[hr]at this;exact this
 refine cD.fn (st:=ek 6 3) (qual:="TopologicalSorter.prepare") (dV:=.none) (ps:=[("self",.loc)]) (ls:=[("cycle",.loc)]) (gs:=[("ValueError",.type "ValueError"),("CycleError",.ref 55)]) (t.fn rfl rfl rfl rfl) (by kd_p) (bC (t.dw (by kd_p) (by kd_p) (by decide)) (bC (t.glob (by kd_p)) cI)) rfl (fun J J=>.plain rfl (jg fun J=>rfl)) ?_;intro bP;replace t:=t.at (L:=bP);generalize c.at bP=c at t⊢
 kst_p
 refine wE.cons (FM.ifs (b:=false) ((az.cmp (f8.ga (by kd_p) (cy.gH t h)) (by kd_p) Rs.isNotNone).to (by refine U hrs ?_;rfl)) (fun h=>(by injection h)) fun J=>wE.nil ?_);refine wE.cons (FM.pq (KA t h (by walk_at "v") hz (by kd_p) (fun R bE=>⟨by kd_p,_,gS.attr (C:=137) (dx:=y.iu) (l:=[]) (al:=g_ y st) t ((B.aa _ _ (by rintro rfl;rw[h.inst]at bE;injection bE)).trans h.inst) ((B.aa _ _ (by rintro rfl;rw[h.attrs]at bE;injection bE)).trans h.attrs) (sL ..) (se ..) (rO (DW ..)) (kP ..) (by simp[g_]),?_⟩) (by rfl)));have h2:=h.Ku hrs bE (k6 st.nodes);have kX:bJ (y.foot S) Y ((gn y R).foot S) ((Y.put R (some (.list (ww (k6 st.nodes))))).put y.iu (some (.attrs (g_ (gn y R) (lZ st))))):=by
  refine(bJ.fresh (F:=y.foot S) (F':=(gn y R).foot S) bE (fun b hb=>?_) _).trans (bJ.put ((gn y R).yX S) _);unfold b3.foot at hb⊢;simp only[hrs,oA,a_,nY]at hb⊢;obtain h|h|h|h|h:=hb
  ·exact .inl (.inl h)
  ·exact .inl (.inr (.inl h))
  ·exact .inl (.inr (.inr (.inl h)))
  ·exact .inr h
  ·exact .inl (.inr (.inr (.inr h)))
 have i9:iG (g_ y st) "_ready_nodes" (.val (.ref R))=g_ (gn y R) (lZ st):=rfl;refine U i9 ?_;generalize(Y.put R (some (.list (ww (k6 st.nodes))))).put y.iu (some (.attrs (g_ (gn y R) (lZ st))))=ki at h2 kX⊢;refine wE.cons (FM.iT (aF.pe t (by kd_p) h2.inst h2.attrs (by rfl) (jC ..) (GR ..) (Hh ..) (fX (st:=ek 6 8) (t.fn rfl rfl rfl rfl)) .nil (di.mono (cD.r ((Ff (k:=k) t h2 hz eT hb).less (aI _))) ?_)));intro d kY Go;obtain⟨rfl,_,dM⟩:=Go;refine⟨_,by kd_in,?_⟩;dsimp only[nK];refine wE.cons (FM.ifs (b:=false) (az.plain (d:=.val .none) (by kd_p) dB.none) (fun h=>(by injection h)) fun J=>wE.nil ?_);exact wE.nil ⟨rfl,R,h2.keep dM,kX.trans (bJ.keep dM)⟩
end
end
theorem Zl (eY:Ez c f fd body)
 (m9:lX c fd ps ds₀ ds) (dI:ds.length=ps.length)
 (kinds:∀x∈ps++ls,(x.2= .loc∧fd.scope.names.lookup x.1=some .local)∨(x.2= .aM∧fd.scope.names.lookup x.1=some .cell))
 (gl:∀x∈gs,fd.scope.names.lookup x.1=some .globalImplicit∧gB c.H0 x.1 x.2)
 (nd:((ps++ls).map Prod.fst++gs.map Prod.fst).Nodup)
 (Ai:Ok c (k+1) A s₀) (kE:c.H0.StaysIn s₀.heap) (rF:Sub jH s₀.heap) (IX:au jH Ey ds₀) (JC:gy c jH s₀.heap Y)
 (bO:∀L V s' bs Z,V.frame=some L→Ok (c.at L) k (A.deeper V) s'→bx (c.at L) bs Z s'.heap V (vars ps ds ls gs) Y→(∀NE I s'' eU,e8 Y s' Z I s'' eU→bx (c.at L) bs eU s''.heap V NE I→aO c Y s₀ jH I s'' eU)→
  wpAny c.M (A.deeper V) (execs body V) (fun f s'=>R (.ok (.ret (match f with| .ret v=>v|_=>.none))) s') (fun e s'=>wpAny c.M (A.deeper V) (leaving V e) (fun J s''=>R (.error e) s'') (fun e' s''=>R (.error e') s'') s') s'):codeAny c.M A (.call (.ref f) ⟨Ey,[]⟩) R s₀:=by
 refine wS (eY.obj) fun o xz hd=>?_;refine codeAny_call_function (fU (f9 (bX ..) Ai.depth) (by decide)) (kE _ _ xz) hd eY.co eY.gen eY.body (eY.code.keeps kE) ?_;refine U eY.closure (U eY.globals (U eY.builtins ?_));refine m9 _ s₀ jH Ey kE rF IX _ _ fun H s Z EQ bf=>?_;have ok:=Ai.step EQ;have top:=EQ.top;have sub:=EQ.sub;have o9:=EQ.pR JC;have mo:gy c Z s.heap Y:=o9.cells;have cM:H.length=ps.length:=bf.length.trans dI;have zY:((ps.map Prod.fst).zip H).map Prod.fst=ps.map Prod.fst:=by
  rw[List.map_fst_zip];rw[cj];exact bT (uw ‹_›)
 have bn:(((ps.map Prod.fst).zip H).map Prod.fst).Nodup:=by
  refine U zY ?_;rw[gK,j6]at nd;exact(kq.mp nd).1
 have qR:∀{L:Nat} {n:Str},fd.scope.names.lookup n=some .cell→∃a,(cellsFrom L fd.scope.names []).lookup n=some a:=fun h=>by
  obtain⟨a,ha⟩:=Fi (wP:=[]) (.inr (mem_of_lookup h));exact JB ha
 have kd:∀x∈(ps.map Prod.fst).zip H,fd.scope.names.lookup x.1=some .local∨(fd.scope.names.lookup x.1=some .cell∧((cellsFrom (s.heap.objs.size+1) fd.scope.names []).lookup x.1).isSome=true):=fun x hx=>by
  have:x.1∈ps.map Prod.fst:=by refine ZB zY ?_;exact cA hx
  refine wS (ao.mp this) fun p hp e=>?_;rcases kinds p (iX _ hp)with⟨_,h⟩|⟨_,h⟩
  ·exact .inl (e▸h)
  ·refine .inr ⟨e▸h,?_⟩;refine aP (qR (L:=s.heap.objs.size+1) (e▸h)) fun a ha=>?_;refine U ha ?_;rfl
 refine h_ (Pu eY.kind kd fun V he s' zk hup=>?_);subst he;have x:=zk.to;have htk:=hup.toks;refine⟨(eY.lim.keeps top).keeps x.toInCall.keep,codeAny_func ?_⟩;have Fl:s.heap.get? s.heap.objs.size=none:=uC (aI _);have Aw:∀{a:Addr},s.heap.objs.size≤a→Z a=none:=gR sub;have vj:∀{a:Addr},s.heap.objs.size≤a→c.H0.get? a=none:=mY top;have mN:∀{a:Addr},s.heap.objs.size≤a→Y a=none:=fun{a} h=>by
  rcases q:Y a with _|cl
  ·rfl
  ·refine Op (mo a cl q) fun Z3 _=>?_;obtain⟨o',e',_⟩:=Z3;exact absurd (cJ e') (eL.mpr h)
 have Jw:∀{a:Addr} {o':Obj},(if(Y a).isSome then none else s.heap.get? a)=some o'→Y a=none∧s.heap.get? a=some o':=fun{a o'} e=>by
  rcases q:Y a with _|cl
  ·rw[q]at e;exact⟨rfl,e⟩
  ·rw[q]at e;cases e
 have qW:s.heap.objs.size<s'.heap.objs.size:=x.toInCall.ns.lt;have HT:c.H0.StaysIn s'.heap:=fun b o' e=>x.toInCall.keep b o' (top b o' e);have Aj:Sub Z s'.heap:=fun b o' e=>⟨x.toInCall.keep b o' (sub.get e),(sub b o' e).2⟩;have w:bx (c.at s.heap.objs.size) (fun a=>if(Y a).isSome then none else s.heap.get? a) Z s'.heap (newEnv fd.scope s.heap.objs.size mainGlobals (cellsFrom (s.heap.objs.size+1) fd.scope.names []) (fd.qualname++".<locals>.") (some f) fd.code none builtinsNs) (vars ps ds ls gs) Y:=by
  have qC:∀v∈vars ps ds ls gs,(v.kind= .loc∧fd.scope.names.lookup v.name=some .local)∨(v.kind= .aM∧fd.scope.names.lookup v.name=some .cell)∨(v.kind= .bz∧fd.scope.names.lookup v.name=some .globalImplicit):=fun v s5=>by
   obtain s5|s5:=b_.mp s5
   ·refine wS (ao.mp s5) fun q Ch s4=>?_;subst s4;have:=BI (a:=q.1) (b:=q.2) Ch;rcases kinds q.1 (iX _ this.1)with h|h
    ·exact .inl h
    ·exact .inr (.inl h)
   ·obtain s5|s5:=b_.mp s5
    ·refine wS (ao.mp s5) fun q Ch s4=>?_;subst s4;rcases kinds q (m5 _ Ch)with h|h
     ·exact .inl h
     ·exact .inr (.inl h)
    ·refine wS (ao.mp s5) fun q Ch s4=>?_;subst s4;exact .inr (.inr ⟨rfl,(gl q Ch).1⟩)
  refine⟨⟨eY.kind,HT,Aj,fun v s5 cz hd'=>?_,fun a cl e=>?_,⟨⟨mN (aI _),qW⟩,fun n a e=>⟨mN (fN (x.above _ _ (mem_of_lookup e))),Iq (x.cell _ a e)⟩⟩,rfl,rfl,eY.low,fun L e=>e⟩,fun a o' e=>⟨o',x.toInCall.keep a o' (Jw e).2,.refl _⟩,?_,⟨_,x.toInCall.ns⟩,⟨?_,Aw (aI _),vj (aI _)⟩,fun v s5 hk=>?_,fun v s5 hk=>?_,fun v s5 v' g8 hk hk' bg=>?_,fun v s5 hk=>?_,fun a ha=>?_⟩
  ·obtain s5|s5:=b_.mp s5
   ·refine wS (ao.mp s5) fun acJ Ch Wq=>?_;obtain⟨q,YD⟩:=acJ;subst Wq;obtain rfl:=bh hd';refine wS (L7 bf Ch) fun v hz FS=>?_;have hin:(q.1,v)∈(ps.map Prod.fst).zip H:=by
     have:∀(l:List (Str×cZ)) (H:List Value),(q,v)∈l.zip H→(q.1,v)∈(l.map Prod.fst).zip H:=fun l=>by
      induction l with
      |nil=>intro H h;simp at h
      |cons y l ih=>
       intro H h;obtain _|⟨z,H⟩:=H
       ·simp at h
       ·rw[p6]at h;refine U aK (U p6 ?_);obtain e|h:=a_.mp h
        ·cases e;exact .head _
        ·exact .tail _ (ih H h)
     exact this ps H hz
    refine⟨v,FS,?_⟩;rcases kinds q (iX _ (BI Ch).1)with⟨hk,h⟩|⟨hk,h⟩
    ·show jY _ _ _ _ _ q.2;exact U hk ⟨h,_,x.toInCall.ns,Oh bn hin h⟩
    ·show jY _ _ _ _ _ q.2;refine U hk ?_;refine aP (qR (L:=s.heap.objs.size+1) h) fun a ha=>?_;refine⟨h,a,ha,?_⟩;have:=x.cell q.1 a ha;rw[MP bn hin (by show fd.scope.names.lookup q.1≠_;refine U h ?_;simp)]at this;exact this
   ·obtain s5|s5:=b_.mp s5
    ·refine wS (ao.mp s5) fun q Ch s4=>?_;subst s4;cases hd'
    ·refine wS (ao.mp s5) fun q Ch s4=>?_;subst s4;obtain rfl:=bh hd';exact B6 _ (.val _) ((gl q Ch).1) rfl rfl ((gl q Ch).2)
  ·refine Op (mo a cl e) fun afS hr=>?_;obtain⟨o',e',hc⟩:=afS;exact⟨⟨o',x.toInCall.keep _ _ e',hc.to⟩,hr⟩
  ·have e:(vars ps ds ls gs).map (fun x=>x.name)=(ps++ls).map Prod.fst++gs.map Prod.fst:=by
    have h1:∀(ps:List (Str×cZ)) (ds:List D),ds.length=ps.length→(((ps.zip ds).map (fun x=>(⟨x.1.1,x.1.2,some x.2⟩:iF))).map (fun x=>x.name))=ps.map Prod.fst:=fun l=>by
     induction l with
     |nil=>intro ds _;rfl
     |cons y l ih=>
      intro ds h;obtain _|⟨z,ds⟩:=ds
      ·simp at h
      ·simp only[p6,aK];exact ZB (ih ds (by simpa using h)) rfl
    rw[vars,gK,h1 ps ds dI,gK,cO,cO,gK,j6];rfl
   exact U e nd
  ·show(if _ then none else s.heap.get? s.heap.objs.size)=none;refine U Fl ?_;split<;>rfl
  ·rcases qC v s5 with⟨_,h⟩|⟨h,_⟩|⟨h,_⟩
   ·exact h
   ·rw[hk]at h;cases h
   ·rw[hk]at h;cases h
  ·rcases qC v s5 with⟨h,_⟩|⟨_,h⟩|⟨h,_⟩
   ·rw[hk]at h;cases h
   ·refine aP (qR (L:=s.heap.objs.size+1) h) fun a ha=>?_;have ab:s.heap.objs.size<a:=x.above _ _ (mem_of_lookup ha);exact⟨h,a,_,ha,x.cell _ a ha,by show(if _ then none else s.heap.get? a)=none;refine U (uC (fN ab)) ?_;split<;>rfl,Aw (fN ab),vj (fN ab),iE ab⟩
   ·rw[hk]at h;cases h
  ·rcases qC v s5 with⟨h,_⟩|⟨_,h⟩|⟨h,_⟩
   ·rw[hk]at h;cases h
   ·refine aP (qR (L:=s.heap.objs.size+1) h) fun a ha=>?_;intro e;exact bg (CX x.apart (mem_of_lookup ha) (mem_of_lookup (e▸ha)))
   ·rw[hk]at h;cases h
  ·rcases qC v s5 with⟨h,_⟩|⟨h,_⟩|⟨h,_⟩<;>(rw[hk]at h;cases h)
  ·rcases q:Y a with _|cl
   ·exact absurd q ha
   ·rfl
 have ok':Ok (c.at s.heap.objs.size) k (A.deeper (newEnv fd.scope s.heap.objs.size mainGlobals (cellsFrom (s.heap.objs.size+1) fd.scope.names []) (fd.qualname++".<locals>.") (some f) fd.code none builtinsNs)) s':=by
  refine d9 (ok.frames) fun l hl hf ku J=>?_;refine⟨?_,?_,⟨newEnv fd.scope s.heap.objs.size mainGlobals (cellsFrom (s.heap.objs.size+1) fd.scope.names []) (fd.qualname++".<locals>.") (some f) fd.code none builtinsNs::l,?_,⟨?_,?_,?_⟩,fun b hb=>?_,fun L e=>⟨_,_,rfl,e⟩⟩,fU ok.tok htk,ok.hand⟩
  ·show A.depth+1+k<900;have:=ok.depth;exact oZ ‹_›
  ·show A.units+3+60*k<9000;have:=ok.units;exact C7 ‹_› (by decide)
  ·show A.frames.map _=_;refine U hl ?_;rfl
  ·show fd.scope.kind≠ .module;refine U eY.kind ?_;simp
  ·refine dW (x.toInCall.ns) fun o' es ep h1 h2 J=>?_;exact ju _ o' rfl (vj (aI _)) h1 (fun H=>by refine U h2 ?_;simp)
  ·exact hf.of_keeps fun b o' e J=>⟨o',x.toInCall.keep b o' e,rfl⟩
  ·refine bD hb ?_ fun hb=>?_
   ·refine wS (zk.fr) fun bU e1 g4=>?_;refine dW (x.toInCall.ns) fun o' es ep h1 h2 J=>?_;rw[h1]at e1;obtain rfl:=bh e1;exact gg _ h1 ⟨es,ep,h2⟩ g4
   ·refine wS (ku b hb) fun o' e' i=>?_;exact⟨o',x.toInCall.keep b o' e',i⟩
 refine bO _ _ s' _ Z rfl ok' w fun Bf gA s'' eU run jO=>?_;have aq:aO c Y s Z gA s'' eU:=by
  refine⟨Ev (fN qW) run.af.size,fun a o' ha e=>jO.keep a o' (by show(if _ then none else s.heap.get? a)=_;refine U ha ?_;exact e),fun b o' e h=>run.af.frames b o' (x.toInCall.keep b o' e) h,jO.rd.top,run.le,fun a o' e=>?_,jO.rd.sub,fun a h=>?_,fun a cl e=>let⟨⟨o,xz,hc⟩,r⟩:=jO.rd.cells a cl e;⟨⟨o,xz,hc.off⟩,r⟩,Ev htk run.af.tok,?_⟩
  ·obtain e|e|e:=run.ext a o' e
   ·exact .inl e
   ·exact .inr (.inl e)
   ·exact .inr (.inr (Ev (fN qW) e))
  ·obtain e|e:=run.jz a h
   ·exact .inl e
   ·exact .inr (Ev (fN qW) e)
  ·refine fL (x.toInCall.same) fun h1 t1 s4=>?_;subst s4;refine fL (run.af.rest) fun h2 fM s4=>?_;subst s4;exact⟨_,_,rfl⟩
 exact o9.trans aq
noncomputable def q_ (c:ah) (k:Nat) (f:Value) (ds:List D) (Y:B) (cls:Value) (aX:B→Prop):Prop:=
 ∀(A:Around) (s:Shared) (Z:TW) (H:List Value),Ok c k A s→c.H0.StaysIn s.heap→Sub Z s.heap→au Z H ds→gy c Z s.heap Y→∀(R:Result→Shared→Prop),
  (∀x ts I s' Z',aO c Y s Z I s' Z'→pP I x ts cls→aX (I.del (x::ts))→R (.error (.ref x)) s')→codeAny c.M A (.call f ⟨H,[]⟩) R s
theorem q_.pm (h:q_ c k f ds Y cls aX):EV c k f ds Y cls aX:=
 fun A s Z H ok top sub bf mo Q E g=>oM (h A s Z H ok top sub bf mo _ g)
theorem q_.def (eY:Ez c f fd body)
 (m9:lX c fd ps ds₀ ds) (dI:ds.length=ps.length)
 (kinds:∀x∈ps++ls,(x.2= .loc∧fd.scope.names.lookup x.1=some .local)∨(x.2= .aM∧fd.scope.names.lookup x.1=some .cell))
 (gl:∀x∈gs,fd.scope.names.lookup x.1=some .globalImplicit∧gB c.H0 x.1 x.2)
 (nd:((ps++ls).map Prod.fst++gs.map Prod.fst).Nodup)
 (ow:∀L,kh (c.at L) k (vars ps ds ls gs) Y body cls fun J I=>aX I):q_ c (k+1) (.ref f) ds₀ Y cls aX:=by
 intro A s Z H ok top sub bf mo R g;refine Zl eY m9 dI kinds gl nd ok top sub bf mo fun L V s' bs Z' hf ok' w glue=>?_;refine ow L (A.deeper V) V s' bs Z' ok' w _ _ fun x ts NE I s'' eU run jO ex hp=>?_;unfold leaving;refine u8 (M6 (c:=c.at L) rfl hf (ok'.af run.af) jO.rd.top jO.rd.sub jO.rd.cells ex fun ki T s₂ aq DU Jk=>?_);refine g x [T] ki s₂ eU ?_ DU (by refine U Jk ?_;exact hp);exact glue NE ki s₂ eU (run.trans aq.run) (jO.after aq)
theorem q_.fn {c:ah} {k:Nat} {f:Addr} {st:Stmt} {qual:Str} {dV:Value} {ps ls:List (Str×cZ)} {gs:List (Str×Value)} {ds₀ ds:List D} {Y:B} {cls:Value} {aX:B→Prop} (h:FnAt c f st qual dV) (ok:vN (sr st) ps ls (gs.map Prod.fst)=true)
 (gl:∀x∈gs,gB c.H0 x.1 x.2) (dI:ds.length=ps.length) (m9:∀pm cd,lX c (d_ st qual dV pm cd) ps ds₀ ds)
 (ow:∀L,kh (c.at L) k (vars ps ds ls gs) Y (gM st) cls fun J I=>aX I):q_ c (k+1) (.ref f) ds₀ Y cls aX:=by
 unfold vN at ok;simp only[kW,j8,sV,o5,lR,Bo]at ok;refine Op ok fun aH h6=>?_;refine Op aH fun aH h5=>?_;refine Op aH fun XK h4=>?_;obtain⟨⟨h1,h2⟩,h3⟩:=XK;refine fL (h.def h4 h5 h6) fun pm cd eY=>?_;exact q_.def eY (m9 pm cd) dI h1 (fun x hx=>⟨h2 x.1 (cA hx),gl x hx⟩) h3 ow
section
open PySem.W
noncomputable abbrev C6:Obj:=excClassObj "CycleError" "CycleError" 55 54 [.type "ValueError"] [.type "ValueError",.type "Exception",.type "BaseException",.type "object"] true [] [] false none none (some (.ref 46)) none (some (.str "CycleError" 239)) (some (.str "CycleError" 247)) (some (.bool true)) "ValueError.__new__"
theorem Lx (t:aV c):c.H0.get? 55=some C6:=t.K 55 _ (by rfl)
theorem X3 (t:aV c):∃m,c.H0.Ns 54 m∧m "__init__" =none:=by
 refine⟨_,.of_isNs (FP t.K (by kernel_rfl)),K4 t.K (by kernel_rfl) (by kernel_rfl)⟩
structure zz (h h':Heap) (e:Addr):Prop where
 size:h.objs.size≤h'.objs.size
 keeps:∀b o,h.get? b=some o→h'.get? b=some o
 new:h.objs.size≤e
 there:∃t,h'.get? e=some {cls:=.ref 55,data:=.fields #[.ref t,.none,.none,.none,.bool false,.none]}
section
variable {prog:Program} {w:World} {A:Around} {E:Value→Shared→Prop} {h:Heap} {g:Array GenState} {d:Drawn} {t:Nat} {os:OsState} {mN:Str→Option Value} {rest:List Value}
theorem aeS (jw:h.get? 55=some C6) (M2:h.Ns 54 mN) (yi:mN "__init__" =none)
 (Ch:∀h' e,zz h h' e→Q (.done (.ret (.ref e))) ⟨h',g,d,t,os⟩) (As:rest.length≤sizeLine):
 wpAny (model prog w) A (Builtin.«type.__call__» ⟨.ref 55::rest,[]⟩) Q E ⟨h,g,d,t,os⟩:=by
 have F:=Ls
 repeat(first|with_reducible refine Ga jw ?_|with_reducible refine wpAny_madeBy_exc jw ?_|wp_step)
 refine codeAny_call_builtin_code (GW _ F.quiet) (wpAny_check_new_sub F jw ?_);refine codeAny_exc_new_sub F jw ?_ As;show wpAny _ _ _ _ _ _;have J4:=bY {cls:=.ref 55,data:=.fields #[.ref h.objs.size,.none,.none,.none,.bool false,.none]}
  (bY {cls:=.type "tuple",data:=.seq rest.toArray} jw)
 have Xl:((h.push {cls:=.type "tuple",data:=.seq rest.toArray}).push {cls:=.ref 55,data:=.fields #[.ref h.objs.size,.none,.none,.none,.bool false,.none]}).Ns 54 mN:=
  Bp M2 fun o es ep e r=>⟨o,es,ep,bY _ (bY _ e),r⟩
 have jG:((h.push {cls:=.type "tuple",data:=.seq rest.toArray}).push
  {cls:=.ref 55,data:=.fields #[.ref h.objs.size,.none,.none,.none,.bool false,.none]}).get? (h.objs.size+1)=some
  {cls:=.ref 55,data:=.fields #[.ref h.objs.size,.none,.none,.none,.bool false,.none]}:=by heap_get
 have aa0:(Value.ref 55::[.type "ValueError",.type "Exception",.type "BaseException",.type "object"]).contains (.ref 55)=true:=by simp
 unfold isInstance
 repeat(first|with_reducible refine Ga jG ?_|(with_reducible refine wpAny_isSubtype_exc J4 ?_;refine U aa0 ?_)|wp_step)
 show wpAny _ _ (typeLookup (.ref 55) _) _ _ _;refine wpAny_typeLookup_exc J4 Xl F.mroIs F.init.lookup ?_;refine U yi ?_;refine b4 (u8 (qw (F.init.bind _) ?_));refine u8 (oM (zg F.init.plain F.initEntry (wpAny_check_init_sub F J4 jG rfl ?_)));wp_walk;refine Ch _ _ ⟨?_,fun b o hb=>?_,b9 _,h.objs.size+2,?_⟩
 ·simp only[zN,eX];lia
 ·rw[rE _ _ (iE (vR (cJ hb)))];exact bY _ (bY _ (bY _ hb))
 ·rw[kZ _ (bY _ jG) rfl];simp only[eX];rfl
theorem abv (jw:h.get? 55=some C6) (M2:h.Ns 54 mN) (yi:mN "__init__" =none)
 (Ch:∀h' e,zz h h' e→Q (.ref e) ⟨h',g,d,t,os⟩) (As:rest.length≤sizeLine):wpAny (model prog w) A (call (.ref 55) rest) Q E ⟨h,g,d,t,os⟩:=by
 have f1:=tc_lookup;have f2:=tc_bind (.ref 55);have hT:(⟨h,g,d,t,os⟩:Shared).TypeIs (.ref 55) "type" :=⟨_,jw,rfl⟩;refine oM (Gx ?_);show wpAny _ _ (callAny (.ref 55) _) _ _ _
 repeat(any_goals (first|assumption|with_reducible refine Ga jw ?_|wp_step))
 refine⟨rfl,?_⟩;exact codeAny_call_builtin_at (GW _ (by decide+kernel)) entry_typeCall (wpAny_check_type_call_sub jw (aeS jw M2 yi Ch As))
end
section
variable {c:ah} {k:Nat} {O:XV} {Y:B} {aX:XV→B→Prop}
theorem zz.after (x:zz s.heap h' e) (top:c.H0.StaysIn s.heap) (sub:Sub Z s.heap) (mo:gy c Z s.heap Y):∃o,o.cls= .ref 55∧(∃t,o.data= .fields #[.ref t,.none,.none,.none,.bool false,.none])∧aO c Y s Z (Y.put e (some (.raw o))) {s with heap:=h'} Z:=by
 refine aP (x.there) fun t FS=>?_;have st:aD c s Z {s with heap:=h'} Z:=⟨⟨x.size,fun a o e=>⟨o,x.keeps a o e,.refl _⟩⟩,fun a o e=>x.keeps a o (top a o e),.refl ..,fun a o e=>⟨x.keeps a o (sub.get e),(sub a o e).2⟩,aI _,⟨_,_,rfl⟩⟩;have aq:=st.pR mo;refine gg ({cls:=.ref 55,data:=.fields #[.ref t,.none,.none,.none,.bool false,.none]}) rfl ⟨t,rfl⟩ ⟨aq.size,aq.keep,aq.fields,aq.top,aq.le,aq.ext,aq.sub,fun a ha=>?_,fun a cl i9=>?_,aq.tok,aq.rest⟩
 ·by_cases q:a=e
  ·subst q;exact .inr x.new
  ·rw[B.aa _ _ q]at ha;exact .inl ha
 ·by_cases q:a=e
  ·subst q;rw[B.ai]at i9;obtain rfl:=bh i9;exact⟨⟨_,FS,rfl,by simp⟩,gR sub x.new,mY top x.new⟩
  ·rw[B.aa _ _ q]at i9;exact aq.cells a cl i9
theorem mT.Z1 (hh:c.hd=false) (t:aV c) (hf:f8 c k O Y (.Name n np) (.val (.ref 55))) (ha:iA c k O Y args ds) (hz:ds.length≤1000) (Ch:aX O Y)
 (hs:∀V,(starEach args V).all (fun y=>!y.1)=true:=by intro;rfl) (hp:∀V,(backTo aeW (starEach args V)).any Prod.fst=false:=by intro;rfl):mT c k O Y (.Raise (some (.Call (.Name n np) args [] aeW)) none pos) (.ref 55) aX:=by
 intro A V s bs Z ok w Q E g;refine wS (X3 t) fun mN vQ yi=>?_;rw[arm_exec_Raise];refine u8 (gb (wpAny_raiseStmt_made_sub (C:=55) (nm:="CycleError") (q:="CycleError") (N:=54) (bs:=[.type "ValueError"]) (bm:=[.type "ValueError",.type "Exception",.type "BaseException",.type "object"]) (hdct:=true) (sn:=[]) (sub:=[]) (ab:=false) (col:=none) (dd:=none) (k0:=some (.ref 46)) (k1:=none) (k2:=some (.str "CycleError" 239)) (k3:=some (.str "CycleError" 247)) (k5:=some (.bool true)) (newId:="ValueError.__new__") Ls.hasBase (ok.hand hh) ?_));refine u8 (d8 (wpAny_Call_ofName (hf A V s Z ok w.rd _ E fun v s₁ aB EQ s5=>?_)) (fun v aG qu=>u8 (gb (On qu))) fun J J x=>x);refine s5.v ?_;delta callWith;refine u8 (b4 (nQ ha (ok.step EQ) (w.rd.step EQ) hs fun H s₂ bA t₂ bf=>u8 (gb ?_)));have w₂:=(w.step EQ).step t₂;obtain⟨Pd,Ex,d,tk,os⟩:=s₂;have jw:Pd.get? 55=some C6:=w₂.rd.top _ _ (Lx t);have cM:H.length≤sizeLine:=by refine U bf.length (U cV ?_);exact Ev ‹_› (by decide)
 simp only[hp];refine u8 (wpAny_keeperOf_exc jw ?_);refine u8 (abv jw (vQ.keeps w₂.rd.top) yi (fun h' e hm=>u8 (b4 (zv (On ?_)))) cM);refine aU (zz.after (c:=c) (Y:=Y) (Z:=bA) (s:=⟨Pd,Ex,d,tk,os⟩) hm w₂.rd.top w₂.rd.sub w₂.rd.cells) fun o xz aH aq=>?_;refine aP aH fun tt hd=>?_;refine aP (hm.there) fun t' DH=>?_;refine ju e t' rfl (hm.keeps _ _ jw) DH ?_;refine g e [] O _ _ bA (((EQ.trans t₂).run Y).trans aq.run) (w₂.after aq) ⟨o,_,B.ai ..,xz,hd,by simp,.inl ⟨rfl,by simp⟩⟩ ?_;have:(Y.put e (some (.raw o))).del [e]=Y:=by
  funext b;unfold B.del;by_cases q:b=e
  ·subst q;exact U (ak (by simp)) (U (w₂.rd.fresh hm.new) rfl)
  ·exact U (Tk (by simp[q])) (U (B.aa _ _ q) rfl)
 exact U this Ch
theorem WX (t:aV c) (top:c.H0.StaysIn s.heap) (xz:s.heap.get? x=some o) (hc:o.cls= .ref 55) (h:Q true s):wpAny c.M A (excMatches (.ref x) (.ref 55)) Q E s:=by
 obtain⟨hp,g,d,tk,os⟩:=s;exact wpAny_excMatches_sub_self (top _ _ (Lx t)) xz hc (by decide) h
end
end
section
open PySem.W
section
variable {c:ah} {k:Nat} {O:XV} {Y:B}
theorem WE {S:Addr} {y:b3} {st:St} {dK:Nat} {ring:List Str} (t:aV c) (h:bI Y S y st) (hr:st.ready=none) (hz:st.nodes.length≤900) (eT:∀n∈st.nodes,∀x∈n.succ,x∈st.nodes.map (fun x=>x.name)) (hb:iR st.nodes dK (st.nodes.map (fun x=>x.name)) []=some (some ring)):
 EV c (k+2) (.ref 92) [.val (.ref S)] Y (.ref 55) (fun I=>∃R,bI I S (gn y R) (lZ st)∧bJ (y.foot S) Y ((gn y R).foot S) I):=by
 have hrs:y.rs=[]:=by have:=h.gH;rw[hr]at this;exact this
 refine q_.pm (q_.fn (st:=ek 6 3) (qual:="TopologicalSorter.prepare") (dV:=.none) (ps:=[("self",.loc)]) (ls:=[("cycle",.loc)]) (gs:=[("ValueError",.type "ValueError"),("CycleError",.ref 55)]) (t.fn rfl rfl rfl rfl) (by kd_p) (bC (t.dw (by kd_p) (by kd_p) (by decide)) (bC (t.glob (by kd_p)) cI)) rfl (fun J J=>.plain rfl (jg fun J=>rfl)) ?_);intro bP;replace t:=t.at (L:=bP);generalize c.at bP=c at t⊢
 kst_p
 refine kh.cons (FM.ifs (b:=false) ((az.cmp (f8.ga (by kd_p) (cy.gH t h)) (by kd_p) Rs.isNotNone).to (by refine U hrs ?_;rfl)) (fun h=>(by injection h)) fun J=>wE.nil ?_);refine kh.cons (FM.pq (KA t h (by walk_at "v") hz (by kd_p) (fun R bE=>⟨by kd_p,_,gS.attr (C:=137) (dx:=y.iu) (l:=[]) (al:=g_ y st) t ((B.aa _ _ (by rintro rfl;rw[h.inst]at bE;injection bE)).trans h.inst) ((B.aa _ _ (by rintro rfl;rw[h.attrs]at bE;injection bE)).trans h.attrs) (sL ..) (se ..) (rO (DW ..)) (kP ..) (by simp[g_]),?_⟩) (by rfl)));have h2:=h.Ku hrs bE (k6 st.nodes);have kX:bJ (y.foot S) Y ((gn y R).foot S) ((Y.put R (some (.list (ww (k6 st.nodes))))).put y.iu (some (.attrs (g_ (gn y R) (lZ st))))):=by
  refine(bJ.fresh (F:=y.foot S) (F':=(gn y R).foot S) bE (fun b hb=>?_) _).trans (bJ.put ((gn y R).yX S) _);unfold b3.foot at hb⊢;simp only[hrs,oA,a_,nY]at hb⊢;obtain h|h|h|h|h:=hb
  ·exact .inl (.inl h)
  ·exact .inl (.inr (.inl h))
  ·exact .inl (.inr (.inr (.inl h)))
  ·exact .inr h
  ·exact .inl (.inr (.inr (.inr h)))
 have i9:iG (g_ y st) "_ready_nodes" (.val (.ref R))=g_ (gn y R) (lZ st):=rfl;refine U i9 ?_;generalize(Y.put R (some (.list (ww (k6 st.nodes))))).put y.iu (some (.attrs (g_ (gn y R) (lZ st))))=ki at h2 kX⊢;refine kh.cons (FM.iT (aF.pe t (by kd_p) h2.inst h2.attrs (by rfl) (jC ..) (GR ..) (Hh ..) (fX (st:=ek 6 8) (t.fn rfl rfl rfl rfl)) .nil (di.mono (cD.r ((Ff (k:=k) t h2 hz eT hb).less (aI _))) ?_)));intro d kY Go;obtain⟨rfl,hl,dM⟩:=Go;obtain⟨hl,cM⟩:=hl ring rfl;refine⟨_,by kd_in,?_⟩;dsimp only[nK];have C0:(ww ring).length≤1000000:=by simp[ww];exact Ev ‹_› (by decide)
 refine kh.here (mT.ifs (b:=true) ((az.plain (d:=.list (ww ring)) (by kd_p) (dB.list C0)).to (by induction ring with|nil=>exact absurd rfl hl|cons _ _=>rfl)) (fun J=>kh.here (mT.Z1 (ds:=[.str "nodes are in a cycle",.list (ww ring)]) t.hd t (by kd_p) (.cons (f8.Vu (by kd_p)) (.cons (by kd_p) .nil (by kd_p)) (by kd_p)) (by simp) ?_)) (fun h=>(by injection h)));exact⟨R,h2.keep dM,kX.trans (bJ.keep dM)⟩
theorem YB {S:Addr} {y:b3} {st:St} {dK:Nat} {ring:List Str} (t:aV c) (h:bI Y S y st) (hr:st.ready=none) (hz:st.nodes.length≤900) (eT:∀n∈st.nodes,∀x∈n.succ,x∈st.nodes.map (fun x=>x.name)) (hb:iR st.nodes dK (st.nodes.map (fun x=>x.name)) []=some none):
 cD c (k+3) (.ref 295) [.val (.ref S)] Y (fun d I=>d= .val .none∧∃R,bI I S (gn y R) (lZ st)∧bJ (y.foot S) Y ((gn y R).foot S) I):=by
 refine cD.fn (st:=bH 31) (qual:="_law_prepared") (dV:=.none) (ps:=[("sorter",.loc)]) (ls:=[]) (gs:=[("CycleError",.ref 55)]) (t.fn rfl rfl rfl rfl) (by kd_p) (bC (t.glob (by kd_p)) cI) rfl (fun J J=>.plain rfl (jg fun J=>rfl)) ?_;intro bP;replace t:=t.at (L:=bP);generalize c.at bP=c at t⊢
 kst_p
 refine wE.cons (FM.A1 (wE.cons (FM.Hv (aF.pe t (by kd_p) h.inst h.attrs (by rfl) (jC ..) (Mg ..) (Mh ..) (fX (st:=ek 6 3) (t.fn rfl rfl rfl rfl)) .nil (di.mono (cD.r (U8 (k:=k) t h hr hz eT hb)) fun d I hp=>?_)))));exact hp
theorem adG {S:Addr} {y:b3} {st:St} {dK:Nat} {ring:List Str} (t:aV c) (h:bI Y S y st) (hr:st.ready=none) (hz:st.nodes.length≤900) (eT:∀n∈st.nodes,∀x∈n.succ,x∈st.nodes.map (fun x=>x.name)) (hb:iR st.nodes dK (st.nodes.map (fun x=>x.name)) []=some (some ring)):
 cD c (k+3) (.ref 295) [.val (.ref S)] Y (fun d I=>d= .str "ring"∧∃R,bI I S (gn y R) (lZ st)∧bJ (y.foot S) Y ((gn y R).foot S) I):=by
 refine cD.fn (st:=bH 31) (qual:="_law_prepared") (dV:=.none) (ps:=[("sorter",.loc)]) (ls:=[]) (gs:=[("CycleError",.ref 55)]) (t.fn rfl rfl rfl rfl) (by kd_p) (bC (t.glob (by kd_p)) cI) rfl (fun J J=>.plain rfl (jg fun J=>rfl)) ?_;intro bP;have ku:(c.at bP).fr≠none:=by simp
 replace t:=t.at (L:=bP);generalize c.at bP=c at t ku⊢
 kst_p
 refine wE.cons (FM.R4 (cls:=.ref 55) (tv:=.ref 55) (aX:=fun NE I=>NE=[⟨"sorter",.loc,some (.val (.ref S))⟩,⟨"CycleError",.bz,some (.val (.ref 55))⟩]∧∃R,bI I S (gn y R) (lZ st)∧bJ (y.foot S) Y ((gn y R).foot S) I) ku (kh.here (mT.ret (rH.pe t (by kd_p) h.inst h.attrs (by rfl) (jC ..) (Mg ..) (Mh ..) (fX (st:=ek 6 3) (t.fn rfl rfl rfl rfl)) .nil (fun A s Z H ok top sub bf mo Q E q=>WE (k:=k) t h hr hz eT hb A s Z H ok top sub bf mo Q E fun x ts I s' Z' aq ex hp=>q x ts I s' Z' aq ex ⟨rfl,hp⟩)))) (WX t) ?_);intro _ I Go;obtain⟨rfl,hp⟩:=Go;exact⟨by kd_p,wE.cons (FM.ret (d:=.str "ring") (by kd_p) ⟨rfl,hp⟩)⟩
end
end
section
open PySem.W
section
variable {c:ah} {k:Nat} {O:XV} {Y:B} {Sc:D→B→Prop}
end
theorem aaw {c:ah} {A:Around} {E:Value→Shared→Prop} {s:Shared} {q f x:Addr} {pos:Pos} {args:List (Bool×Sem Value)} {Q:Value→Shared→Prop} (hst:args.any Prod.fst=true)
 (h:wpAny c.M A (evalArgs (.ref q) true args []) (fun a s₁=>s₁.heap.get? q=some (methodObj (.ref f) (.ref x))∧(∃o fd,s₁.heap.get? f=some o∧o.data= .func fd)∧a.kw=[]∧codeAny c.M A (.call (.ref f) ⟨.ref x::a.pos,[]⟩) (fun r s'=>match r with| .ok (.ret v)=>Q v s'| .ok _=>False| .error e=>E e s') s₁) E s):
 wpAny c.M A (callWith pos (.ref q) [] args []) Q E s:=by
 unfold callWith;refine u8 (b4 (d8 h (fun a s₁ h₁=>u8 (gb ?_)) fun J J x=>x));refine mz h₁ fun Ch aH ae6 hc=>?_;refine eO aH fun o fd hf hd=>?_;have tail:∀{t:Sem Value},wpAny c.M A t Q E s₁→wpAny c.M A (t>>=fun r=>holding [r] point>>=fun J=>pure r) Q E s₁:=
  fun FS=>u8 (d8 FS (fun r s₂ hr=>u8 (b4 (zv (On hr)))) fun J J x=>x)
 have op:∀H (t:Sem Value),wpAny c.M A t Q E s₁→wpAny c.M A (operate H t) Q E s₁:=fun H t FS Γ p uu=>by rw[Sem.wp_operate];exact FS Γ p uu
 refine u8 (m:=keeperOf (.ref q)) ?_;unfold keeperOf;refine u8 (lK Ch ?_);dsimp only;refine U (Tk (by decide)) ?_;refine u8 (lK hf ?_);refine U hd ?_;refine On ?_;simp only[hst,Bool.true_or];refine tail (op _ _ ?_);obtain⟨ap,afV⟩:=a;obtain rfl:afV=[]:=ae6;exact oM (ks_codeAny_call_bound Ch hc)
section
variable {c:ah} {k:Nat} {O:XV} {Y:B} {Sc:D→B→Prop}
theorem aF.Nh (t:aV c) (xz:f8 c k O Y o (.val (.ref a))) (ha:Y a=some (.inst C dx l)) (hd:Y dx=some (.attrs al)) (s5:cN al name=Option.none)
 (hg:plainGet (c8 c) C name=true) (hf:findIn (c8 c) (.ref C) name=some (some (.ref f))) (FS:typeIn (c8 c) (.ref f)=some (.type "function")) (af1:hasDictIn (c8 c) C=true) (Wd:specialIn (c8 c) (.ref f) "__get__" =some (some (.builtin "function.__get__"))) (htk:takesIn (c8 c) (.ref f)=some false) (Sl:copiedNames.contains name=false)
 (abc:∃o fd,c.H0.get? f=some o∧o.data= .func fd)
 (yO:∀A V s Z v,Ok c k A s→bB c Z s.heap V O Y→∀(Q:Args→Shared→Prop) (E),
  (∀ds H s' Z',aD c s Z s' Z'→au Z' H ds→eS c k (.ref f) (.val (.ref a)::ds) Y Sc→Q ⟨H,[]⟩ s')→wpAny c.M A (evalArgs v true (backTo pos (starEach args V)) []) Q E s)
 (he:∀V,eval (.Call (.Attribute o name c9) args [] pos) V=(do
  let iJ←eval o V
  standAt c9.atName
  let(f,first)←holding [iJ] (do pure (←getAttr iJ name true,[]))
  let Wm←pure pos
  callWith Wm f first (backTo pos (starEach args V)) (backToKw pos (keywordEach [] V))):=by intro;rfl)
 (hst:∀V,(backTo pos (starEach args V)).any Prod.fst=true:=by intro;rfl):aF c k O Y (.Call (.Attribute o name c9) args [] pos) Sc:=by
 intro A V s Z ok r Q E q;rw[he];refine u8 (xz A V s Z ok r _ E fun v s₁ aB EQ g8=>u8 (gb ?_));refine g8.v ?_;have r₁:=r.step EQ;refine tD (vv r₁ ha hd) fun bV kvs n im=>?_;refine u8 (b4 (u8 ?_));refine get_bind (t.oE r₁.top) im.at_ (qE hg).1 (findObj_fn af1 hf Wd htk Sl (by show lookIn name _=_;rw[AK,(CH im.keys im.vals name).1 s5])) (qE hg).2 ?_;refine oM (fn_get (s:={s₁ with toks:=s₁.toks+1}) (t.oE r₁.top) FS (handed_on rfl ?_));refine On (u8 (On ?_));have qK:=(aD.push (c:=c) (s:={s₁ with toks:=s₁.toks+1}) (Z:=aB) r₁.top r₁.sub (methodObj (.ref f) (.ref a)) rfl (by simp));have st:aD c s Z _ _:=(EQ.toks (t:=s₁.toks+1) (b9 _)).trans qK;have r₂:=r.step st;show wpAny c.M A (callWith pos (.ref s₁.heap.objs.size) [] (backTo pos (starEach args V)) []) Q E _;refine aaw (f:=f) (x:=a) (hst V) (yO A V _ _ _ (ok.step st) r₂ _ E fun ds H aG eB t₃ bf hc=>?_);have yy:=r₂.step t₃;refine eO abc fun of fd U3 aeB=>?_;exact sJ (t₃.sub.get (t₃.le _ _ (TW.ai ..))) ⟨of,fd,yy.top _ _ U3,aeB⟩ rfl (hc A aG eB (.ref a::H) ((ok.step st).step t₃) yy.top yy.sub (.cons (.val _) bf) yy.cells _ fun d I v s' Z' aq s5 hp=>q d I v s' Z' (((st.trans t₃).after r).trans aq) s5 hp)
theorem iA.star (he:f8 c k O Y e d) (hs:aL c O Y d l) (hb:l.length≤1000000):iA c k O Y [.Starred e p] l:=by
 intro A V s Z pos ok x Q E q;refine items_star (he A V s Z ok x _ E fun v s₁ aB EQ s5=>GC hs hb (x.step EQ) s5 fun H s₂ t₂ bf=>?_);refine wN ?_;rw[fV];exact q H s₂ aB (EQ.trans t₂) bf
theorem So (hx:f8 c k O Y x d) (he:f8 c k O Y e cz) (hs:aL c O Y cz l) (hb:l.length≤1000000) (hc:eS c k (.ref f) (.val (.ref a)::d::l) Y Sc)
 (hst:∀V,starEach (x::[.Starred e p]) V=(false,eval x V)::starEach [.Starred e p] V:=by intro;rfl):
 ∀A V s Z v,Ok c k A s→bB c Z s.heap V O Y→∀(Q:Args→Shared→Prop) (E),
  (∀ds H s' Z',aD c s Z s' Z'→au Z' H ds→eS c k (.ref f) (.val (.ref a)::ds) Y Sc→Q ⟨H,[]⟩ s')→wpAny c.M A (evalArgs v true (backTo pos (starEach [x,.Starred e p] V)) []) Q E s:=by
 intro A V s Z v ok r Q E q;have key:=(iA.cons hx (iA.star (p:=p) he hs hb) hst) A V s Z pos ok r (fun H s'=>Q ⟨H,[]⟩ s') E fun H s' Z' t s5=>q _ H s' Z' t s5 hc;rw[hst]at key⊢;exact yN key
theorem Uh (he:f8 c k O Y e cz) (hs:aL c O Y cz l) (hb:l.length≤1000000) (hc:eS c k (.ref f) (.val (.ref a)::l) Y Sc):
 ∀A V s Z v,Ok c k A s→bB c Z s.heap V O Y→∀(Q:Args→Shared→Prop) (E),
  (∀ds H s' Z',aD c s Z s' Z'→au Z' H ds→eS c k (.ref f) (.val (.ref a)::ds) Y Sc→Q ⟨H,[]⟩ s')→wpAny c.M A (evalArgs v true (backTo pos (starEach [.Starred e p] V)) []) Q E s:=by
 intro A V s Z v ok r Q E q;exact ks_lone (he A V s Z ok r _ E fun v s₁ aB EQ s5=>GC hs hb (r.step EQ) s5 fun H s₂ t₂ bf=>q _ H s₂ aB (EQ.trans t₂) bf hc)
theorem eS.mono (h:eS c k f ds Y Sc) (q:∀d I,Sc d I→aX d I):eS c k f ds Y aX:=fun A s Z H ok top sub bf mo R g=>h A s Z H ok top sub bf mo R fun d I v s' Z' aq s5 hp=>g d I v s' Z' aq s5 (q d I hp)
end
end
section
noncomputable def Qa:Value→PyData
 | .none=>.none
 | .bool b=>.bool b
 |_=>.none
mutual
noncomputable def pd:D→PyData
 | .val v=>Qa v
 | .int i=>.int i
 | .str s=>.str s
 | .list l=>.list (fR l)
 | .tup l=>.tuple (fR l)
noncomputable def fR:List D→List PyData
 |[]=>[]
 |d::l=>pd d::fR l
end
theorem JN (d l):fR (d::l)=pd d::fR l:=rfl
theorem DS:fR []=[]:=rfl
theorem acN (v):pd (.val v)=Qa v:=rfl
theorem agy (i):pd (.int i)= .int i:=rfl
theorem EA (s):pd (.str s)= .str s:=rfl
theorem wz (l):pd (.list l)= .list (fR l):=rfl
theorem LM (l):pd (.tup l)= .tuple (fR l):=rfl
noncomputable def Gd:Value→Bool
 | .none=>true
 | .bool _=>true
 |_=>false
mutual
noncomputable def jR:D→Bool
 | .val v=>Gd v
 | .int _=>true
 | .str _=>true
 | .list l=>iH l
 | .tup l=>iH l
noncomputable def iH:List D→Bool
 |[]=>true
 |d::l=>jR d&&iH l
end
theorem B9 (d l):iH (d::l)=(jR d&&iH l):=rfl
theorem R2:iH []=true:=rfl
theorem abP (s):jR (.str s)=true:=rfl
theorem DP (l):jR (.list l)=iH l:=rfl
theorem La (l):jR (.tup l)=iH l:=rfl
theorem aaX (v):jR (.val v)=Gd v:=rfl
theorem X0:∀l:List D,fR l=l.map pd:=fun k7=>by
 induction k7 with
 |nil=>exact by refine U DS ?_;rfl
 |cons d l mq=>exact by rw[JN,(mq)];rfl
theorem zD (x:Sub Z h) (bO:aR Z v d):jR d=true→∃as,Reads h v (pd d) as:=by
 refine aR.rec (motive_1:=fun v d J=>jR d=true→∃as,Reads h v (pd d) as) (motive_2:=fun H ds J=>iH ds=true→∃as,ReadsAll h H (fR ds) as) ?_ ?_ ?_ ?_ ?_ ?_ ?_ bO
 ·intro v hf;rw[aaX]at hf;rw[acN];unfold Gd at hf;split at hf
  ·exact⟨_,.none⟩
  ·exact⟨_,.bool _⟩
  ·injection hf
 ·intro i t _;exact⟨_,.int i t⟩
 ·intro s t _;exact⟨_,.str s t⟩
 ·intro a H n l h1 _ ih hf;rw[DP]at hf;exact(ih hf).elim fun as r=>by rw[wz];exact⟨_,.list (x.get h1) rfl rfl r⟩
 ·intro a H n l h1 _ ih hf;rw[La]at hf;exact(ih hf).elim fun as r=>by rw[LM];exact⟨_,.tuple (x.get h1) rfl rfl r⟩
 ·intro _;exact⟨_,.nil⟩
 ·intro v d H ds _ _ i1 cR hf;rw[B9,kW]at hf;exact(i1 hf.1).elim fun a r=>(cR hf.2).elim fun b r'=>⟨_,.cons r r'⟩
theorem PL (x:Sub Z h) (bO:au Z H ds):iH ds=true→∃as,ReadsAll h H (fR ds) as:=by
 refine bO.ind (P:=fun H ds=>iH ds=true→∃as,ReadsAll h H (fR ds) as) ?_ ?_
 ·intro _;exact⟨_,.nil⟩
 ·intro v d H ds i1 _ cR hf;rw[B9,kW]at hf;exact(zD x i1 hf.1).elim fun a r=>(cR hf.2).elim fun b r'=>⟨_,.cons r r'⟩
section
variable {c:ah} {k:Nat} {O:XV} {Y:B} {Sc:D→B→Prop}
theorem Rs.L1 (h₁:jR d₁=true) (h₂:jR d₂=true) (s₁:PySem.SeqAt.shaped (pd d₁)=true) (s₂:PySem.SeqAt.shaped (pd d₂)=true):Rs c k O Y (compareOp .NotEq) d₁ d₂ (.val (.bool (!PyData.eqv (pd d₁) (pd d₂)))):=by
 intro A V s Z bk bL ok r EQ t₂ Q E g;refine aP (zD r.sub EQ h₁) fun J r₁=>?_;refine aP (zD r.sub t₂ h₂) fun J r₂=>?_;exact PySem.SeqAt.compareNe_shaped r₁ r₂ s₁ s₂ (by have:=ok.units;show A.units+64<9900;exact CF this (by decide)) (kR g r.top r.sub (.val _))
theorem Rs.afk (hs:aL c O Y d l) (hx:jR x=true) (hl:iH l=true) (cT:PySem.SeqAt.shaped (pd x)=true) (bV:PyData.canLayAll0 (fR l)=true):Rs c k O Y (compareOp .In) x d (.val (.bool ((fR l).any fun y=>PyData.eqv y (pd x)))):=by
 intro A V s Z bk bL ok r EQ t₂ Q E g;obtain⟨_,r₁⟩:=zD r.sub EQ hx;refine dW (hs _ V Z bL r t₂) fun a H n s4 hg FS=>?_;subst s4;obtain⟨_,r₂⟩:=PL r.sub FS hl;have hd:=M1 cT;refine PySem.SeqAt.in_list_reads (.list hg rfl rfl r₂) r₁ bV (Fx cT) ?_ (kR g r.top r.sub (.val _));have:=ok.units;show A.units+1+min (PyData.depthAll (fR l)) (pd x).depth<9900;exact LG hd this
theorem Rs.KZ (hs:aL c O Y d l) (hx:jR x=true) (hl:iH l=true) (cT:PySem.SeqAt.shaped (pd x)=true) (bV:PyData.canLayAll0 (fR l)=true):Rs c k O Y (compareOp .NotIn) x d (.val (.bool (!(fR l).any fun y=>PyData.eqv y (pd x)))):=by
 intro A V s Z bk bL ok r EQ t₂ Q E g;obtain⟨_,r₁⟩:=zD r.sub EQ hx;refine dW (hs _ V Z bL r t₂) fun a H n s4 hg FS=>?_;subst s4;obtain⟨_,r₂⟩:=PL r.sub FS hl;have hd:=M1 cT;refine PySem.SeqAt.notIn_list_reads (.list hg rfl rfl r₂) r₁ bV (Fx cT) ?_ (kR g r.top r.sub (.val _));have:=ok.units;show A.units+1+min (PyData.depthAll (fR l)) (pd x).depth<9900;exact LG hd this
end
end
section
open PySem.W
theorem ML (x) (ps) (st) (hm:jT m st.nodes):(fW st x ps).ready=st.ready∧(fW st x ps).nodes.length≤st.nodes.length+1+ps.length∧jT (m+ps.length) (fW st x ps).nodes:=by
 have main:∀(ps:List Str) (s:St) (m:Nat),jT m s.nodes→(ps.foldl (fun s p=>jt (dH s p) p x) s).ready=s.ready∧(ps.foldl (fun s p=>jt (dH s p) p x) s).nodes.length≤s.nodes.length+ps.length∧jT (m+ps.length) (ps.foldl (fun s p=>jt (dH s p) p x) s).nodes:=by
  intro ps
  induction ps with
  |nil=>intro s m h;exact⟨rfl,aI _,h⟩
  |cons p ps ih=>
   intro s m h;have h1:=DL s p;have h2:=RC (dH s p) p x;refine b5 (ih (jt (dH s p) p x) (m+1) (PE (AF h p) p x)) fun i1 cR fk=>?_;refine⟨i1.trans (h2.1.trans h1.1),?_,?_⟩
   ·refine U bW (U lG ?_);exact Rm cR h2.2 h1.2
   ·refine U bW (U (xy m ps.length).symm ?_);exact fk
 have h1:=DL st x;have h2:=Od (dH st x) x ps.length;refine b5 (main ps (k_ (dH st x) x ps.length) m (Rc (AF hm x) x _)) fun i1 cR fk=>?_;refine⟨i1.trans (h2.1.trans h1.1),?_,fk⟩;unfold fW;exact Ev cR (nk (Ev (bT h2.2) h1.2) _)
section
variable {c:ah} {k:Nat} {O:XV} {Y:B}
theorem wK:∀l:List Str,fR (ww l)=l.map .str:=fun k7=>by
 induction k7 with
 |nil=>exact by show fR []=[];exact U DS rfl
 |cons x l mq=>exact by show fR (.str x::ww l)=_;rw[JN,(mq),EA];rfl
theorem B0:∀l:List Str,iH (ww l)=true:=fun k7=>by
 induction k7 with
 |nil=>exact by show iH []=true;exact U R2 rfl
 |cons x l mq=>exact by show iH (.str x::ww l)=true;rw[B9,(mq),abP];rfl
theorem AG:∀l:List Str,(∀x∈l,PyData.strOk x=true)→PyData.canLayAll0 (l.map .str)=true
 |[],_=>by rfl
 |x::l,h=>by
  have:=AG l fun y No=>h y (.tail _ No);simp only[aK,PyData.canLayAll0,this,wH];exact h x (.head _)
theorem G6 (x):∀l:List Str,((fR (ww l)).any fun y=>PyData.eqv y (pd (.str x)))=l.contains x
 |[]=>by rw[wK];rfl
 |a::l=>by
  have ih:=G6 x l;rw[wK]at ih⊢;rw[aK,I3,List.contains_cons,ih,EA];congr 1;show(a==x)=(x==a);rw[qb,lR,lR];exact eq_comm
theorem Rs.Ig (hs:aL c O Y d (ww l)) (hx:PyData.strOk x=true) (hl:∀y∈l,PyData.strOk y=true):Rs c k O Y (compareOp .In) (.str x) d (.val (.bool (l.contains x))):=by
 have h:=Rs.afk (c:=c) (k:=k) (O:=O) (Y:=Y) (x:=.str x) hs rfl (B0 l) (by rw[EA];unfold PySem.SeqAt.shaped;rw[kW];exact⟨hx,by rfl⟩) (by rw[wK];exact AG l hl);rw[G6]at h;exact h
end
noncomputable def nN (G:List (Str×Str)) (ws:List (Str×List Str)):St:=
 G.foldl (fun s p=>fW s p.1 ((G.map Prod.fst).filter fun one=>((j4 ws p.2).getD []).contains one)) (G.foldl (fun s p=>fW s p.1 []) u6)
theorem ZH (P:Params):specialIn (KF P) (.ref 87) "__get__" =some (some (.builtin "function.__get__")):=by kernel_rfl
theorem V2 (P:Params):takesIn (KF P) (.ref 87)=some false:=by kernel_rfl
theorem FnAt.there {c:ah} {f:Addr} {st:Stmt} {q:Str} {dV:Value} (h:FnAt c f st q dV):∃o fd,c.H0.get? f=some o∧o.data= .func fd:=dW h.obj fun o J J h1 h2 J=>⟨o,_,h1,h2⟩
noncomputable abbrev KD (G:List (Str×Str)) (W S:Addr) (bU bN:Option D):XV:=[⟨"left",.loc,some (.list (G.map pair))⟩,⟨"ways",.aM,some (.val (.ref W))⟩,⟨"sorter",.loc,some (.val (.ref S))⟩,⟨"start",.loc,bU⟩,⟨"goal",.aM,bN⟩,⟨"TopologicalSorter",.bz,some (.val (.ref 137))⟩]
inductive Ng (G:List (Str×Str)) (W S:Addr) (s₁:St) (aJ:B) (aE:List D) (O:XV) (I:B):Prop
 |mk (ay:List (Str×Str)) (s:St) (y:b3) (bU bN:Option D):(aE=ay.map pair)→(bI I S y s)→(bJ [] aJ (y.foot S) I)→(s.ready=none)→(s.nodes.length+ay.length≤G.length)→(jT 0 s.nodes)→(ay.foldl (fun s p=>fW s p.1 []) s=s₁)→(O=KD G W S bU bN)→Ng G W S s₁ aJ aE O I
inductive KQ (G:List (Str×Str)) (ws:List (Str×List Str)) (W S:Addr) (s₂:St) (aJ:B) (aE:List D) (O:XV) (I:B):Prop
 |mk (ay:List (Str×Str)) (s:St) (y:b3) (bU bN:Option D) (m:Nat):(aE=ay.map pair)→(bI I S y s)→(bJ [] aJ (y.foot S) I)→(s.ready=none)→(s.nodes.length+ay.length*11≤G.length*12)→(jT m s.nodes)→(m+ay.length*10≤G.length*10)→(ay.foldl (fun s p=>fW s p.1 ((G.map Prod.fst).filter fun one=>((j4 ws p.2).getD []).contains one)) s=s₂)→((∀p∈ay,p∈G))→(O=KD G W S bU bN)→KQ G ws W S s₂ aJ aE O I
theorem aeF (t:aV c) (hl:G.length≤10) (hok:∀x∈G,PyData.strOk x.1=true∧PyData.strOk x.2=true) (hw:sI aJ W ws)
 (hg:∀x∈G,∃l,j4 ws x.2=some l∧l.length≤1000∧∀y∈l,PyData.strOk y=true):
 cD c (k+5) (.ref 283) [.list (G.map pair),.val (.ref W)] aJ (fun d I=>∃S y,d= .val (.ref S)∧bI I S y (nN G ws)∧bJ [] aJ (y.foot S) I):=by
 refine cD.fn (st:=bH 29) (qual:="_law_told") (dV:=.none) (ps:=[("left",.loc),("ways",.aM)]) (ls:=[("sorter",.loc),("start",.loc),("goal",.aM)]) (gs:=[("TopologicalSorter",.ref 137)]) (t.fn rfl rfl rfl rfl) (by kd_p) (bC (t.glob (by kd_p)) cI) rfl (fun J J=>.plain rfl (sD fun J J=>rfl)) ?_;intro bP;replace t:=t.at (L:=bP);generalize c.at bP=c at t⊢
 kst_p
 have hh:=t.hd;refine wE.cons (FM.iT (aF.afA (k:=k+2) t (by kd_p) fun S acO gA h₁ GV=>⟨_,by kd_in,?_⟩));generalize Lc:G.foldl (fun s p=>fW s p.1 []) u6=s₁;refine wE.cons (FM.for hh gI (items:=G.map pair) (bF.list (by kd_p)) (Ng G W S s₁ aJ)
  ⟨G,u6,acO,none,none,rfl,h₁,GV,rfl,by simp[u6],fun n M2=>(nomatch M2),Lc,rfl⟩ (fun J J J J=>trivial) ?_ ?_)
 ·intro d rest NE I Go;obtain⟨ay,s,y,bU,bN,bG,hs,ol,hr,cM,hsh,gY,rfl⟩:=Go;obtain _|⟨x,ay⟩:=ay
  ·injection bG
  refine Op (jd bG) fun s4 eE=>?_;subst s4 eE;refine bl.tuple (bl.name (by kd_in) (bl.name (by kd_in) ?_));simp only[bW]at cM;refine wE.cons (FM.expr (aF.pe t (by kd_p) hs.inst hs.attrs (by rfl) (jC ..) (KH ..) (Mj ..) (fX (st:=ek 6 2) (t.fn rfl rfl rfl rfl)) (.cons (by kd_p) .nil (by kd_p)) (di.mono (cD.r (adM (k:=k) (ps:=[]) t hs hr (by simp;exact f7 (bX ..) cM (Ev hl (by decide))) (hsh.mono (by decide)) (by simp))) ?_)));intro d gW Go;refine Op Go fun acm Xq=>aU Xq fun gx dc uA _=>?_;subst acm;have hb:=ML x.1 [] s hsh;refine wE.nil ⟨ay,fW s x.1 [],gx,_,_,rfl,dc,ol.trans uA,hb.1.trans hr,?_,hb.2.2,gY,rfl⟩;exact JT hb.2.1 cM
 intro NE ki Go;obtain⟨ay,s,y,bU,bN,bG,hs,ol,hr,cM,hsh,gY,rfl⟩:=Go;obtain _|⟨x,ay⟩:=ay
 rotate_left
 ·injection bG
 have s6:s=s₁:=gY;subst s6;simp only[g6,Nat.add_zero]at cM;refine wE.nil ?_;generalize Ou:G.foldl (fun s p=>fW s p.1 ((G.map Prod.fst).filter fun one=>((j4 ws p.2).getD []).contains one)) s=s₂;have hT:nN G ws=s₂:=by unfold nN;exact U Lc (U Ou rfl)
 refine U hT ?_;refine wE.cons (FM.for hh gI (items:=G.map pair) (bF.list (by kd_p)) (KQ G ws W S s₂ aJ)
  ⟨G,s,y,bU,bN,0,rfl,hs,ol,hr,Y0 cM,hsh,bT (BE _),Ou,fun J h=>h,rfl⟩ (fun J J J J=>trivial) ?_ ?_)
 ·intro d rest NE I Go;obtain⟨ay,s,y,bU,bN,m,bG,hs,ol,hr,cM,hsh,hm,gY,hsub,rfl⟩:=Go;obtain _|⟨x,ay⟩:=ay
  ·injection bG
  refine Op (jd bG) fun s4 eE=>?_;subst s4 eE;refine bl.tuple (bl.name (by kd_in) (bl.name (by kd_in) ?_));simp only[bW]at cM hm;refine aU (hg x (hsub x (.head _))) fun wl uR agk aey=>?_;have dM:e9 aJ I:=fun a ha=>ol.1 a (by simp) ha;refine wS (hw.keep dM) fun l rV r6=>?_;refine wS (r6.get uR) fun JK hdg aW=>?_;have hpl:((G.map Prod.fst).filter fun one=>wl.contains one).length≤10:=by
   refine Ev (iD _ _) ?_;rw[cj];exact hl
  have gi:(ww ((G.map Prod.fst).filter fun one=>wl.contains one)).length≤1000000:=by
   unfold ww;rw[cj];exact Ev ‹_› (by decide)
  refine wE.cons (FM.expr (aF.Nh t (by kd_p) hs.inst hs.attrs (by rfl) (jC ..) (KH ..) (Mj ..) (kP ..) (ZH ..) (V2 ..) (by kd_p) (t.fn (st:=ek 6 2) rfl rfl rfl rfl).there (So (d:=.str x.1) (l:=ww ((G.map Prod.fst).filter fun one=>wl.contains one)) (by kd_p) (f8.mV hh gI (caps:=[("ways",.val (.ref W)),("goal",.str x.2)]) (gs:=[]) (ts:=[("one",.loc),("other",.loc)]) (items:=G.map pair) (out:=ww ((G.map Prod.fst).filter fun one=>wl.contains one)) (by intros;rfl) (by dsimp only[List.map];decide+kernel) ?_ cI (bF.list (l:=G.map pair) (by kd_p)) trivial ?_) aL.list gi ?_)))
  ·intro z hz;simp only[a_,eF,g5]at hz;obtain rfl|rfl:=hz
   ·exact⟨.aM,.inl rfl,by walk_at "v"⟩
   ·exact⟨.aM,.inl rfl,by walk_at "v"⟩
  ·have e:ww ((G.map Prod.fst).filter fun one=>wl.contains one)=(G.filter fun p=>wl.contains p.1).map fun p=>.str p.1:=by
    unfold ww;refine U Gm (U cO ?_);rfl
   refine U e ?_;refine dR.two (xs:=G) (P:=fun p=>wl.contains p.1) (F:=fun p=>.str p.1) (fun p=>.str p.1) (fun p=>.str p.2) (by kd_p) fun p hp=>?_
   kst_p
   exact⟨eH.one (az.cmp (by kd_p) (f8.sub (by kd_p) (by kd_p) (Rs.u7 rV hdg)) (Rs.Ig (aL.cell aW) (hok p hp).1 aey)),fun J=>by kd_p⟩
  ·refine eS.mono (Mt (k:=k) (ps:=(G.map Prod.fst).filter fun one=>wl.contains one) t hs hr (S5 cM hl hpl) (hsh.mono (f7 (bX ..) hm (Ev (Af 10 hl) (by decide)))) (by kd_p)) ?_;intro d gW Go;refine Op Go fun YQ Uc=>aU Uc fun gx dc uA _=>?_;subst YQ;have hb:=ML x.1 ((G.map Prod.fst).filter fun one=>wl.contains one) s hsh;have adR:ay.foldl (fun s p=>fW s p.1 ((G.map Prod.fst).filter fun one=>((j4 ws p.2).getD []).contains one)) (fW s x.1 ((G.map Prod.fst).filter fun one=>wl.contains one))=s₂:=by
    refine ZB gY (U lG (U uR ?_));rfl
   refine wE.nil ⟨ay,_,gx,_,_,_,rfl,dc,ol.trans uA,hb.1.trans hr,?_,hb.2.2,?_,adR,fun p hp=>hsub p (.tail _ hp),rfl⟩
   ·exact T9 cM hb.2.1 hpl
   ·exact adl hm hpl
 ·intro NE kY Go;obtain⟨ay,s,y,bU,bN,m,bG,hs,ol,hr,cM,hsh,hm,gY,hsub,rfl⟩:=Go;obtain _|⟨x,ay⟩:=ay
  rotate_left
  ·injection bG
  have s6:s=s₂:=gY;subst s6;exact wE.nil (wE.cons (FM.ret (d:=.val (.ref S)) (by kd_p) ⟨S,y,rfl,hs,ol⟩))
end
section
open PySem.W
section
variable {c:ah} {k:Nat} {O:XV} {Y:B}
theorem Rs.adk (hs:aL c O Y d (ww l)) (hx:PyData.strOk x=true) (hl:∀y∈l,PyData.strOk y=true):Rs c k O Y (compareOp .NotIn) (.str x) d (.val (.bool (!l.contains x))):=by
 have h:=Rs.KZ (c:=c) (k:=k) (O:=O) (Y:=Y) (x:=.str x) hs rfl (B0 l) (by rw[EA];delta PySem.SeqAt.shaped;rw[kW];exact⟨hx,by rfl⟩) (by rw[wK];exact AG l hl);rw[G6]at h;exact h
theorem N3:∀{H:List Value} {l:List Str},au Z H (ww l)→∀(i:Nat) (y:Value),H[i]?=some y→∃s t,y= .str s t∧l[i]?=some s
 |[],[],_,i,y,h=>by simp at h
 |[],_::_,h,_,_,_=>by cases h
 |_::_,[],h,_,_,_=>by cases h
 |v::H,x::l,h,i,y,No=>by
  change au Z (v::H) (.str x::ww l)at h;cases h with
  |cons h1 h2=>
  obtain _|i:=i
  ·simp at No;subst No;cases h1;exact pB _ _ rfl rfl
  ·refine eO (N3 h2 i y (by simpa using No)) fun s t e q=>?_;exact pB s t e (by simpa using q)
theorem b8.abq (hs:aL c O Y d (ww l)) (hx:x∈l) (hb:l.length≤1000000):b8 c k O Y (.builtin "list.index") [d,.str x] (.int (l.idxOf x:Nat)):=by
 intro A V s Z H ok r h Q E g;refine fJ (nA h) fun bk bL s4 h₁ h₂=>?_;subst s4;refine dW (hs _ V Z bk r h₁) fun a its n s4 hg FS=>?_;subst s4;refine h₂.s fun _=>?_;rename_i tk;have e1:its.size=l.length:=by refine ZB gP (U FS.length ?_);simp[ww]
 have bM:l.idxOf x<l.length:=JS hx;have at_:∀i (hi:i<its.size),∃s t,its[i]= .str s t∧l[i]?=some s:=fun i hi=>N3 FS i its[i] (by simp[hi])
 refine vH Qy ⟨_,hg,rfl⟩ PySem.F.entry_list_index (PySem.F.args_list_index_2 _ _) (PySem.MeetsSeq.list_index a its n (.str x tk) (fun y=>match y with| .str s _=>s==x|_=>false) (fun y No=>?_) (l.idxOf x) (lQ bM e1.symm) (afn bM hb) ?_ fun m hm Xx=>?_) ⟨hg,gV g r.top r.sub (.int _ _) (b9 _)⟩
 ·obtain⟨i,hi,rfl⟩:=Array.mem_iff_getElem.mp No;refine eO (at_ i hi) fun s' t' e _=>?_;exact U e (eqGives_str _ _ _ _)
 ·refine eO (at_ (l.idxOf x) (lQ bM e1.symm)) fun s' t' e e'=>?_;refine U e ?_;have:s'=x:=by
   rw[gh bM]at e';obtain rfl:=bh e';exact GL bM
  simp[this]
 ·refine eO (at_ m hm) fun s' t' e e'=>?_;refine U e ?_;have:s'≠x:=by
   rintro rfl;refine aP (k8.mp e') fun h1 h2=>?_;have:=List.not_of_lt_findIdx (p:=fun y=>y==s') (xs:=l) (i:=m) Xx;rw[h2]at this;simp at this
  simp[this]
theorem f8.index (xz:f8 c k O Y o d) (hs:aL c O Y d (ww l)) (he:f8 c k O Y e (.str x)) (hx:x∈l) (hb:l.length≤1000000)
 (fO:∀V,attributeBase o "index" V (eval o V)=eval o V:=by kd_p) (hst:∀V,starEach [e] V=[(false,eval e V)]:=by kd_p)
 (f6:(c9.endLine==pos.line)=true:=by rfl):f8 c k O Y (.Call (.Attribute o "index" c9) [e] [] pos) (.int (l.idxOf x:Nat)):=
 f8.nq xz (kL.seq hs) PySem.F.plainAttrs_list Qy PySem.F.type_list_index (.cons he .nil hst) (b8.abq hs hx hb) fO (fun V=>by rw[hst];rfl) (fun V=>by rw[hst];rfl) f6
end
noncomputable def aS (G:List (Str×Str)) (s:Str):List Str:=(G.filter fun p=>cF s p.2).map Prod.fst
noncomputable def jU (G:List (Str×Str)):Nat→List Str→List Str
 |0,al=>al
 |n+1,al=>jU G n (al.filter fun one=>!((aS G one).filter fun two=>al.contains two).isEmpty)
theorem Um (G n al):jU G (n+1) al=jU G n (al.filter fun one=>!((aS G one).filter fun two=>al.contains two).isEmpty):=rfl
noncomputable def sF (G:List (Str×Str)) (al:List Str):Nat→List Str→Option (List Str)
 |0,_=>none
 |f+1,w=>
  let x:=w.getLastD Str.empty
  if w.dropLast.contains x then some (w.drop (w.idxOf x))
  else match(aS G x).filter fun two=>al.contains two with
   |[]=>none
   |y::_=>sF G al f (w++[y])
theorem Fb (G al f w):sF G al (f+1) w=if w.dropLast.contains (w.getLastD Str.empty)then some (w.drop (w.idxOf (w.getLastD Str.empty)))else match(aS G (w.getLastD Str.empty)).filter fun two=>al.contains two with|[]=>none|y::_=>sF G al f (w++[y]):=rfl
noncomputable def w5 (G:List (Str×Str)):Option (Option (List Str)):=
 match jU G G.length (G.map Prod.fst)with
 |[]=>some none
 |a::al=>(sF G (a::al) (G.length+1) [a]).map some
theorem FI {g:Str→D}:∀{G:List (Str×Str)},s∈G.map Prod.fst→cN (G.map fun p=>(p.1,g p.1)) s=some (g s)
 |[],h=>by cases h
 |p::G,h=>by
  delta cN;rw[aK,rD];by_cases q:p.1=s
  ·simp[q]
  ·simp only[q,tP];rw[aK]at h;exact FI ((a_.mp h).resolve_left fun e=>q e.symm)
theorem vX (h:y∈aS G s):y∈G.map Prod.fst:=by
 refine wS (ao.mp h) fun p hp s4=>?_;subst s4;exact cA (cE.mp hp).1
noncomputable abbrev Jp (G:List (Str×Str)) (P:Addr) (bU bN ee cX dF:Option D):XV:=[⟨"left",.loc,some (.list (G.map pair))⟩,⟨"steps",.aM,some (.val (.ref P))⟩,⟨"start",.aM,bU⟩,⟨"aim",.loc,bN⟩,⟨"alive",.aM,ee⟩,⟨"turn",.loc,cX⟩,⟨"walk",.loc,dF⟩,
 ⟨"range",.bz,some (.val (.type "range"))⟩,⟨"len",.bz,some (.val (.builtin "len"))⟩]
section
variable {c:ah} {k:Nat}
inductive RM (G:List (Str×Str)) (P:Addr) (aJ:B) (aE:List D) (O:XV) (I:B):Prop
 |mk (done ay:List (Str×Str)) (bU bN:Option D):(aE=ay.map pair)→(G=done++ay)→(I=aJ.put P (some (.dict (done.map fun p=>(p.1,.list (ww (aS G p.1)))))))→(O=Jp G P bU bN none none none)→RM G P aJ aE O I
inductive Pe (G:List (Str×Str)) (P:Addr) (bU bN:Option D) (gA:B) (aE:List D) (O:XV) (Y:B):Prop
 |mk (n:Nat) (i:Int) (al:List Str) (cX:Option D):(aE=kQ i n)→(jU G n al=jU G G.length (G.map Prod.fst))→((∀x∈al,x∈G.map Prod.fst))→(al.length≤10)→(Y=gA)→(O=Jp G P bU bN (some (.list (ww al))) cX none)→Pe G P bU bN gA aE O Y
inductive Ql (G:List (Str×Str)) (P nT:Addr) (bU bN cX:Option D) (nO res:List Str) (I:B) (f:Nat) (O:XV) (Y:B):Prop
 |mk (w:List Str) (x:Str):(sF G nO f (w++[x])=some res)→((∀z∈w++[x],z∈G.map Prod.fst))→(w.length+f≤11)→(Y=I.put nT (some (.list (ww (w++[x])))))→(O=Jp G P bU bN (some (.list (ww nO))) cX (some (.val (.ref nT))))→Ql G P nT bU bN cX nO res I f O Y
theorem aan (t:aV c) (hl:G.length≤10) (hok:∀x∈G,PyData.strOk x.1=true∧x.1.length≤1000∧x.2.length≤1000) (hnd:(G.map Prod.fst).Nodup) (hr:w5 G=some b):
 wE c (k+1) (vars [("left",.loc)] [.list (G.map pair)] [("steps",.aM),("start",.aM),("aim",.loc),("alive",.aM),("turn",.loc),("walk",.loc)] [("range",.type "range"),("len",.builtin "len")]) aJ (gM (bH 30))
  (vg fun d I=>d=nK b∧e9 aJ I):=by
 kst_p
 have hh:=t.hd;refine wE.cons (FM.iT (aF.newDict fun P lU=>⟨_,by kd_in,?_⟩));refine wE.cons (FM.for hh gI (items:=G.map pair) (bF.list (by kd_p)) (RM G P aJ)
  ⟨[],G,none,none,rfl,rfl,rfl,rfl⟩ (fun J J J J=>trivial) ?_ ?_)
 ·intro d rest NE I Go;obtain⟨done,ay,bU,bN,bG,iU,rfl,rfl⟩:=Go;obtain _|⟨x,ay⟩:=ay
  ·injection bG
  refine Op (jd bG) fun s4 eE=>?_;subst s4 eE;refine bl.tuple (bl.name (by kd_in) (bl.name (by kd_in) ?_));have hx:x∈G:=by refine U iU ?_;simp
  refine wE.cons (FM.Aa (.nt (d:=.list (ww (aS G x.1))) (f8.mV hh gI (caps:=[("start",.str x.1)]) (gs:=[("_law_meets",.ref 266)]) (ts:=[("one",.loc),("goal",.loc)]) (items:=G.map pair) (out:=ww (aS G x.1)) (by intros;rfl) (by dsimp only[List.map];decide+kernel) ?_ (bC (t.glob (by kd_p)) cI) (bF.list (l:=G.map pair) (by kd_p)) trivial ?_) ⟨by kd_p,by kd_p,_,B.ai ..,?_,?_⟩))
  ·intro z hz;simp only[a_,eF,g5]at hz;obtain rfl:=hz;exact⟨.aM,.inl rfl,by walk_at "v"⟩
  ·have e:ww (aS G x.1)=(G.filter fun p=>cF x.1 p.2).map fun p=>.str p.1:=by
    delta aS ww;refine U cO ?_;rfl
   refine U e ?_;refine dR.two (xs:=G) (P:=fun p=>cF x.1 p.2) (F:=fun p=>.str p.1) (fun p=>.str p.1) (fun p=>.str p.2) (by kd_p) fun p hp=>?_
   kst_p
   exact⟨eH.one (az.plain (f8.call (by kd_p) (fX (st:=bH 26) (t.fn rfl rfl rfl rfl)) (.cons (by kd_p) (.cons (by kd_p) .nil (by kd_p)) (by kd_p)) (cu.r (I9 (k:=k) (t.fn rfl rfl rfl rfl) (hok x hx).2.1 (hok p hp).2.2)) (by kd_p)) dB.bool),fun J=>by kd_p⟩
  ·have:=cQ List.length iU;simp at this⊢;exact f7 (bX ..) (bT this.symm) (Ev hl (by decide))
  ·have zf:x.1∉(done.map fun p=>((p.1,.list (ww (aS G p.1))):Str×D)).map Prod.fst:=by
    refine U cO ?_;rw[iU,gK,aK,kq]at hnd;intro hm;refine wS (ao.mp hm) fun p hp e=>?_;exact hnd.2.2 p.1 (cA hp) x.1 (.head _) e
   refine U (Cj zf) (U B.m6 ?_);exact wE.nil ⟨done++[x],ay,_,_,rfl,by refine U iU ?_;simp,by simp,rfl⟩
 intro NE I Go;obtain⟨done,ay,bU,bN,bG,iU,rfl,rfl⟩:=Go;obtain _|⟨x,ay⟩:=ay
 rotate_left
 ·injection bG
 rw[fV]at iU;subst iU;refine wE.nil ?_;have Dd:(aJ.put P (some (.dict (G.map fun p=>(p.1,.list (ww (aS G p.1))))))) P=some (.dict (G.map fun p=>(p.1,.list (ww (aS G p.1))))):=B.ai ..;have iB:e9 aJ (aJ.put P (some (.dict (G.map fun p=>(p.1,.list (ww (aS G p.1))))))):=e9.put lU _;generalize aJ.put P (some (.dict (G.map fun p=>(p.1,.list (ww (aS G p.1))))))=gA at Dd iB⊢;have hS:∀x∈G.map Prod.fst,PyData.strOk x=true:=fun x hx=>by
  refine wS (ao.mp hx) fun p hp s4=>?_;subst s4;exact(hok p hp).1
 have Ds:∀x,(aS G x).length≤10:=fun x=>by
  delta aS;rw[cj];exact Ev (iD _ _) hl
 refine wE.cons (FM.oS hh gI (caps:=[]) (gs:=[]) (ts:=[("start",.loc),("goal",.loc)]) (out:=ww (G.map Prod.fst)) (by intros;rfl) (by kd_p) (by simp) cI (bF.list (l:=G.map pair) (by kd_p)) trivial (by
  have e:ww (G.map Prod.fst)=(G.filter fun J=>true).map fun p=>.str p.1:=by
   refine U (lz.mpr (fun J J=>rfl)) ?_;delta ww;refine U cO ?_;rfl
  refine U e ?_;exact dR.two (xs:=G) (P:=fun J=>true) (F:=fun p=>.str p.1) (fun p=>.str p.1) (fun p=>.str p.2) (by kd_p) fun p hp=>⟨eH.nil,fun J=>by kd_p⟩) (by kd_in) ?_)
 refine wE.cons (FM.for hh tL (items:=kQ 0 G.length) (bF.range (by kd_p) ?_ (by kd_p)) (Pe G P bU bN gA)
  ⟨G.length,0,G.map Prod.fst,none,rfl,rfl,fun J h=>h,by simpa using hl,rfl,rfl⟩ (fun J J J J=>trivial) ?_ ?_)
 ·exact ZB (show(G.map pair).length=G.length by simp) (f8.len (by kd_p) (by kd_p) aL.list (by simp;exact Ev hl (by decide)))
 ·intro d rest NE I Go;obtain⟨n,i,al,cX,bG,oH,hsub,ig,rfl,rfl⟩:=Go;obtain _|n:=n
  ·injection bG
  refine Op (jd bG) fun s4 eE=>?_;subst s4 eE;refine bl.name (by kd_in) ?_;refine wE.cons (FM.oS hh gI (caps:=[("alive",.list (ww al)),("steps",.val (.ref P))]) (gs:=[]) (ts:=[("one",.loc)]) (out:=ww (al.filter fun one=>!((aS G one).filter fun two=>al.contains two).isEmpty)) (by intros;rfl) (by dsimp only[List.map];decide+kernel) (by
   intro z hz;simp only[a_,eF,g5]at hz;obtain rfl|rfl:=hz
   ·exact⟨.aM,.inl rfl,by walk_at "v"⟩
   ·exact⟨.aM,.inl rfl,by walk_at "v"⟩) cI (bF.list (l:=ww al) (by kd_p)) trivial (dR.one (xs:=al) (P:=fun one=>!((aS G one).filter fun two=>al.contains two).isEmpty) (F:=.str) .str (by kd_p) fun x hx=>?_) (by kd_in) ?_)
  ·kst_p
   refine⟨eH.one ((az.plain (d:=.list (ww ((aS G x).filter fun two=>al.contains two))) (f8.mV hh gI (caps:=[("alive",.list (ww al))]) (gs:=[]) (ts:=[("two",.loc)]) (items:=ww (aS G x)) (by intros;rfl) (by dsimp only[List.map];decide+kernel) (by
    intro z hz;simp only[a_,eF,g5]at hz;obtain rfl:=hz;exact⟨.gC,.inr rfl,by walk_at "v"⟩) cI (bF.list (l:=ww (aS G x)) (f8.sub (by kd_p) (by kd_p) (Rs.u7 Dd (FI (g:=fun s=>.list (ww (aS G s))) (hsub x hx))))) trivial (dR.one (xs:=aS G x) (P:=fun two=>al.contains two) (F:=.str) .str (Ev (Ds x) (by decide)) fun y No=>?_)) (dB.list ?_)).to (by simp[ww])),fun J=>by kd_p⟩
   ·kst_p
    exact⟨eH.one (az.cmp (by kd_p) (by kd_p) (Rs.Ig aL.list (hS y (vX No)) fun z hz=>hS z (hsub z hz))),fun J=>by kd_p⟩
   ·have h1:=iD (fun two=>al.contains two) (aS G x);have h2:=Ds x;delta ww;rw[cj];exact f7 h1 h2 (by decide)
  ·refine wE.nil ⟨n,i+1,_,_,rfl,oH,fun z hz=>hsub z (cE.mp hz).1,Ev (iD _ _) ig,rfl,rfl⟩
 intro NE I Go;obtain⟨n,i,al,cX,bG,oH,hsub,ig,rfl,rfl⟩:=Go;obtain _|n:=n
 rotate_left
 ·injection bG
 have adB:al=jU G G.length (G.map Prod.fst):=oH;refine wE.nil ?_;delta w5 at hr;rw[←adB]at hr;refine wE.cons (FM.ifs (b:=al.isEmpty) ((az.not (az.plain (by kd_p) (dB.list (by simp[ww];exact Ev ig (by decide))))).to (by cases al<;>rfl)) (fun he=>?_) (fun he=>wE.nil ?_))
 ·obtain _|⟨a,al⟩:=al
  rotate_left
  ·injection he
  obtain rfl:=bh hr;exact wE.cons (FM.ret (d:=.val .none) (by kd_p) ⟨rfl,iB⟩)
 obtain _|⟨a,al⟩:=al
 ·injection he
 dsimp only at hr⊢;obtain⟨res,DE,rfl⟩:∃res,sF G (a::al) (G.length+1) [a]=some res∧b=some res:=by
  refine wS (J0.mp hr) fun res h1 h2=>?_;exact⟨res,h1,h2.symm⟩
 generalize ha:a::al=nO at DE hsub ig⊢;refine wE.cons (FM.iT (aF.newList (ds:=[.str a]) (.cons (f8.sub (d₁:=.list (ww nO)) (d₂:=.int 0) (by kd_p) (by kd_p) (Rs.item aL.list (by decide) (by refine ZB ha ?_;rfl) (by simp[ww];exact Ev ig (by decide)))) .nil (by kd_p)) (by simp) fun nT G4=>⟨_,by kd_in,?_⟩));have aa6:P≠nT:=by rintro rfl;rw[Dd]at G4;injection G4
 have To:a∈G.map Prod.fst:=hsub a (by refine ZB ha ?_;simp);refine wE.cons (FM.while (Ql G P nT bU bN cX nO res I)
  (G.length+1) ⟨[],a,DE,by simpa using To,by simp;assumption,rfl,rfl⟩ ?_)
 intro f NE gW Go;obtain⟨w,x,pV,tn,uR,rfl,rfl⟩:=Go;obtain _|f:=f
 ·injection pV
 rw[Fb]at pV;rw[JX,A0]at pV;have rM:(I.put nT (some (.list (ww (w++[x]))))) nT=some (.list (ww (w++[x]))):=B.ai ..;have Dk:(I.put nT (some (.list (ww (w++[x]))))) nT=some (.list (ww w++[.str x])):=by rw[rM,ux]
 have Ss:(I.put nT (some (.list (ww (w++[x]))))) P=some (.dict (G.map fun p=>(p.1,.list (ww (aS G p.1))))):=(B.aa _ _ aa6).trans Dd;have qG:(ww w++[D.str x]).length=w.length+1:=by simp[ww]
 have Eo:=Ev (jQ (gw (fz f)) w.length) uR;have D9:=j7 qG Eo (show 11≤1000000 by decide);have FJ:(ww w++[D.str x])[(-(1:Int)+((ww w++[D.str x]).length:Nat)).toNat]?=some (.str x):=by
  have:(-(1:Int)+((ww w++[D.str x]).length:Nat)).toNat=(ww w).length:=by
   refine U dZ ?_;simp only[bW,g6];exact Ht
  refine U this ?_;simp
 have hx:PyData.strOk x=true:=hS x (tn x (by simp));have gi:lF (ww w++[D.str x]) none (some (-1:Int)) none=ww w:=by
  refine U adz (U dZ ?_);simp
 refine gg (!w.contains x) ?_ (fun bg=>?_) (fun he=>?_)
 ·refine az.cmp (f8.sub (by kd_p) (f8.neg (i:=1) (by kd_p)) (Rs.wg (aL.cell Dk) (by decide) (by refine U qG ?_;exact Ii) FJ D9)) (d₂:=.list (ww w)) ?_ (Rs.adk aL.list hx fun y No=>hS y (tn y (by simp[No])));exact ZB gi (f8.slice (by kd_p) (aL.cell Dk) fy.none (fy.some (f8.neg (i:=1) (by kd_p))) fy.none (by simp) D9)
 ·have UH:w.contains x=false:=by simpa using bg
  rw[Tk (by refine U UH ?_;simp)]at pV;rcases hfl:(aS G x).filter fun two=>nO.contains two with _|⟨y,ys⟩
  ·rw[hfl]at pV;injection pV
  rw[hfl]at pV;have agw:(ww ((aS G x).filter fun two=>nO.contains two)).length≤10:=by
   delta ww;rw[cj];exact Ev (iD _ _) (Ds x)
  have abp:y∈G.map Prod.fst:=by
   have:y∈(aS G x).filter fun two=>nO.contains two:=by refine U hfl ?_;exact .head _
   exact vX (cE.mp this).1
  refine wE.cons (FM.expr (aF.append (d:=.str y) (l:=ww (w++[x])) (by kd_p) (f8.sub (d₁:=.list (ww ((aS G x).filter fun two=>nO.contains two))) (d₂:=.int 0) (f8.mV hh gI (caps:=[("alive",.list (ww nO))]) (gs:=[]) (ts:=[("two",.loc)]) (items:=ww (aS G x)) (by intros;rfl) (by dsimp only[List.map];decide+kernel) (by
   intro z hz;simp only[a_,eF,g5]at hz;obtain rfl:=hz;exact⟨.aM,.inl rfl,by walk_at "v"⟩) cI (bF.list (l:=ww (aS G x)) (f8.sub (d₂:=.str x) (by kd_p) (f8.sub (by kd_p) (f8.neg (i:=1) (by kd_p)) (Rs.wg (aL.cell Dk) (by decide) (by refine U qG ?_;exact Ii) FJ D9)) (Rs.u7 Ss (FI (g:=fun s=>.list (ww (aS G s))) (tn x (by simp)))))) trivial (dR.one (xs:=aS G x) (P:=fun two=>nO.contains two) (F:=.str) .str (Ev (Ds x) (by decide)) fun y No=>?_)) (by kd_p) (Rs.item aL.list (by decide) (by refine U hfl ?_;rfl) (by kd_p))) rM (by rw[ux,qG];exact Ev Eo (by decide)) ?_))
  ·kst_p
   exact⟨eH.one (az.cmp (by kd_p) (by kd_p) (Rs.Ig aL.list (hS y (vX No)) fun z hz=>hS z (hsub z hz))),fun J=>by kd_p⟩
  ·refine wE.nil ⟨f,jM f,w++[x],y,pV,fun z hz=>?_,?_,?_,rfl⟩
   ·obtain hz|hz:=b_.mp hz
    ·exact tn z hz
    ·exact U (fG.mp hz) abp
   ·refine U dZ ?_;simp only[bW,g6];exact oZ uR
   ·rw[B.m6,←ux]
 ·refine wE.nil ?_;have hc:w.contains x=true:=by simpa using he
  rw[ak hc]at pV;obtain rfl:=bh pV;have hi:(w++[x]).idxOf x≤(ww (w++[x])).length:=by
   rw[ux,qG];have:=I_ (a:=x) (l:=w++[x]);rw[dZ]at this;simpa using this
  refine wE.cons (FM.ret (d:=.list (lF (ww (w++[x])) (some ((w++[x]).idxOf x:Nat)) none none)) (f8.slice (by kd_p) (aL.cell rM) (fy.some (f8.index (l:=w++[x]) (x:=x) (by kd_p) (aL.cell rM) (f8.sub (by kd_p) (f8.neg (i:=1) (by kd_p)) (Rs.wg (aL.cell Dk) (by decide) (by refine U qG ?_;exact Ii) FJ D9)) (by simp) (by simp;exact Ev (g9 Eo) (by decide)))) fy.none fy.none (by simp) (by rw[ux,qG];exact Ev Eo (by decide))) ⟨?_,iB.putN ?_ _⟩)
  ·refine U (CR hi) ?_;show _=D.list (ww _);delta ww;exact U CO rfl
  ·rcases q:aJ nT with _|cl
   ·rfl
   ·have:=iB.some q;rw[G4]at this;injection this
theorem UW (t:aV c) (hl:G.length≤10) (hok:∀x∈G,PyData.strOk x.1=true∧x.1.length≤1000∧x.2.length≤1000) (hnd:(G.map Prod.fst).Nodup) (hr:w5 G=some b):
 cD c (k+2) (.ref 288) [.list (G.map pair)] aJ (fun d I=>d=nK b∧e9 aJ I):=by
 exact cD.fn (st:=bH 30) (qual:="_law_ring") (dV:=.none) (t.fn rfl rfl rfl rfl) (by kd_p)
  (bC (t.dw (by kd_p) (by kd_p) (by decide)) (bC (t.dw (by kd_p) (by kd_p) (by decide)) cI)) rfl (fun J J=>.plain rfl (jg fun J=>rfl)) fun bP A V s bs Z ok w Q E q=>aan (t.at (L:=bP)) hl hok hnd hr A V s bs Z ok w Q E fun f5 f s' Z' r cU dG hp=>q f5 f s' Z' r cU dG (by cases f5<;>first|exact hp|exact hp.elim)
end
end
section
open PySem.W
inductive Hq (L:Addr) (l:List D) (Z:TW) (aE:List D) (it:Addr):cC→Prop
 |mk (o:Obj) (i:Nat):o.cls= .type "list_iterator"→o.data= .fields #[.ref L,.int i 0]→aE=l.drop i→Hq L l Z aE it [(it,o)]
theorem Tp:qO c (Hq L l) (fun Y=>Y L=some (.list l)) where
 mono:=fun J ⟨o,i,h2,h3,h4⟩=>⟨o,i,h2,h3,h4⟩
 rows:=fun⟨o,i,h2,h3,h4⟩=>vK h2 (by decide) h3
 iter:=by
  intro A s Z it os aE Q E st Go q;obtain⟨o,i,h2,h3,h4⟩:=Go;exact wpAny_pyIter_listiter ⟨o,cS.mp st,h2,h3⟩ q
 go:=by
  intro A s Z it os aE v br Q E _ sub top cK st Go q;obtain⟨o,i,h2,h3,h4⟩:=Go;exact wJ (cS.mp st) h2 h3 (by decide) (q s _ (.id top sub) rfl st ⟨o,i,h2,h3,h4⟩)
 next:=by
  intro A V s Z O Y it os d aE Q E hh r src cK st Go q;obtain⟨o,i,h2,h3,h4⟩:=Go;refine eO (q8 r src) fun H n hg FS=>?_;have hd:l[i]?=some d:=by rw[←BP,←h4];rfl
  refine wS (yz FS hd) fun v s5 tv=>?_;refine Cr ⟨o,cS.mp st,h2,h3⟩ ⟨_,hg,rfl,n,rfl⟩ s5 fun h' Uu av=>aU Uu fun o' bK jf hd'=>?_;exact q v {s with heap:=h'} Z [(it,o')] (dN.same r.top r.sub (cK _ (.head _)) av (.head _) (aI _) ⟨o,_,cS.mp st,h3⟩) rfl (cS.mpr bK) ⟨o',i+1,jf,hd',by refine ZB C_ (ZB h4 ?_);rfl⟩ tv
 fin:=by
  intro A V s Z O Y it os Q E hh r src cK st Go q;obtain⟨o,i,h2,h3,h4⟩:=Go;refine eO (q8 r src) fun H n hg FS=>?_;have hi:H[i]?=none:=by
   rw[←xq,mu,FS.length];exact Gy.mp h4.symm
  exact h_ (E4 hh ⟨o,cS.mp st,h2,h3⟩ ⟨_,hg,rfl,n,rfl⟩ hi fun h' x u=>q _ Z (dN.ext' r.top r.sub (cK _ (.head _)) x (.head _) u ⟨o,_,cS.mp st,h3⟩))
theorem bF.cell (he:f8 c k O Y e (.val (.ref L))) (aW:Y L=some (.list l)):bF c k O Y e (Hq L l) l:=by
 intro A V s Z ok r Q E q;refine he A V s Z ok r _ E fun v s₁ aB EQ s5=>?_;refine s5.v ?_;refine eO (q8 (r.step EQ) aW) fun H n hg FS=>?_;refine wI ⟨_,hg,rfl,n,rfl⟩ ?_;have st:=EQ.trans (aD.alloc EQ.top EQ.sub {cls:=.type "list_iterator",data:=.fields #[.ref L,.int 0 0]});refine q _ [(_,_)] _ _ st (cS.mpr (d7 _ rfl)) (fun p hp=>?_) ⟨_,0,rfl,rfl,rfl⟩;refine bD hp ?_ fun hp=>?_
 ·exact⟨EQ.grow.1,gR EQ.sub (aI _)⟩
 ·cases hp
section
variable {c:ah} {k:Nat} {O:XV} {Y:B}
theorem Y4 {S:Addr} {y:b3} {st:St} {r:List Str} (t:aV c) (h:bI Y S y st) (hr:st.ready=some r) (hz:r.length≤500):
 cD c (k+1) (.ref 106) [.val (.ref S)] Y (fun d I=>d= .val (.bool (decide (st.fin<st.j_)|| !r.isEmpty))∧I=Y):=by
 refine cD.fn (st:=ek 6 5) (qual:="TopologicalSorter.is_active") (dV:=.none) (ps:=[("self",.loc)]) (ls:=[]) (gs:=[("bool",.type "bool")]) (t.fn rfl rfl rfl rfl) (by kd_p) (bC (t.dw (by kd_p) (by kd_p) (by decide)) cI) rfl (fun J J=>.plain rfl (jg fun J=>rfl)) ?_;intro bP;replace t:=t.at (L:=bP);generalize c.at bP=c at t⊢
 kst_p
 obtain⟨R,bE,qm⟩:∃R,y.rs=[R]∧Y R=some (.list (ww r)):=by have:=h.gH;rw[hr]at this;exact this
 have pY:yW y.rs= .val (.ref R):=by refine U bE ?_;rfl
 have qL:∀{O:XV},cy c k O Y S "_ready_nodes" (.val (.ref R)):=by
  intro O;refine ZB pY ?_;exact cy.gH t h
 have nH:(ww r).length=r.length:=by simp[ww]
 refine wE.cons (FM.ifs (b:=false) ((az.cmp (f8.ga (by kd_p) qL) (by kd_p) Rs.isNone).to rfl) (fun h=>(by injection h)) fun J=>wE.nil ?_);refine wE.cons (FM.ret (d:=.val (.bool (decide (st.fin<st.j_)|| !r.isEmpty))) (f8.Dy (f8.cmp (f8.ga (by kd_p) (cy.fin t h)) (f8.ga (by kd_p) (cy.Ry t h)) Rs.TH) dB.bool (fun e=>by refine U e ?_;rfl) (fun e=>?_)) ?_)
 ·rw[e,Bool.false_or];have e2:(!(ww r).isEmpty)=(!r.isEmpty):=by cases r<;>rfl
  exact ZB e2 (f8.call (by kd_p) ue (.cons (f8.ga (by kd_p) qL) .nil (by kd_p)) (b8.aeq (.cell qm) (j7 nH hz (by decide))) (by kd_p))
 ·exact⟨rfl,rfl⟩
noncomputable def nR (st:St) (s:Str):St:=match eg st.nodes s,st.ready with
 |some m,some r=>{st with nodes:=eo st.nodes s {m with np:=m.np-1},ready:=some (if m.np-1=0 then r++[s]else r)}
 |_,_=>st
noncomputable def lS (st:St) (x:Str):St:=match eg st.nodes x with
 |some n=>let st':=n.succ.foldl nR {st with nodes:=eo st.nodes x {n with np:= -2}}
  {st' with fin:=st'.fin+1}
 |none=>st
noncomputable def z6:St→List Str→Prop
 |_,[]=>True
 |st,x::xs=>(∃n,eg st.nodes x=some n∧n.np= -1∧n.succ.length≤500∧∀s∈n.succ,s∈st.nodes.map (fun x=>x.name))∧z6 (lS st x) xs
theorem By:∀{as:List eG} {ns:List bQ} {x z:Str} {k m n:bQ} {a:eG},eg ns z=some k→m.name=k.name→m.succ=k.succ→gf as ns x=some (a,n)→∃gv,gf as (eo ns z m) x=some (a,gv)∧gv.succ=n.succ
 |[],_,_,_,_,_,_,_,_,_,_,h=>by cases h
 |_::_,[],_,_,_,_,_,_,_,_,_,h=>by cases h
 |b::as,j::ns,x,z,k,m,n,a,h,e1,e2,h'=>by
  rw[nL]at h;rw[ud];rw[m8]at h';by_cases q:j.name=z
  ·rw[ak q]at h⊢;cases h;rw[m8];by_cases q':j.name=x
   ·rw[ak q']at h';cases h';exact⟨m,ak (e1.trans q'),e2⟩
   ·rw[Tk q']at h';exact⟨n,by refine U (Tk (by refine U e1 ?_;exact q')) ?_;exact h',rfl⟩
  ·rw[Tk q]at h⊢;rw[m8];by_cases q':j.name=x
   ·rw[ak q']at h'⊢;exact⟨n,h',rfl⟩
   ·rw[Tk q']at h'⊢;exact By h e1 e2 h'
theorem f8.UP (xz:f8 c k O Y o (.val (.ref a))) (he:f8 c k O Y e (.str x)) (ha:Y a=some (.dict l)) (hx:Internal.cN l x=some d)
 (fO:∀V,attributeBase o "get" V (eval o V)=eval o V:=by kd_p) (hs:∀V,starEach [e] V=[(false,eval e V)]:=by kd_p)
 (f6:(c9.endLine==pos.line)=true:=by rfl):f8 c k O Y (.Call (.Attribute o "get" c9) [e] [] pos) d:=by
 have:=f8.cN xz he ha fO hs f6;rw[hx]at this;exact this
inductive Mm (S:Addr) (y:b3) (st:St) (xs:List Str) (Y:B) (aE:List D) (O:XV) (I:B):Prop
 |mk (ay:List Str) (s:St) (r':List Str) (bU bN ee cX dF:Option D):(aE=ww ay)→(bI I S y s)→(bJ (y.foot S) Y (y.foot S) I)→(s.ready=some r')→(z6 s ay)→(r'.length+500*ay.length≤500+500*xs.length)→(xs.foldl lS st=ay.foldl lS s)→(O=[⟨"self",.loc,some (.val (.ref S))⟩,⟨"nodes",.loc,some (.tup (ww xs))⟩,⟨"n2i",.loc,some (.val (.ref y.N))⟩,⟨"node",.loc,bU⟩,⟨"nodeinfo",.loc,bN⟩,⟨"stat",.loc,ee⟩,⟨"successor",.loc,cX⟩,⟨"successor_info",.loc,dF⟩,⟨"_NODE_OUT",.bz,some (.val (.int (-1) 197))⟩,⟨"_NODE_DONE",.bz,some (.val (.int (-2) 200))⟩])→Mm S y st xs Y aE O I
inductive Mp (S:Addr) (y:b3) (xs:List Str) (x:Str) (a:eG) (n:bQ) (s s₂:St) (r':List Str) (Y:B) (aE:List D) (O:XV) (I:B):Prop
 |mk (ay:List Str) (s':St) (kD:List Str) (Al:bQ) (cX dF:Option D):(aE=ww ay)→(bI I S y s')→(bJ (y.foot S) Y (y.foot S) I)→(s'.ready=some kD)→(kD.length+ay.length≤r'.length+n.succ.length)→(n.succ.foldl nR s₂=ay.foldl nR s')→(gf y.as s'.nodes x=some (a,Al))→(Al.succ=n.succ)→(s'.nodes.map (fun x=>x.name)=s.nodes.map (fun x=>x.name))→((∀z∈ay,z∈n.succ))→(O=[⟨"self",.loc,some (.val (.ref S))⟩,⟨"nodes",.loc,some (.tup (ww xs))⟩,⟨"n2i",.loc,some (.val (.ref y.N))⟩,⟨"node",.loc,some (.str x)⟩,⟨"nodeinfo",.loc,some (.val (.ref a.i))⟩,⟨"stat",.loc,some (.int n.np)⟩,⟨"successor",.loc,cX⟩,⟨"successor_info",.loc,dF⟩,⟨"_NODE_OUT",.bz,some (.val (.int (-1) 197))⟩,⟨"_NODE_DONE",.bz,some (.val (.int (-2) 200))⟩])→Mp S y xs x a n s s₂ r' Y aE O I
theorem UK {S:Addr} {y:b3} {st:St} {r:List Str} {xs:List Str} (t:aV c) (h:bI Y S y st) (hr:st.ready=some r) (hx:xs.length≤100) (nH:r.length≤500) (hok:z6 st xs):
 eS c (k+1) (.ref 120) (.val (.ref S)::ww xs) Y (fun d I=>d= .val .none∧bI I S y (xs.foldl lS st)∧bJ (y.foot S) Y (y.foot S) I):=by
 refine eS.fn (st:=ek 6 7) (qual:="TopologicalSorter.done") (dV:=.none) (ps:=[("self",.loc),("nodes",.loc)]) (ls:=[("n2i",.loc),("node",.loc),("nodeinfo",.loc),("stat",.loc),("successor",.loc),("successor_info",.loc)]) (gs:=[("_NODE_OUT",.int (-1) 197),("_NODE_DONE",.int (-2) 200)]) (ds:=[.val (.ref S),.tup (ww xs)]) (t.fn rfl rfl rfl rfl) (by kd_p) (bC (t.glob (by kd_p)) (bC (t.glob (by kd_p)) cI)) rfl (fun pm cd=>lX.VJ (by simp[ww];exact Ev ‹_› (by decide)) (aem pm cd)) ?_;intro bP;replace t:=t.at (L:=bP);generalize c.at bP=c at t⊢
 kst_p
 have hh:=t.hd;obtain⟨R,bE,qm⟩:∃R,y.rs=[R]∧Y R=some (.list (ww r)):=by have:=h.gH;rw[hr]at this;exact this
 have pY:yW y.rs= .val (.ref R):=by refine U bE ?_;rfl
 have qL:∀{O:XV} {I:B} {st':St},bI I S y st'→cy c k O I S "_ready_nodes" (.val (.ref R)):=by
  intro O I st' h';refine ZB pY ?_;exact cy.gH t h'
 refine wE.cons (FM.ifs (b:=false) ((az.cmp (f8.ga (by kd_p) (qL h)) (by kd_p) Rs.isNone).to rfl) (fun h=>(by injection h)) fun J=>wE.nil ?_);refine wE.cons (FM.assign (d:=.val (.ref y.N)) (f8.ga (by kd_p) (cy.fF t h)) (by kd_in) ?_);refine wE.cons (FM.for hh x_ (items:=ww xs) (bF.tup (by kd_p)) (Mm S y st xs Y)
  ⟨xs,st,r,_,_,_,_,_,rfl,h,bJ.refl _ _,hr,hok,by exact nk ‹_› _,rfl,rfl⟩ (fun J J J J=>trivial) ?_ ?_)
 ·intro d rest NE I Go;obtain⟨ay,s,r',bU,bN,ee,cX,dF,bG,hs,ol,wL,Q5,cM,gY,rfl⟩:=Go;obtain _|⟨x,ay⟩:=ay
  ·cases bG
  cases bG;refine Op Q5 fun aH YG=>?_;refine d9 aH fun n M2 GS vQ vt=>?_;refine d9 (hs.dO.find M2) fun a i1 cR fk J=>?_;have hdg:=vM y.as s.nodes x;rw[i1]at hdg;refine bl.name (by kd_in) ?_;refine wE.cons (FM.Pf (d:=.val (.ref a.i)) (f8.UP (by kd_p) (by kd_p) hs.fF hdg) (by kd_in) (fun h=>(by injection h)) fun J=>wE.nil ?_);refine wE.cons (FM.assign (d:=.int n.np) (f8.ga (by kd_p) (cy.np t fk)) (by kd_in) ?_);refine wE.cons (FM.ifs (b:=false) ((az.cmp (by kd_p) (f8.ofInt (by kd_p)) Rs.adH).to (by refine U GS ?_;rfl)) (fun h=>(by injection h)) fun J=>wE.nil ?_);refine wE.cons (FM.pq (.nt (d:=.int (-2)) (f8.ofInt (by kd_p)) ⟨by kd_p,_,gS.np t fk,?_⟩));have h2:=hs.wD i1 (-2);refine wS (By (x:=x) (m:={n with np:= -2}) M2 rfl rfl i1) fun gv hf2 Rx=>?_;have kX:=ol.trans (bJ.put (Y:=I) (y.yC S cR).1 (some (.inst 40 a.d [some (.str n.name),some (.int (-2)),some (.val (.ref a.l))])));have adI:ay.foldl lS (lS s x)=xs.foldl lS st:=by refine U gY ?_;rfl
  have w4:lS s x={n.succ.foldl nR {s with nodes:=eo s.nodes x {n with np:= -2}}with fin:=(n.succ.foldl nR {s with nodes:=eo s.nodes x {n with np:= -2}}).fin+1}:=by unfold lS;exact U M2 rfl
  have Wf:(eo s.nodes x {n with np:= -2}).map (fun x=>x.name)=s.nodes.map (fun x=>x.name):=xX M2 rfl;have GI:=h2.dO.at hf2;generalize oX:({s with nodes:=eo s.nodes x {n with np:= -2}}:St)=s₂ at h2 w4;have ab8:gf y.as s₂.nodes x=some (a,gv):=by refine ZB oX ?_;exact hf2
  have YM:s₂.nodes.map (fun x=>x.name)=s.nodes.map (fun x=>x.name):=by refine ZB oX ?_;exact Wf
  have acr:s₂.ready=some r':=by refine ZB oX ?_;exact wL
  generalize I.put a.i _=ki at h2 kX GI;refine wE.cons (FM.for hh Tp.dg (items:=ww n.succ) (bF.cell (L:=a.l) (l:=ww n.succ) (f8.ga (by kd_p) (cy.succ t GI)) (by refine ZB Rx ?_;exact GI.2.2)) (Mp S y xs x a n s s₂ r' Y)
   ⟨n.succ,s₂,r',gv,_,_,rfl,h2,kX,acr,aI _,rfl,ab8,Rx,YM,fun J h=>h,rfl⟩ ?_ ?_ ?_)
  ·intro _ _ kY Go;obtain⟨_,s',_,Al,_,_,_,dc,_,_,_,_,CU,zb,_⟩:=Go;exact ZB zb ((dc.dO.at CU).2.2)
  ·intro d rest NE kY Go;obtain⟨om,s',kD,Al,cX,dF,bG,dc,uA,xg,Ad,s6,CU,zb,BQ,hsub,rfl⟩:=Go;obtain _|⟨z,om⟩:=om
   ·cases bG
   cases bG;refine bl.name (by kd_in) ?_;obtain⟨m,hm⟩:=J9.mpr (show z∈s'.nodes.map (fun x=>x.name) by refine U BQ ?_;exact vt z (hsub z (.head _)));refine d9 (dc.dO.find hm) fun b IA WO N8 J=>?_;have QE:=vM y.as s'.nodes z;rw[IA]at QE;refine wE.cons (FM.assign (d:=.val (.ref b.i)) (f8.sub (by kd_p) (by kd_p) (Rs.u7 dc.fF QE)) (by kd_in) ?_);refine wE.cons (FM.Df (d₂:=.int 1) (by kd_p) (cy.np t N8) (by kd_p) Rs.acZ (gS.np t N8) ?_);have h4:=dc.wD IA (m.np-1);refine wS (By (x:=z) (m:={m with np:=m.np-1}) hm rfl rfl IA) fun m' Po J=>?_;refine wS (By (x:=x) (m:={m with np:=m.np-1}) hm rfl rfl CU) fun oQ AD LJ=>?_;have Qk:(eo s'.nodes z {m with np:=m.np-1}).map (fun x=>x.name)=s'.nodes.map (fun x=>x.name):=xX hm rfl;have sS:=uA.trans (bJ.put (Y:=kY) (y.yC S WO).1 (some (.inst 40 b.d [some (.str m.name),some (.int (m.np-1)),some (.val (.ref b.l))])));have pA:m'.np=m.np-1:=by
    have e1:=(h4.dO.at Po).1;rw[B.ai]at e1;simp only[Option.some.injEq,iz.inst.injEq,vL,D.int.injEq,true_and,and_true]at e1;exact e1.2.symm
   have NU:=h4.dO.at Po;generalize kY.put b.i _=xA at h4 sS NU;simp only[bW]at Ad cM;have sZ:nR s' z={s' with nodes:=eo s'.nodes z {m with np:=m.np-1},ready:=some (if m.np-1=0 then kD++[z]else kD)}:=by unfold nR;exact U hm (U xg rfl)
   refine wE.cons (FM.ifs (b:=m'.np==0) (az.cmp (f8.ga (by kd_p) (cy.np t NU)) (by kd_p) Rs.PU) (fun h0=>?_) (fun h0=>wE.nil ?_))
   ·rw[pA]at h0;have yu:m.np-1=0:=by simpa using h0
    have aeY:xA R=some (.list (ww kD)):=by
     obtain⟨Pa,g4,mE⟩:∃R,y.rs=[R]∧xA R=some (.list (ww kD)):=by have:=h4.gH;rw[show({s' with nodes:=eo s'.nodes z {m with np:=m.np-1}}:St).ready=some kD from xg]at this;exact this
     rw[bE]at g4;cases g4;exact mE
    refine wE.cons (FM.expr (aF.append (a:=R) (l:=ww kD) (d:=.str z) (f8.ga (by kd_p) (qL h4)) (by kd_p) aeY (by simp[ww];exact YE Ad ‹_› cM hx) ?_));refine wE.nil ?_;refine wE.nil ?_;have h5:=h4.Mi bE xg (kD++[z]);have i9:ww kD++[D.str z]=ww (kD++[z]):=by simp[ww]
    refine U i9 ?_;refine⟨om,nR s' z,kD++[z],oQ,_,_,rfl,?_,sS.trans (bJ.put (y.EW S (by refine U bE ?_;simp)) _),by exact U sZ (U (ak yu) rfl),by simp;exact oZ ‹_›,s6,by refine U sZ ?_;exact AD,LJ.trans zb,by refine U sZ ?_;exact Qk.trans BQ,fun w hw=>hsub w (.tail _ hw),rfl⟩;refine U sZ (U (ak yu) ?_);exact h5
   ·rw[pA]at h0;have yu:¬m.np-1=0:=by simpa using h0
    refine wE.nil ?_;refine⟨om,nR s' z,kD,oQ,_,_,rfl,?_,sS,by exact U sZ (U (Tk yu) rfl),by exact fN ‹_›,s6,by refine U sZ ?_;exact AD,LJ.trans zb,by refine U sZ ?_;exact Qk.trans BQ,fun w hw=>hsub w (.tail _ hw),rfl⟩;refine U sZ (U (Tk yu) ?_);have:({s' with nodes:=eo s'.nodes z {m with np:=m.np-1},ready:=some kD}:St)={s' with nodes:=eo s'.nodes z {m with np:=m.np-1}}:=by exact ZB xg rfl
    exact U this h4
  ·intro NE kY Go;obtain⟨om,s',kD,Al,cX,dF,bG,dc,uA,xg,Ad,s6,CU,zb,BQ,hsub,rfl⟩:=Go;obtain _|⟨z,om⟩:=om
   rotate_left
   ·cases bG
   refine wE.nil ?_;refine wE.cons (FM.Df (d₂:=.int 1) (by kd_p) (cy.fin t dc) (by kd_p) Rs.Gf (gS.attr t dc.inst dc.attrs (sL ..) (se ..) (rO (Jl ..)) (kP ..) (by simp[g_])) ?_);refine wE.nil ?_;have h6:=dc.J_ s'.j_ (s'.fin+1);have hd2:lS s x={s' with fin:=s'.fin+1}:=by refine U w4 (U s6 ?_);rfl
   simp only[bW,g6]at cM Ad;refine⟨ay,lS s x,kD,_,_,_,_,_,rfl,?_,uA.trans (bJ.put (y.yX S) _),by refine U hd2 ?_;exact xg,YG,L6 Ad ‹_› cM,adI.symm,rfl⟩;exact U hd2 h6
 ·intro NE I Go;obtain⟨ay,s,r',bU,bN,ee,cX,dF,bG,hs,ol,wL,Q5,cM,gY,rfl⟩:=Go;obtain _|⟨p,ay⟩:=ay
  rotate_left
  ·cases bG
  refine wE.nil ?_;refine wE.nil ?_;exact U gY ⟨rfl,hs,ol⟩
end
end
section
open PySem.W
section
variable {c:ah} {k:Nat} {O:XV} {Y:B}
theorem f8.abx (cP:Y N=some (.dict l))
 (h:∀o kvs,o.IsDictOf (PySem.strKind c.p c.w) kvs→kvs.map Prod.fst=l.map Prod.fst→f8 c k O (Y.put N (some (.raw o))) e d):f8 c k O Y e d:=by
 intro A V s Z ok r Q E q;refine Op (r.cells N _ cP) fun aH hz=>?_;refine wS aH fun o xz hd=>?_;have hcls:=qa.cls hd;refine aU hd fun kvs hf hk J=>?_;refine h o kvs hf hk A V s Z ok ⟨r.fn,r.top,r.sub,r.vars,fun a cl e=>?_,⟨⟨?_,r.own.1.2⟩,fun n a e=>⟨?_,(r.own.2 n a e).2⟩⟩,r.glob⟩ Q E q
 ·by_cases q:a=N
  ·subst q;rw[B.ai]at e;obtain rfl:=bh e;exact⟨⟨o,xz,rfl,by refine U hcls ?_;simp⟩,hz⟩
  ·rw[B.aa _ _ q]at e;exact r.cells a cl e
 ·exact U (B.aa _ _ (by intro z;have:=r.own.1.1;rw[z,cP]at this;injection this)) r.own.1.1
 ·exact U (B.aa _ _ (by intro z;have:=(r.own.2 n a e).1;rw[z,cP]at this;injection this)) ((r.own.2 n a e).1)
end
end
section
open PySem.W Builtin
noncomputable def rL {α:Type} (n:Nat) (lt:Nat→Nat→Bool):KasT α→Option α
 | .ret a=>some a
 | .ask i j k=>if i<n∧j<n then rL n lt (k (lt i j))else none
theorem GG {α:Type} (n lt i j) (k:Bool→KasT α):rL n lt (.ask i j k)=if i<n∧j<n then rL n lt (k (lt i j))else none:=rfl
theorem MS {α:Type} {lt:Nat→Nat→Bool} {cmp:Nat→Nat→(Bool→Shared→Prop)→Shared→Prop} {Q:α→Shared→Prop} (hc:∀i j C,i<n→j<n→C (lt i j) s→cmp i j C s):∀(t:KasT α) (a:α),rL n lt t=some a→Q a s→t.kasWp cmp Q s
 | .ret _,_,h,q=>by obtain rfl:=bh h;exact q
 | .ask i j k,a,h,q=>by
  rw[GG]at h;split at h
  ·rename_i Dm;exact hc i j _ Dm.1 Dm.2 (MS hc (k (lt i j)) a h q)
  ·injection h
theorem RI {α:Type} {lt lt':Nat→Nat→Bool} (hc:∀i j,i<n→j<n→lt i j=lt' i j):∀(t:KasT α),rL n lt t=rL n lt' t
 | .ret _=>rfl
 | .ask i j k=>by
  rw[GG,GG];by_cases h:i<n∧j<n
  ·refine U (ak h) (U (ak h) (U (hc i j h.1 h.2) ?_));exact RI hc _
  ·exact U (Tk h) (U (Tk h) rfl)
noncomputable def uE (n:Nat) (r:List Nat):Bool:=match rL n (fun i j=>decide (r.getD i 0<r.getD j 0)) (kas_sort n)with
 |some p=>p.toList.map (fun i=>r.getD i 0)==List.range n&&p.toList.all (fun x=>x<n)
 |none=>false
noncomputable def p9:Nat→List (List Nat)
 |0=>[[]]
 |n+1=>(p9 n).flatMap fun l=>(List.range (n+1)).map fun i=>l.insertIdx i n
theorem abz:(p9 2).all (uE 2)=true:=by decide+kernel
theorem SY:(p9 3).all (uE 3)=true:=by decide+kernel
theorem abO:(p9 4).all (uE 4)=true:=by decide+kernel
theorem adU:(p9 5).all (uE 5)=true:=by decide+kernel
theorem V7:(p9 6).all (uE 6)=true:=by decide+kernel
theorem NB:∀n r,r.length=n→r.Nodup→(∀x∈r,x<n)→r∈p9 n
 |0,r,h,_,_=>by refine U (GN.mp h) ?_;exact .head _
 |n+1,r,h,hd,hb=>by
  have M2:n∈r:=by
   refine Classical.byContradiction fun M2=>?_;have bM:∀x∈r,x∈List.range n:=fun x hx=>by
    have:=hb x hx;rw[ru];exact CZ (zX (hb x hx)) (by rintro rfl;exact M2 hx)
   have:=Ox hd bM;rw[h,EU]at this;exact yG _ ‹_›
  refine fL (List.append_of_mem M2) fun a b s4=>?_;subst s4;have hd2:=hd;rw[kq]at hd;refine b5 hd fun pX mO C2=>?_;rw[dm]at mO;have Yg:n∉a:=fun h=>C2 n h n (.head _) rfl;have r_:(a++b)∈p9 n:=by
   refine NB n (a++b) (by simp at h⊢;exact cQ Nat.pred ‹_›) ?_ fun x hx=>?_
   ·rw[kq];exact⟨pX,mO.2,fun x hx y No=>C2 x hx y (.tail _ No)⟩
   ·have iC:x∈a++n::b:=by
     obtain h|h:=b_.mp hx
     ·exact iX _ h
     ·exact m5 _ (.tail _ h)
    have h1:=hb x iC;refine CZ (zX h1) ?_;rintro rfl;obtain h|h:=b_.mp hx
    ·exact Yg h
    ·exact mO.1 h
  refine z5.mpr ⟨a++b,r_,ao.mpr ⟨a.length,?_,?_⟩⟩
  ·rw[ru];simp at h;exact I4 (Ev (bX ..) (bT (AY h)))
  ·have:∀(a b:List Nat),(a++b).insertIdx a.length n=a++n::b:=by
    intro a
    induction a with
    |nil=>intro b;simp
    |cons x a ih=>intro b;simp[ih b]
   exact this a b
end
section
open PySem.W Builtin
section
variable {α:Type} {lt:α→α→Bool}
noncomputable def k9 (lt:α→α→Bool) (S:List α) (x:α):Nat:=(S.filter fun y=>lt y x).length
set_option tactic.hygienic true in theorem IG (rY:∀x,lt x x=false) (sW:∀x y,lt x y=true→lt y x=false):∀{S:List α},S.Pairwise (fun x y=>lt x y=true)→∀{m:Nat} {x:α},S[m]?=some x→k9 lt S x=m
 |[],_,m,x,h=>by simp at h
 |a::S,hp,m,x,h=>by
  rw[yS]at hp
  induction m with
  |zero=>
   simp at h;subst h;unfold k9;have:(a::S).filter (fun y=>lt y a)=[]:=by
    rw[xB];intro y No;refine bD No ?_ fun No=>?_
    ·rw[rY];simp
    ·refine U (sW a y (hp.1 y No)) ?_;simp
   refine U this ?_;rfl
  |succ m=>
   have hx:S[m]?=some x:=by simpa using h
   have ih:=IG rY sW hp.2 hx;have hm:x∈S:=uy hx;unfold k9 at ih⊢;exact U je (U (ak (hp.1 x hm)) (U bW (U ih rfl)))
theorem acv (rY:∀x,lt x x=false) (sW:∀x y,lt x y=true→lt y x=false) {S:List α} (hs:S.Pairwise (fun x y=>lt x y=true)):S.map (k9 lt S)=List.range S.length:=by
 apply List.ext_getElem?;intro m;rw[kF]
 induction q:S[m]? with
 |none=>
  have:=mu.mp q;symm;simp[this]
 |some x=>
  refine aP (k8.mp q) fun hm J=>?_;rw[Cb,IG rY sW hs q];simp[hm]
theorem Vb (h2:2≤n) (h6:n≤6) (hr:r∈p9 n):uE n r=true:=by
 have:n=2∨n=3∨n=4∨n=5∨n=6:=(show∀n<7,2≤n→n=2∨n=3∨n=4∨n=5∨n=6 by decide) n (I4 h6) h2;obtain rfl|rfl|rfl|rfl|rfl:=this
 ·exact j8.mp abz r hr
 ·exact j8.mp SY r hr
 ·exact j8.mp abO r hr
 ·exact j8.mp adU r hr
 ·exact j8.mp V7 r hr
set_option tactic.hygienic true in theorem Ze (rY:∀x,lt x x=false) (sW:∀x y,lt x y=true→lt y x=false) (hp:S.Perm ks) (hs:S.Pairwise (fun x y=>lt x y=true)) (h2:2≤ks.length) (h6:ks.length≤6):
 ∃p:Array Nat,rL ks.length (fun i j=>lt (ks.getD i d) (ks.getD j d)) (kas_sort ks.length)=some p∧p.toList.map (fun i=>ks.getD i d)=S∧∀i∈p.toList,i<ks.length:=by
 have cM:=hp.length_eq;have hall:=acv rY sW hs;have M0:(ks.map (k9 lt S)).Perm (List.range ks.length):=by
  refine ZB cM (ZB hall ?_);exact(hp.map _).symm
 have hmem:ks.map (k9 lt S)∈p9 ks.length:=NB _ _ (by simp) (M0.nodup_iff.mpr List.nodup_range) fun x hx=>ru.mp (M0.mem_iff.mp hx);have hok:=Vb h2 h6 hmem;have at_:∀i,i<ks.length→S[(ks.map (k9 lt S)).getD i 0]?=some (ks.getD i d)∧(ks.map (k9 lt S)).getD i 0=k9 lt S (ks.getD i d):=fun i hi=>by
  have e:(ks.map (k9 lt S)).getD i 0=k9 lt S (ks.getD i d):=by simp[hi]
  have hx:ks.getD i d∈S:=by
   rw[hp.mem_iff];simp[hi]
  refine aP (List.mem_iff_getElem?.mp hx) fun m hm=>?_;refine⟨?_,e⟩;refine U e (U (IG rY sW hs hm) ?_);exact hm
 have bM:∀i j,i<ks.length→j<ks.length→lt (ks.getD i d) (ks.getD j d)=decide ((ks.map (k9 lt S)).getD i 0<(ks.map (k9 lt S)).getD j 0):=fun i j hi ff=>by
  refine Op (at_ i hi) fun a1 J=>?_;refine Op (at_ j ff) fun b1 J=>?_;generalize(ks.map (k9 lt S)).getD i 0=a at a1;generalize(ks.map (k9 lt S)).getD j 0=b at b1;refine aP (k8.mp a1) fun ha i9=>?_;refine aP (k8.mp b1) fun hb zF=>?_;refine ZB i9 (ZB zF ?_);rw[NG]at hs;obtain h|h|h:=Nat.lt_trichotomy a b
  ·refine U (hs a b ha hb h) ?_;simp[h]
  ·subst h;rw[rY];simp
  ·refine U (sW _ _ (hs b a hb ha h)) ?_;simp;exact fN ‹_›
 unfold uE at hok;rw[RI bM];split at hok
 ·rename_i p ZL;rw[kW]at hok;refine Op hok fun h1 h3=>?_;have h1:=eq_of_beq h1;have hb:∀i∈p.toList,i<ks.length:=fun i hi=>by simpa using j8.mp h3 i hi
  refine gg p ZL ?_ hb;apply List.ext_getElem?;intro m;rw[kF];have hm:=cQ (fun l=>l[m]?) h1;rw[kF]at hm
  induction q:p.toList[m]? with
  |none=>
   rw[q]at hm;symm;rw[Sj]at hm⊢;rw[mu,cM];have:=mu.mp hm.symm;simpa using this
  |some i=>
   rw[q,Cb]at hm;refine aP (k8.mp hm.symm) fun tu qZ=>?_;rw[List.getElem_range]at qZ;refine Op (at_ i (hb i (uy q))) fun a1 J=>?_;rw[←qZ]at a1;rw[Cb,a1]
 ·injection hok
end
end
section
open PySem.W Builtin
section
variable {prog:Program} {w:World} {A:Around} {E:Value→Shared→Prop} {s:Shared} {a:Addr} {H:List Value} {n:Nat}
noncomputable def JV (a:Addr) (h h':Heap):Prop:=h.objs.size≤h'.objs.size∧∀b o,b≠a→h.get? b=some o→h'.get? b=some o
noncomputable def zo (a:Addr) (e1:Nat) (out:List Value) (C:Shared→Prop) (s:Shared):Prop:=
 s.heap.get? a=some (seqObj "list" #[] e1)∧∀h' c,JV a s.heap h'→h'.get? a=some (seqObj "list" (List.toArray out) c)→C {s with heap:=h'}
theorem Zg (xz:s.heap.get? a=some (seqObj "list" H.toArray n)) (h2:2≤H.length) (Jb:H.length<64)
 (h:∀e1 h',JV a s.heap h'→h'.get? a=some (seqObj "list" #[] e1)→
  wpAny (model prog w) A (keyKind' H.toArray) (fun κ s'=>(kas_sort H.length).kasWp (kas_ask prog w A κ H) (fun p s''=>zo a e1 (p.toList.map fun i=>H.getD i Value.none) (fun s3=>P (.done (.ret .none)) s3) s'') s') (fun J J=>False) {s with heap:=h'}):
 wpAny (model prog w) A (Builtin.«list.sort» ⟨[.ref a],[]⟩) P E s:=by
 have ha:a<s.heap.objs.size:=cJ xz;have s1:=nh s.heap a (Obj.mapSeq fun J=>(#[]:Array Value));obtain⟨e1,zA⟩:∃e1,(s.heap.update a (Obj.mapSeq fun J=>(#[]:Array Value))).get? a=some (seqObj "list" #[] e1):=⟨_,Dh xz fun J=>#[]⟩;have ask:=h e1 (((s.heap.update a (Obj.mapSeq fun J=>(#[]:Array Value))).push (seqObj "tuple" H.toArray 0)).push (seqObj "list" #[] 0))
  ⟨by rw[eX,eX,s1.1];lia,fun b o hb e=>bY _ (bY _ ((s1.2 b hb).trans e))⟩ (bY _ (bY _ zA))
 rw[list_sort_plain];refine u8 (listItems_at xz rfl ?_);refine u8 (BY xz rfl ?_ (by refine U jL (U cV ?_);exact Ev (g9 ‹_›) (by decide)) (fz _));refine u8 (seqEpoch_at zA rfl ?_);refine u8 (x7 ?_ (by show H.length≤_;refine U cV ?_;exact Ev (g9 ‹_›) (by decide)));refine u8 (BJ ?_ (fz _));refine b4 ?_;show wpAny (model prog w) A _ P E {s with heap:=((s.heap.update a (Obj.mapSeq fun J=>(#[]:Array Value))).push (seqObj "tuple" H.toArray 0)).push (seqObj "list" #[] 0)};dsimp only;have pS:¬H.toArray.size<2:=by refine U jL ?_;lia
 refine U (Tk pS) (U (Tk pS) ?_);refine u8 (d8 ask (fun κ s0 hk=>?_) fun J J x=>x.elim);refine u8 (d8 (kat_run (Q:=fun st' s'=>∃p:Array Nat,p.size=H.length∧arrOf st'=p.map (kas_item (H.toArray.zip H.toArray))∧failedOf st'=none∧zo a e1 (p.toList.map fun i=>H.getD i Value.none) (fun s''=>P (.done (.ret .none)) s'') s')
  rfl h2 Jb (fun c_ st' s' a1 a2 iP iQ=>⟨c_,a1,a2,iP,iQ⟩) hk) ?_ fun J J e=>e)
 intro Go s' vm;obtain⟨⟨⟩,st'⟩:=Go;refine Gl vm fun p hp Yh hf na k=>?_;dsimp only;have hout:=kat_snds rfl Yh;have hsz:(List.toArray (p.toList.map fun i=>H.getD i Value.none)).size=H.length:=by rw[jL,cj,gP,hp]
 refine U hout ?_;have s2:=nh s'.heap a (Obj.mapSeq fun J=>List.toArray (p.toList.map fun i=>H.getD i Value.none));obtain⟨kM,HY⟩:∃kM,(s'.heap.update a (Obj.mapSeq fun J=>List.toArray (p.toList.map fun i=>H.getD i Value.none))).get? a=some (seqObj "list" (List.toArray (p.toList.map fun i=>H.getD i Value.none)) kM):=⟨_,Dh na fun J=>List.toArray (p.toList.map fun i=>H.getD i Value.none)⟩;refine u8 (seqEpoch_at na rfl ?_);refine u8 (BY na rfl ?_ (fz _) (Ev (bT hsz) (by refine U cV ?_;exact Ev (g9 ‹_›) (by decide))));refine U hf ?_;simp only[I1,j3,jA];exact On (k _ kM ⟨bT s2.1.symm,fun b o hb e=>(s2.2 b hb).trans e⟩ HY)
theorem aeJ (hl:s.heap.IsList l H.toArray) (h2:2≤H.length) (Jb:H.length<64)
 (h:∀D e1 h',s.heap.objs.size≤D→s.heap.objs.size≤h'.objs.size→(∀b o,s.heap.get? b=some o→h'.get? b=some o)→h'.get? D=some (seqObj "list" #[] e1)→
  wpAny (model prog w) A.in1.in1 (keyKind' H.toArray) (fun κ s'=>(kas_sort H.length).kasWp (kas_ask prog w A.in1.in1 κ H) (fun p s''=>zo D e1 (p.toList.map fun i=>H.getD i Value.none) (fun s3=>Q (.ref D) s3) s'') s') (fun J J=>False) {s with heap:=h'}):
 wpAny (model prog w) A (call (.builtin "sorted") [.ref l]) Q E s:=by
 refine Calls.call_function_entry kind_sorted plain_sorted entry_sorted (args_sorted1 _) ?_;unfold Builtin.«sorted»;refine u8 (m:=checkCount "sorted" 1 1 _) (On ?_);refine u8 (collect_list hl ?_ (by refine U cV ?_;exact Ev (g9 ‹_›) (by decide)));refine u8 (BJ ?_ (by refine U cV ?_;exact Ev (g9 ‹_›) (by decide)));have hsz:((s.heap.push (seqObj "list" #[] 0)).update s.heap.objs.size (Obj.mapSeq (fun x=>x++H.toArray))).objs.size=s.heap.objs.size+1:=by
  rw[Heap.size_update,size_push']
 have qD:(((s.heap.push (seqObj "list" #[] 0)).update s.heap.objs.size (Obj.mapSeq (fun x=>x++H.toArray))).push (seqObj "list" H.toArray 0)).get? (s.heap.objs.size+1)=some (seqObj "list" H.toArray 0):=by
  refine ZB hsz ?_;exact d7 _ rfl
 have keep:∀b o,s.heap.get? b=some o→(((s.heap.push (seqObj "list" #[] 0)).update s.heap.objs.size (Obj.mapSeq (fun x=>x++H.toArray))).push (seqObj "list" H.toArray 0)).get? b=some o:=fun b o q=>by
  have bM:b<s.heap.objs.size:=cJ q;rw[CK _ _ _ (by refine U hsz ?_;exact fE (vR bM)),Heap.get?_update_ne _ _ _ _ (fE bM),CK _ _ _ (fE bM)];exact q
 have s8:(((s.heap.push (seqObj "list" #[] 0)).update s.heap.objs.size (Obj.mapSeq (fun x=>x++H.toArray))).push (seqObj "list" H.toArray 0)).objs.size=s.heap.objs.size+2:=by rw[eX,hsz]
 show wpAny _ _ _ _ _ {s with heap:=((s.heap.push (seqObj "list" #[] 0)).update s.heap.objs.size (Obj.mapSeq (fun x=>x++H.toArray))).push (seqObj "list" H.toArray 0)};refine U hsz ?_;refine u8 (b4 (lY slot_list_sort ⟨_,qD,rfl⟩ entry_list_sort ?body (args_list_sort _)))
 case body=>
  refine Zg (s:={s with heap:=((s.heap.push (seqObj "list" #[] 0)).update s.heap.objs.size (Obj.mapSeq (fun x=>x++H.toArray))).push (seqObj "list" H.toArray 0)}) qD h2 Jb fun e1 h' hk fH=>?_;refine d8 (h _ e1 h' (b9 _) (Ev (by refine U s8 ?_;exact bX _ _) hk.1) (fun b o e=>hk.2 b o (fE (vR (cJ e))) (keep b o e)) fH) (fun κ s' hk=>?_) fun J J x=>x;rw[kat_ask_eq rfl]at hk⊢;exact kas_wp_mono hk fun p s'' hk'=>⟨hk'.1,fun h3 c g4 mE=>⟨_,rfl,On ⟨_,rfl,hk'.2 h3 c g4 mE⟩⟩⟩
end
end
section
open PySem.W Builtin
noncomputable def iY (p q:Int×Int):Bool:=decide (p.1<q.1)||(p.1==q.1&&decide (p.2<q.2))
theorem IC (x):iY x x=false:=by unfold iY;simp
set_option tactic.hygienic true in theorem afX (x y) (h:iY x y=true):iY y x=false:=by
 unfold iY at h⊢;simp only[o5,kW,sV,lR,Bool.or_eq_false_iff,Bool.and_eq_false_iff,decide_eq_false_iff_not]at h⊢;constructor
 ·lia
 ·obtain h|h:=h
  ·left;simp;lia
  ·right;lia
section
variable {prog:Program} {w:World} {A:Around} {s:Shared}
theorem Vl (hx:s.heap.get? x=some {cls:=.type "tuple",data:=.seq #[.int a t1,.int b fM] n}) (No:s.heap.get? y=some {cls:=.type "tuple",data:=.seq #[.int jx t3,.int b' t4] m})
 (h:Q (iY (a,b) (jx,b')) s):wpAny (model prog w) A (keyLt' (tuples' true) (.ref x) (.ref y)) Q E s:=by
 refine kat_lt hx rfl No rfl ?_;refine kat_cons (wpAny_eqBool_int (kat_go (fun e=>?_) (fun e=>?_)))
 ·rw[show a=jx by simpa using e]at h;refine kat_yes (kat_cons (wpAny_eqBool_int (kat_go (fun e2=>?_) (fun e2=>?_))))
  ·rw[show b=b' by simpa using e2]at h;rw[IC]at h;exact kat_yes (kat_nil h)
  ·refine kat_no (kat_one _ _ ?_);have:iY (jx,b) (jx,b')=decide (b<b'):=by unfold iY;simp
   rw[this]at h;exact wpAny_lt_int h
 ·refine kat_no ?_;have:iY (a,b) (jx,b')=decide (a<jx):=by
   have:(a==jx)=false:=e;unfold iY;simp[this]
  rw[this]at h;exact oneLt_int h
end
noncomputable def gU (p:Int×Int):D:=.tup [.int p.1,.int p.2]
set_option tactic.hygienic true in theorem CV:∀{H:List Value} {ks:List (Int×Int)},au Z H (ks.map gU)→∀(i:Nat) (p:Int×Int),ks[i]?=some p→∃(x:Addr) (t1 fM:Tok) (n:Nat),H[i]?=some (Value.ref x)∧Z x=some {cls:=.type "tuple",data:=.seq #[.int p.1 t1,.int p.2 fM] n}
 |_,[],_,i,p,h=>by simp at h
 |[],_::_,h,_,_,_=>by cases h
 |v::H,q::ks,h,i,p,hp=>by
  change au Z (v::H) (gU q::ks.map gU)at h;cases h with
  |cons h1 h2=>
  obtain _|i:=i
  ·simp at hp;subst hp;unfold gU at h1;cases h1 with
   | @tup a arr n _ hz FS=>
   generalize hl:arr.toList=l at FS;cases FS with
   |cons a1 Y7=>
   cases Y7 with
   |cons a2 Hp=>
   cases Hp;cases a1;cases a2;rename_i t1 fM;have:arr=#[.int q.1 t1,.int q.2 fM]:=HG.mp hl;subst this;exact O9 a t1 fM n rfl hz
  ·refine BK (CV h2 i p (by simpa using hp)) fun x t1 fM n e r=>?_;exact O9 x t1 fM n (by simpa using e) r
theorem Lg (hz:∀a o,Z a=some o→h.get? a=some o):∀{H:List Value} {ks:List (Int×Int)},au Z H (ks.map gU)→∃fs,KatTups h H fs∧fs.length=ks.length∧∀v∈fs,∃i t,v=Value.int i t
 |[],[],_=>⟨[],.nil,rfl,fun v s5=>nomatch s5⟩
 |[],_::_,h=>by cases h
 |_::_,[],h=>by cases h
 |v::H,q::ks,h=>by
  refine BK (CV h 0 q rfl) fun x t1 fM n e r=>?_;change au Z (v::H) (gU q::ks.map gU)at h;cases h with
  |cons h1 h2=>
  refine aU (Lg hz h2) fun fs i1 cR fk=>?_;simp at e;subst e;refine gg (.int q.1 t1::fs) (.cons (hz _ _ r) rfl rfl rfl i1) (by simp[cR]) (fun v s5=>?_);refine bD s5 ?_ fun s5=>?_
  ·exact⟨_,_,rfl⟩
  ·exact fk v s5
section
variable {c:ah} {k:Nat} {O:XV} {Y:B}
theorem Lm {Z:TW} {H:List Value} {ks:List (Int×Int)} (h:au Z H (ks.map gU)):∀(q:List Nat),(∀i∈q,i<ks.length)→au Z (q.map fun i=>H.getD i Value.none) ((q.map fun i=>ks.getD i ((0:Int),(0:Int))).map gU)
 |[],_=>.nil
 |i::q,Ch=>by
  have hi:=Ch i (.head _);refine wS (h.get (i:=i) (d:=gU (ks.getD i ((0:Int),(0:Int)))) (by simp[hi])) fun v s5 tv=>?_;have e:H.getD i Value.none=v:=by rw[iM,s5];rfl
  refine .cons ?_ (Lm h q fun j ff=>Ch j (.tail _ ff));show aR Z (H.getD i Value.none) _;exact U e tv
theorem b8.abe {d:D} {ks S:List (Int×Int)} (hs:aL c O Y d (ks.map gU)) (hp:S.Perm ks) (hS:S.Pairwise (fun x y=>iY x y=true)) (h2:2≤ks.length) (h6:ks.length≤6):b8 c k O Y (.builtin "sorted") [d] (.list (S.map gU)):=by
 intro A V s Z H ok r h Q E g;refine wS (iN h) fun v s4 s5=>?_;subst s4;refine dW (hs _ V Z v r s5) fun a its n s4 hg FS=>?_;subst s4;have cM:its.toList.length=ks.length:=by rw[FS.length,cj]
 refine aU (Ze IC afX (d:=((0:Int),(0:Int))) hp hS h2 h6) fun p ac9 Wl hb=>?_;refine aeJ (H:=its.toList) ⟨_,hg,rfl,n,by exact U AE rfl⟩ (by exact lQ ‹_› (uw ‹_›)) (f9 (bT cM) (f9 h6 (by decide))) fun D e1 h' fH hsz keep jG=>?_;have hz:∀a o,Z a=some o→h'.get? a=some o:=fun a o e=>keep a o (r.sub.get e);refine aU (Lg hz FS) fun fs kt hfl UX=>?_;refine kat_kind (s:={s with heap:=h'}) (T:=.type "int") kt (fU (show 0<2 by decide) (Ev h2 (bT hfl.symm))) (fun v s5=>?_) (by decide) ?_
 ·refine fL (UX v s5) fun i t s4=>?_;subst s4;exact qJ rfl
 refine U cM ?_;refine MS (fun i j C hi ff jw=>?_) (kas_sort ks.length) p ac9 ?_
 ·refine BK (CV FS i (ks.getD i ((0:Int),(0:Int))) (by simp[hi])) fun x t1 fM n1 e1 mU=>?_;refine BK (CV FS j (ks.getD j ((0:Int),(0:Int))) (by simp[ff])) fun y t3 t4 b6 e2 vP=>?_;unfold kas_ask;rw[iM,iM,e1,e2];exact Vl (hz _ _ mU) (hz _ _ vP) jw
 ·refine⟨jG,fun h3 n7 g4 mE=>?_⟩;have st:aD c s Z {s with heap:=h3} Z:=by
   have k3:∀b o,s.heap.get? b=some o→h3.get? b=some o:=fun b o e=>g4.2 b o (by rintro rfl;exact absurd (cJ e) (eL.mpr fH)) (keep b o e);exact⟨⟨Ev hsz g4.1,fun b o e=>⟨o,k3 b o e,.refl _⟩⟩,fun b o e=>k3 b o (r.top b o e),.refl ..,fun b o e=>⟨k3 b o (r.sub.get e),(r.sub b o e).2⟩,aI _,⟨_,_,rfl⟩⟩
  have z7:Z D=none:=gR r.sub fH;refine g _ _ _ (st.DA fH z7 mE (by simp)) (.list (TW.ai ..) ?_);have:=Lm FS p.toList hb;rw[Wl]at this;exact this.mono (TW.tC z7)
end
end
section
open PySem.W Builtin
section
variable {prog:Program} {w:World} {A:Around} {E:Value→Shared→Prop} {s:Shared} {a:Addr} {H:List Value} {n:Nat}
theorem Tc (xs:Array Value):(xs.zip xs).map Prod.snd=xs:=by
 apply Array.ext
 ·simp
 ·intro i h1 h2;simp
theorem Y6 (xz:s.heap.get? a=some (seqObj "list" H.toArray n)) (h2:H.length<2)
 (h:∀e1 h',JV a s.heap h'→h'.get? a=some (seqObj "list" #[] e1)→zo a e1 H (fun s3=>P (.done (.ret .none)) s3) {s with heap:=h'}):
 wpAny (model prog w) A (Builtin.«list.sort» ⟨[.ref a],[]⟩) P E s:=by
 have ha:a<s.heap.objs.size:=cJ xz;have s1:=nh s.heap a (Obj.mapSeq fun J=>(#[]:Array Value));obtain⟨e1,zA⟩:∃e1,(s.heap.update a (Obj.mapSeq fun J=>(#[]:Array Value))).get? a=some (seqObj "list" #[] e1):=⟨_,Dh xz fun J=>#[]⟩;have ask:=h e1 (((s.heap.update a (Obj.mapSeq fun J=>(#[]:Array Value))).push (seqObj "tuple" H.toArray 0)).push (seqObj "list" #[] 0))
  ⟨by rw[eX,eX,s1.1];lia,fun b o hb e=>bY _ (bY _ ((s1.2 b hb).trans e))⟩ (bY _ (bY _ zA))
 rw[list_sort_plain];refine u8 (listItems_at xz rfl ?_);refine u8 (BY xz rfl ?_ (by refine U jL (U cV ?_);exact Ev (g9 ‹_›) (by decide)) (fz _));refine u8 (seqEpoch_at zA rfl ?_);refine u8 (x7 ?_ (by show H.length≤_;refine U cV ?_;exact Ev (g9 ‹_›) (by decide)));refine u8 (BJ ?_ (fz _));refine b4 ?_;show wpAny (model prog w) A _ P E {s with heap:=((s.heap.update a (Obj.mapSeq fun J=>(#[]:Array Value))).push (seqObj "tuple" H.toArray 0)).push (seqObj "list" #[] 0)};dsimp only;have pS:H.toArray.size<2:=by refine U jL ?_;assumption
 refine U (ak pS) (U (ak pS) ?_);refine Op ask fun na k=>?_;have s2:=nh (((s.heap.update a (Obj.mapSeq fun J=>(#[]:Array Value))).push (seqObj "tuple" H.toArray 0)).push (seqObj "list" #[] 0)) a (Obj.mapSeq fun J=>H.toArray);obtain⟨kM,HY⟩:∃kM,((((s.heap.update a (Obj.mapSeq fun J=>(#[]:Array Value))).push (seqObj "tuple" H.toArray 0)).push (seqObj "list" #[] 0)).update a (Obj.mapSeq fun J=>H.toArray)).get? a=some (seqObj "list" H.toArray kM):=⟨_,Dh na fun J=>H.toArray⟩;refine u8 (On ?_);refine u8 (On ?_);dsimp only;show wpAny (model prog w) A (do
  let touched:=(←seqEpoch a) !=e1
  Builtin.List.listUpdate (.ref a) fun J=>(H.toArray.zip H.toArray).map Prod.snd
  if touched then rule "list.sort.modified";raiseError "ValueError" "list modified during sort"
  ret .none) P E _
 rw[Tc];refine u8 (seqEpoch_at na rfl ?_);refine u8 (BY na rfl ?_ (fz _) (by refine U jL (U cV ?_);exact Ev (g9 ‹_›) (by decide)));simp only[I1,j3,jA];exact On (k _ kM ⟨bT s2.1.symm,fun b o hb e=>(s2.2 b hb).trans e⟩ HY)
theorem aeL (hl:s.heap.IsList l H.toArray) (h2:H.length<2)
 (h:∀D e1 h',s.heap.objs.size≤D→s.heap.objs.size≤h'.objs.size→(∀b o,s.heap.get? b=some o→h'.get? b=some o)→h'.get? D=some (seqObj "list" #[] e1)→
  zo D e1 H (fun s3=>Q (.ref D) s3) {s with heap:=h'}):
 wpAny (model prog w) A (call (.builtin "sorted") [.ref l]) Q E s:=by
 refine Calls.call_function_entry kind_sorted plain_sorted entry_sorted (args_sorted1 _) ?_;unfold Builtin.«sorted»;refine u8 (m:=checkCount "sorted" 1 1 _) (On ?_);refine u8 (collect_list hl ?_ (by refine U cV ?_;exact Ev (g9 ‹_›) (by decide)));refine u8 (BJ ?_ (by refine U cV ?_;exact Ev (g9 ‹_›) (by decide)));have hsz:((s.heap.push (seqObj "list" #[] 0)).update s.heap.objs.size (Obj.mapSeq (fun x=>x++H.toArray))).objs.size=s.heap.objs.size+1:=by
  rw[Heap.size_update,size_push']
 have qD:(((s.heap.push (seqObj "list" #[] 0)).update s.heap.objs.size (Obj.mapSeq (fun x=>x++H.toArray))).push (seqObj "list" H.toArray 0)).get? (s.heap.objs.size+1)=some (seqObj "list" H.toArray 0):=by
  refine ZB hsz ?_;exact d7 _ rfl
 have keep:∀b o,s.heap.get? b=some o→(((s.heap.push (seqObj "list" #[] 0)).update s.heap.objs.size (Obj.mapSeq (fun x=>x++H.toArray))).push (seqObj "list" H.toArray 0)).get? b=some o:=fun b o q=>by
  have bM:b<s.heap.objs.size:=cJ q;rw[CK _ _ _ (by refine U hsz ?_;exact fE (vR bM)),Heap.get?_update_ne _ _ _ _ (fE bM),CK _ _ _ (fE bM)];exact q
 have s8:(((s.heap.push (seqObj "list" #[] 0)).update s.heap.objs.size (Obj.mapSeq (fun x=>x++H.toArray))).push (seqObj "list" H.toArray 0)).objs.size=s.heap.objs.size+2:=by rw[eX,hsz]
 show wpAny _ _ _ _ _ {s with heap:=((s.heap.push (seqObj "list" #[] 0)).update s.heap.objs.size (Obj.mapSeq (fun x=>x++H.toArray))).push (seqObj "list" H.toArray 0)};refine U hsz ?_;refine u8 (b4 (lY slot_list_sort ⟨_,qD,rfl⟩ entry_list_sort ?body (args_list_sort _)))
 case body=>
  refine Y6 (s:={s with heap:=((s.heap.push (seqObj "list" #[] 0)).update s.heap.objs.size (Obj.mapSeq (fun x=>x++H.toArray))).push (seqObj "list" H.toArray 0)}) qD h2 fun e1 h' hk fH=>?_;have hk':=h _ e1 h' (b9 _) (Ev (by refine U s8 ?_;exact bX _ _) hk.1) (fun b o e=>hk.2 b o (fE (vR (cJ e))) (keep b o e)) fH;exact⟨hk'.1,fun h3 c g4 mE=>⟨_,rfl,On ⟨_,rfl,hk'.2 h3 c g4 mE⟩⟩⟩
end
section
variable {c:ah} {k:Nat} {O:XV} {Y:B}
theorem b8.XW (hs:aL c O Y d l) (h2:l.length<2):b8 c k O Y (.builtin "sorted") [d] (.list l):=by
 intro A V s Z H ok r h Q E g;refine wS (iN h) fun v s4 s5=>?_;subst s4;refine dW (hs _ V Z v r s5) fun a its n s4 hg FS=>?_;subst s4;have cM:its.toList.length=l.length:=by exact U FS.length rfl
 refine aeL (H:=its.toList) ⟨_,hg,rfl,n,by exact U AE rfl⟩ (by exact f9 (bT ‹_›) ‹_›) fun D e1 h' fH hsz keep jG=>?_;refine⟨jG,fun h3 n7 g4 mE=>?_⟩;have st:aD c s Z {s with heap:=h3} Z:=by
  have k3:∀b o,s.heap.get? b=some o→h3.get? b=some o:=fun b o e=>g4.2 b o (by rintro rfl;exact absurd (cJ e) (eL.mpr fH)) (keep b o e);exact⟨⟨Ev hsz g4.1,fun b o e=>⟨o,k3 b o e,.refl _⟩⟩,fun b o e=>k3 b o (r.top b o e),.refl ..,fun b o e=>⟨k3 b o (r.sub.get e),(r.sub b o e).2⟩,aI _,⟨_,_,rfl⟩⟩
 have z7:Z D=none:=gR r.sub fH;refine g _ _ _ (st.DA fH z7 mE (by simp)) (.list (TW.ai ..) ?_);show au _ its.toList l;exact FS.mono (TW.tC z7)
theorem b8.afe {d:D} {ks S:List (Int×Int)} (hs:aL c O Y d (ks.map gU)) (hp:S.Perm ks) (hS:S.Pairwise (fun x y=>iY x y=true)) (h6:ks.length≤6):b8 c k O Y (.builtin "sorted") [d] (.list (S.map gU)):=by
 by_cases h2:2≤ks.length
 ·exact b8.abe hs hp hS h2 h6
 ·have e:S=ks:=by
   have hl:=hp.length_eq;obtain _|⟨x,_|⟨y,r⟩⟩:=S
   ·exact(List.eq_nil_of_length_eq_zero hl.symm).symm
   ·exact(List.perm_singleton.mp hp.symm).symm
   ·rw[←hl]at h2;exact absurd (Dj 2 r.length) h2
  subst e;exact b8.XW hs (by rw[cj];exact Nat.lt_of_not_le ‹_›)
end
end
section
open PySem.W
noncomputable def gT (c:ah) (k:Nat) (O:XV) (Y:B) (e:Expr) (aX:Bool→B→Prop):Prop:=
 ∀(A:Around) (V:Env) (s:Shared) (Z:TW),Ok c k A s→bB c Z s.heap V O Y→∀(Q:Bool→Shared→Prop) (E:Value→Shared→Prop),
  (∀b I s' Z',aO c Y s Z I s' Z'→aX b I→Q b s')→wpAny c.M A (isTrue e V (eval e V)) Q E s
section
variable {c:ah} {k:Nat} {O:XV} {Y:B} {Sc:fD→Prop}
theorem gT.pt (h:az c k O Y e b) (Ch:aX b Y):gT c k O Y e aX:=fun A V s Z ok r Q E q=>h A V s Z ok r Q E fun s' Z' t=>q b Y s' Z' (t.after r) Ch
theorem gT.cmp (hl:aF c k O Y l fun d₁ I=>∃d₂ b,f8 c k O I r d₂∧Rs c k O I (compareOp op) d₁ d₂ (.val (.bool b))∧aX b I) (hm:behindInMarks op r=false:=by with_unfolding_all rfl):gT c k O Y (.Compare l [op] [r] pos) aX:=
 fun A V s Z ok x Q E h=>Ic (hl A V s Z ok x _ E fun d₁ I bk s₁ aB EQ h₁ afp=>fJ afp fun d₂ b hr xz hp=>hr A V s₁ aB (ok.after EQ) (x.after EQ) _ E fun bL s₂ bA t₂ h₂=>
  xz A V s₂ bA bk bL ((ok.after EQ).step t₂) ((x.after EQ).step t₂) (h₁.mono t₂.le) h₂ (fun v aG=>wpAny c.M A (truthy v) Q E aG) E fun v s' Z' t s5=>by
   refine s5.v ?_;exact yE (h b I s' Z' (EQ.trans ((t₂.trans t).after (x.after EQ))) hp)) hm
theorem gT.or (he:gT c k O Y e fun b I=>b=false∧gT c k O I (.BoolOp .Or es pos) aX):gT c k O Y (.BoolOp .Or (e::es) pos) aX:=by
 intro A V s Z ok x Q E h;show wpAny c.M A (allTrue .Or (e::es) V) Q E s;refine u8 (m:=isTrue e V (eval e V)) (he A V s Z ok x _ E fun b I s' Z' t Zu=>Op Zu fun hb hr=>?_);subst hb;exact hr A V s' Z' (ok.after t) (x.after t) Q E fun b gW s'' eU t'=>h b gW s'' eU (t.trans t')
theorem gT.mono (h:gT c k O Y e aX) (q:∀b I,aX b I→ab0 b I):gT c k O Y e ab0:=fun A V s Z ok x Q E g=>h A V s Z ok x Q E fun b I s' Z' t hp=>g b I s' Z' t (q b I hp)
theorem gT.OV (he:gT c k O Y e fun b I=>b=false∧aX false I):gT c k O Y (.BoolOp .Or [e] pos) aX:=
 .or (he.mono fun b I h=>⟨h.1,.pt .zu h.2⟩)
theorem FM.Ih (FS:gT c k O Y e fun b I=>(b=true→wE c k O I t9 Sc)∧(b=false→wE c k O I uX Sc)):FM c k O Y (.If e t9 uX pos) Sc:=by
 intro A V s base Z ok w Q E q;refine wpAny_If (FS A V s Z ok w.rd _ E fun b I s' Z' t hp=>?_)
 induction b with
 |true=>exact hp.1 rfl A V s' base Z' (ok.after t) (w.after t) Q E (n5.of (c:=c) q t.run)
 |false=>exact hp.2 rfl A V s' base Z' (ok.after t) (w.after t) Q E (n5.of (c:=c) q t.run)
theorem Rs.acU:Rs c k O Y (compareOp .IsNot) (.val (.bool b)) (.val (.bool b)) (.val (.bool false)):=by
 intro A V s Z bk bL ok r h₁ h₂ Q E g;have top:=r.top;have sub:=r.sub;refine h₁.v ?_;refine h₂.v ?_;exact wpAny_isNot_self (by rfl) (kR g top sub (.val _))
theorem Rs.Cv (h:jR d=true) (s:PySem.SeqAt.shaped (pd d)=true):Rs c k O Y (compareOp .NotEq) d d (.val (.bool false)):=by
 have:=Rs.L1 (c:=c) (k:=k) (O:=O) (Y:=Y) h h s s;rw[PySem.SeqAt.eqv_refl _ (Fx s)]at this;exact this
theorem Rs.Tr (h:iH l=true) (s:PySem.SeqAt.shaped (.list (fR l))=true):Rs c k O Y (compareOp .NotEq) (.list l) (.list []) (.val (.bool (!l.isEmpty))):=by
 have:=Rs.L1 (c:=c) (k:=k) (O:=O) (Y:=Y) (d₁:=.list l) (d₂:=.list []) (by rw[DP];exact h) (by decide+kernel) (by rw[wz];exact s) (by decide+kernel);rw[wz,wz,DS]at this;obtain _|⟨x,l⟩:=l
 ·rw[DS]at this;exact this
 ·rw[JN]at this;exact this
end
theorem Nj {α:Type} (g:α→D):∀l:List α,(∀x∈l,jR (g x)=true)→iH (l.map g)=true:=fun k7=>by
 induction k7 with
 |nil=>exact fun J=>by exact U sq (U R2 rfl)
 |cons x l mq=>exact fun h=>by rw[aK,B9,h x (.head _),(mq) fun y No=>h y (.tail _ No)];rfl
theorem Ib (x):jR (pair x)=true:=by rfl
theorem HD (x):pd (pair x)= .tuple [.str x.1,.str x.2]:=by rfl
theorem JO (l:List (Str×Str)):fR (l.map pair)=l.map fun x=>.tuple [.str x.1,.str x.2]:=by rw[X0,cO];exact ve fun x J=>HD x
theorem HN:∀l:List (Str×Str),(∀x∈l,PyData.strOk x.1=true∧PyData.strOk x.2=true)→PyData.canLayAll0 (fR (l.map pair))=true:=by
 intro l h;rw[JO]
 induction l with
 |nil=>rfl
 |cons x l ih=>
  refine Op (h x (.head _)) fun h1 h2=>?_;simp only[aK,PyData.canLayAll0,ih fun y No=>h y (.tail _ No),wH];simp[PyData.canLay0,PyData.canLayAll0,h1,h2]
theorem abi (x y:Str×Str):PyData.eqv (.tuple [.str x.1,.str x.2]) (.tuple [.str y.1,.str y.2])=decide (x=y):=by
 simp only[PyData.eqv,PyData.eqvAll,wH];rw[qb];simp[Prod.ext_iff]
theorem ae7 (x:Str×Str) (l:List (Str×Str)):((fR (l.map pair)).any fun y=>PyData.eqv y (pd (pair x)))=l.contains x:=by
 rw[JO,HD]
 induction l with
 |nil=>rfl
 |cons a l ih=>
  rw[aK,I3,ih,List.contains_cons,abi];congr 1;rw[qb,pG,lR];exact eq_comm
end
section
open PySem.W
noncomputable def kB (last:List Str) (g:Str):List Nat:=(List.range last.length).filter fun k=>cF (last.getD k Str.empty) g
noncomputable def ir (ks last:List Str):Nat→List (Str×Str)→List (Int×Int)
 |_,[]=>[]
 |i,p::r=>if ks.any (fun x=>cF x p.2)then ir ks last (i+1) r else(jD (-1) ((kB last p.2).map fun k:Nat=>(k:Int)),(i:Int))::ir ks last (i+1) r
theorem xF (ks last i p r):ir ks last i (p::r)=if ks.any (fun x=>cF x p.2)then ir ks last (i+1) r else(jD (-1) ((kB last p.2).map fun k:Nat=>(k)),(i))::ir ks last (i+1) r:=rfl
theorem MJ (ks last i):ir ks last i []=[]:=rfl
noncomputable def jb (aA:List (Str×D)) (p:Str×Str):List (Str×D):=match cN aA p.1 with|some v=>fZ (gz aA p.1) p.2 v|none=>aA
noncomputable def BA:List (Str×D)→List (Str×Str)→Prop
 |_,[]=>True
 |aA,p::r=>(cN aA p.1).isSome=true∧BA (jb aA p) r
structure LA (aA:List (Str×D)) (G:List (Str×Str)) (last:List Str):Prop where
 six:G.length≤6
 ok:∀x∈G,(PyData.strOk x.1=true∧PyData.strOk x.2=true)∧x.1.length≤1000∧x.2.length≤1000
 yL:aA.length≤100
 ja:∀x∈aA,x.1.length≤1000
 afF:last.length≤100
 lk:∀x∈last,x.length≤1000
noncomputable def vU:Nat→St→List (Str×D)→List (Str×Str)→List Str→List (Str×Str)→List (Str×D)→Prop
 |0,_,_,_,_,_,_=>False
 |n+1,st,aA,G,last,L,K=>LA aA G last∧∃(T:List (Int×Int)) (af:List (Str×Str)),T.Perm (ir (aA.map Prod.fst) last 0 G)∧T.Pairwise (fun x y=>iY x y=true)∧T.map (fun p=>G[p.2.toNat]?)=af.map some∧
  st.ready=some (af.map Prod.fst)∧(∀x∈af.map Prod.fst,x∈st.nodes.map (fun x=>x.name))∧(decide (st.fin<st.j_)|| !af.isEmpty)= !af.isEmpty∧
  (af=[]→L=G∧K=aA)∧
  (af≠[]→z6 (sA st (af.map Prod.fst)) (af.map Prod.fst)∧BA aA af∧vU n ((af.map Prod.fst).foldl lS (sA st (af.map Prod.fst))) (af.foldl jb aA) (G.filter fun p=>!af.contains p) (af.map Prod.fst) L K)
theorem Ob (n):kQ 0 n=(List.range n).map fun k:Nat=>D.int (k):=by
 have main:∀(n a:Nat),kQ (a:Int) n=(List.range' a n).map fun k:Nat=>D.int (k:Int):=by
  intro n
  induction n with
  |zero=>intro a;rfl
  |succ n ih=>
   intro a;refine U List.range'_succ (U aK (ZB (ih (a+1)) ?_));rfl
 exact U List.range_eq_range' (main n 0)
theorem Cw (ks last):∀G i,(ir ks last i G).length≤G.length
 |[],_=>aI _
 |p::r,i=>by
  rw[xF];have:=Cw ks last r (i+1);split
  ·exact U bW (pC ‹_›)
  ·refine U bW (U bW ?_);exact gw ‹_›
theorem Lo (ks last) (p):∀G i,ir ks last i (G++[p])=ir ks last i G++(if ks.any (fun x=>cF x p.2)then []else [(jD (-1) ((kB last p.2).map fun k:Nat=>(k)),((i+G.length:Nat):Int))])
 |[],i=>by
  show ir ks last i [p]=_;rw[xF,MJ,MJ];split<;>rfl
 |q::r,i=>by
  have ih:=Lo ks last p r (i+1);have e:i+1+r.length=i+(q::r).length:=by refine U bW ?_;exact xy ..
  rw[e]at ih;refine U nY ?_;rw[xF,xF];split
  ·exact U ih rfl
  ·refine U ih ?_;rfl
theorem NP {l:List Str} {P:Str→Bool}:(l.filter P).isEmpty= !l.any P:=by
 induction l with
 |nil=>rfl
 |cons a l ih=>
  refine U je (U I3 ?_);cases h:P a
  ·simpa using ih
  ·simp
theorem bI.out {Y:B} {S:Addr} {y:b3} {st:St} (h:bI Y S y st) {X:Addr} (mZ:X∉y.foot S) (v):bI (Y.put X v) S y st:=by
 have tO:∀b∈y.foot S,b≠X:=fun b hb e=>mZ (e▸hb);refine⟨(B.aa _ _ (tO _ (y.adF S))).trans h.inst,(B.aa _ _ (tO _ (y.yX S))).trans h.attrs,(B.aa _ _ (tO _ (y.Ky S))).trans h.fF,h.dO.congr fun a ha=>?_,h.gH.congr fun R bE l e=>(B.aa _ _ (tO _ (y.EW S bE))).trans e,h.q7,h.pW⟩;have hm:∀b∈[a.i,a.d,a.l],b∈y.foot S:=fun b hb=>.tail _ (.tail _ (.tail _ (m5 _ (z5.mpr ⟨a,ha,hb⟩))));exact⟨B.aa _ _ (tO _ (hm _ (by simp))),B.aa _ _ (tO _ (hm _ (by simp))),B.aa _ _ (tO _ (hm _ (by simp)))⟩
theorem bJ.wide (h:bJ F Y F I) (hs:∀a∈F,a∈ef):bJ ef Y ef I:=⟨fun a ha hm=>h.1 a (fun q=>ha (hs a q)) hm,fun J q=>.inl q⟩
theorem Wx:(jb aA p).length≤aA.length+1:=by
 unfold jb
 induction cN aA p.1 with
 |none=>exact b9 _
 |some v=>
  dsimp only;have h1:(gz aA p.1).length≤aA.length:=iD _ _;unfold fZ;split
  ·rw[cj];exact pC ‹_›
  ·refine U dZ ?_;simp only[bW,g6];exact gw ‹_›
theorem afO {T:List (Int×Int)} {G af:List (Str×Str)} (h:T.map (fun p=>G[p.2.toNat]?)=af.map some):∀p∈af,p∈G:=by
 intro p hp;have:some p∈T.map (fun p=>G[p.2.toNat]?):=by refine U h ?_;exact cA hp
 refine wS (ao.mp this) fun q J e=>?_;exact uy e
theorem J5 (ks last):∀G i,∀q∈ir ks last i G,0≤q.2
 |[],_,q,h=>by cases h
 |p::r,i,q,h=>by
  rw[xF]at h;split at h
  ·exact J5 ks last r (i+1) q h
  ·refine bD h ?_ fun h=>?_
   ·exact kG _
   ·exact J5 ks last r (i+1) q h
theorem abN (P:Params):specialIn (KF P) (.ref 120) "__get__" =some (some (.builtin "function.__get__")):=by kernel_rfl
theorem WC (P:Params):takesIn (KF P) (.ref 120)=some false:=by kernel_rfl
noncomputable abbrev G8 (S X:Addr) (G:List (Str×Str)) (bU bN ee cX dF jy:Option D):XV:=[⟨"sorter",.loc,some (.val (.ref S))⟩,⟨"disk",.loc,some (.val (.ref X))⟩,⟨"left",.aM,some (.list (G.map pair))⟩,⟨"last",.aM,bU⟩,⟨"due",.loc,bN⟩,⟨"i",.loc,ee⟩,⟨"start",.loc,cX⟩,⟨"goal",.aM,dF⟩,⟨"moving",.aM,jy⟩,
 ⟨"range",.bz,some (.val (.type "range"))⟩,⟨"len",.bz,some (.val (.builtin "len"))⟩,⟨"max",.bz,some (.val (.builtin "max"))⟩,⟨"sorted",.bz,some (.val (.builtin "sorted"))⟩,⟨"tuple",.bz,some (.val (.type "tuple"))⟩]
theorem B4 (l:List Str):(PyData.tuple (l.map .str)).depth≤1:=by
 rw[PyData.depth];have:PyData.depthAll (l.map PyData.str)=0:=by
  induction l with
  |nil=>rfl
  |cons x l ih=>rw[aK,PyData.depthAll,ih];rfl
 exact FF ‹_›
theorem Rl (l:List (Str×Str)):(PyData.list (fR (l.map pair))).depth≤2:=by
 rw[PyData.depth,JO];have:PyData.depthAll (l.map fun x=>PyData.tuple [.str x.1,.str x.2])≤1:=by
  induction l with
  |nil=>exact fz _
  |cons x l ih=>
   rw[aK,PyData.depthAll];exact Nat.max_le.mpr ⟨B4 [x.1,x.2],ih⟩
 exact f9 ‹_› (by decide)
theorem Vw {T:List (Int×Int)} {G af:List (Str×Str)} (h:T.map (fun p=>G[p.2.toNat]?)=af.map some):T.map (fun p=>pair (G.getD p.2.toNat (Str.empty,Str.empty)))=af.map pair:=by
 have:=cQ (List.map fun o:Option (Str×Str)=>pair (o.getD (Str.empty,Str.empty))) h;rw[cO,cO]at this;exact this
theorem ac5 {T:List (Int×Int)} {G af:List (Str×Str)} (h:T.map (fun p=>G[p.2.toNat]?)=af.map some) {p:Int×Int} (hp:p∈T):G[p.2.toNat]?=some (G.getD p.2.toNat (Str.empty,Str.empty)):=by
 have:G[p.2.toNat]?∈af.map some:=by refine ZB h ?_;exact cA (f:=fun p:Int×Int=>G[p.2.toNat]?) hp
 refine wS (ao.mp this) fun x J e=>?_;rw[iM,←e];rfl
section
variable {c:ah} {k:Nat}
inductive KW (S X:Addr) (y:b3) (L:List (Str×Str)) (K:List (Str×D)) (aJ:B) (n:Nat) (O:XV) (Y:B):Prop
 |mk (st:St) (aA:List (Str×D)) (G:List (Str×Str)) (last:List Str) (bN ee cX dF jy:Option D):(vU n st aA G last L K)→(bI Y S y st)→(Y X=some (.dict aA))→(bJ (X::y.foot S) aJ (X::y.foot S) Y)→(O=G8 S X G (some (.list (ww last))) bN ee cX dF jy)→KW S X y L K aJ n O Y
inductive K0 (S X kI:Addr) (G:List (Str×Str)) (last:List Str) (aA:List (Str×D)) (jy:Option D) (Y:B) (aE:List D) (O:XV) (I:B):Prop
 |mk (done ay:List (Str×Str)) (ee cX dF:Option D):(G=done++ay)→(aE=kQ (done.length:Nat) ay.length)→(I=Y.put kI (some (.list ((ir (aA.map Prod.fst) last 0 done).map gU))))→(O=G8 S X G (some (.list (ww last))) (some (.val (.ref kI))) ee cX dF jy)→K0 S X kI G last aA jy Y aE O I
inductive NR (S X kI:Addr) (y:b3) (st:St) (G af:List (Str×Str)) (An:List (Str×D)) (ee:Option D) (aJ:B) (aE:List D) (O:XV) (Y:B):Prop
 |mk (ay:List (Str×Str)) (ja:List (Str×D)) (cX dF:Option D):(aE=ay.map pair)→(BA ja ay)→(ay.foldl jb ja=An)→(ja.length+ay.length≤106)→(bI Y S y (sA st (af.map Prod.fst)))→(Y X=some (.dict ja))→(bJ (X::y.foot S) aJ (X::y.foot S) Y)→(O=G8 S X G (some (.list (ww (af.map Prod.fst)))) (some (.val (.ref kI))) ee cX dF (some (.list (af.map pair))))→NR S X kI y st G af An ee aJ aE O Y
theorem Wk {S X:Addr} {y:b3} {vE:St} {gm L:List (Str×Str)} {o6 K:List (Str×D)} {aJ:B} {zE:Nat} (t:aV c) (zq:bI aJ S y vE) (sC:aJ X=some (.dict o6)) (tF:X∉y.foot S) (F_:vU zE vE o6 gm [] L K):
 wE c (k+2) (vars [("sorter",.loc),("disk",.loc),("left",.aM)] [.val (.ref S),.val (.ref X),.list (gm.map pair)] [("last",.aM),("due",.loc),("i",.loc),("start",.loc),("goal",.aM),("moving",.aM)] [("range",.type "range"),("len",.builtin "len"),("max",.builtin "max"),("sorted",.builtin "sorted"),("tuple",.type "tuple")]) aJ (gM (bH 32))
  (vg fun d I=>d= .list (L.map pair)∧I X=some (.dict K)∧bJ (X::y.foot S) aJ (X::y.foot S) I):=by
 kst_p
 have hh:=t.hd;have hsub:∀a∈y.foot S,a∈X::y.foot S:=fun a ha=>.tail _ ha;refine wE.cons (FM.assign (d:=.list []) (f8.list .nil) (by kd_in) ?_);refine wE.cons (FM.while (KW S X y L K aJ)
  zE ⟨vE,o6,gm,[],none,none,none,none,none,F_,zq,sC,.refl _ _,rfl⟩ ?_)
 intro n NE Y Go;obtain⟨st,aA,G,last,bN,ee,cX,dF,jy,bE,hs,mZ,ol,rfl⟩:=Go;refine gg true (az.plain (by kd_p) dB.bool) (fun J=>?_) (fun h=>(by injection h));obtain _|n:=n
 ·exact bE.elim
 refine Op bE fun jI SG=>LO SG fun T af xS Ec s_ pY vt Y3 hz oH=>?_;refine wE.cons (FM.iT (aF.newList (ds:=[]) .nil (by simp) fun kI BG=>⟨_,by kd_in,?_⟩));have P7:X≠kI:=by rintro rfl;rw[mZ]at BG;injection BG
 refine wE.cons (FM.for hh tL (items:=kQ 0 G.length) (bF.range (by kd_p) ?_ (by have:=jI.six;exact Ev ‹_› (by decide))) (K0 S X kI G last aA jy Y)
  ⟨[],G,ee,cX,dF,rfl,rfl,rfl,rfl⟩ (fun J J J J=>trivial) ?_ ?_)
 ·exact ZB (show(G.map pair).length=G.length by simp) (f8.len (by kd_p) (by kd_p) aL.list (by simp;have:=jI.six;exact Ev ‹_› (by decide)))
 ·intro d rest NE I Go;obtain⟨done,ay,ee,cX,dF,iU,bG,rfl,rfl⟩:=Go;obtain _|⟨x,ay⟩:=ay
  ·injection bG
  refine Op (jd bG) fun WB abS=>?_;subst WB;subst abS;have hx:x∈G:=by refine U iU ?_;simp
  refine bl.name (by kd_in) ?_;refine wE.cons (FM.A7 hh (d:=pair x) (f8.sub (by kd_p) (by kd_p) (Rs.item (l:=G.map pair) (i:=(done.length:Nat)) aL.list (kG _) ?_ (by simp;have:=jI.six;exact Ev ‹_› (by decide)))) (bl.tuple (bl.name (by kd_in) (bl.name (by kd_in) ?_))))
  ·refine U iU ?_;simp
  have XX:(Y.put kI (some (.list ((ir (aA.map Prod.fst) last 0 done).map gU)))) X=some (.dict aA):=(B.aa _ _ P7).trans mZ;have e1:ir (aA.map Prod.fst) last 0 (done++[x])=_:=Lo (aA.map Prod.fst) last x done 0;rw[BE]at e1;refine wE.cons (FM.ifs (b:=!(aA.map Prod.fst).any (fun z=>cF z x.2)) ((az.not (az.plain (d:=.list (ww ((aA.map Prod.fst).filter fun z=>cF z x.2))) (f8.abx XX fun o kvs hd hk=>?_) (dB.list ?_))).to ?_) (fun No=>?_) (fun M2=>wE.nil ?_))
  ·refine aP (HA hd) fun ep hf=>?_;have e:(kvs.map fun z=>D.str z.1)=(aA.map Prod.fst).map .str:=by refine ZB hk (U cO ?_);rfl
   refine f8.mV hh (Ol hf).dg (caps:=[("goal",.str x.2)]) (gs:=[("_law_meets",.ref 266)]) (ts:=[("place",.loc)]) (items:=kvs.map fun z=>D.str z.1) (by intros;rfl) (by dsimp only[List.map];decide+kernel) ?_ (bC (t.glob (by kd_p)) cI) (bF.keys (by kd_p) (B.ai ..) hf) (B.ai ..) ?_
   ·intro z hz;simp only[a_,eF,g5]at hz;obtain rfl:=hz;exact⟨.aM,.inl rfl,by walk_at "v"⟩
   ·refine U e ?_;refine dR.one (xs:=aA.map Prod.fst) (P:=fun z=>cF z x.2) (F:=.str) .str (by rw[cj];have:=jI.yL;exact Ev ‹_› (by decide)) fun z hz=>?_
    kst_p
    refine wS (ao.mp hz) fun Se jn s4=>?_;subst s4;exact⟨eH.one (az.plain (f8.call (by kd_p) (fX (st:=bH 26) (t.fn rfl rfl rfl rfl)) (.cons (by kd_p) (.cons (by kd_p) .nil (by kd_p)) (by kd_p)) (cu.r (I9 (k:=k+1) (t.fn rfl rfl rfl rfl) (jI.ja _ jn) (jI.ok x hx).2.2)) (by kd_p)) dB.bool),fun J=>by kd_p⟩
  ·unfold ww;have:=iD (fun z=>cF z x.2) (aA.map Prod.fst);rw[cj]at this⊢;have:=jI.yL;exact f7 ‹_› this (by decide)
  ·unfold ww;refine U Co (U NP ?_);simp
  ·have za:(aA.map Prod.fst).any (fun z=>cF z x.2)=false:=by simpa using No
   rw[za,Tk (by simp)]at e1;have pn:=jI.afF;refine wE.cons (FM.expr (aF.append (d:=gU (jD (-1) ((kB last x.2).map fun k:Nat=>(k:Int)),(done.length:Nat))) (l:=(ir (aA.map Prod.fst) last 0 done).map gU) (by kd_p) (f8.tuple (ds:=[.int (jD (-1) ((kB last x.2).map fun k:Nat=>(k:Int))),.int (done.length:Nat)]) (.cons (f8.call (ds:=[.list (((-1:Int)::(kB last x.2).map fun k:Nat=>(k:Int)).map .int)]) (by kd_p) sU (.cons ?_ .nil (by kd_p)) (b8.jD hh) (by kd_p)) (.cons (by kd_p) .nil (by kd_p)) (by kd_p)) (by simp)) (B.ai ..) ?_ ?_))
   ·refine f8.bin (d₁:=.list [.int (-1)]) (d₂:=.list ((kB last x.2).map fun k:Nat=>D.int (k:Int))) (f8.list (.cons (f8.neg (by kd_p)) .nil (by kd_p))) ?_ ?_
    ·refine f8.mV hh tL (caps:=[("goal",.str x.2),("last",.list (ww last))]) (gs:=[("_law_meets",.ref 266)]) (ts:=[("k",.loc)]) (items:=kQ 0 last.length) (by intros;rfl) (by dsimp only[List.map];decide+kernel) ?_ (bC (t.glob (by kd_p)) cI) (bF.range (by kd_p) ?_ (by kd_p)) trivial ?_
     ·intro z hz;simp only[a_,eF,g5]at hz;obtain rfl|rfl:=hz
      ·exact⟨.aM,.inl rfl,by walk_at "v"⟩
      ·exact⟨.aM,.inl rfl,by walk_at "v"⟩
     ·exact ZB (show(ww last).length=last.length by simp[ww]) (f8.len (by kd_p) (by kd_p) aL.list (by simp[ww];exact Ev ‹_› (by decide)))
     ·rw[Ob];refine dR.one (xs:=List.range last.length) (P:=fun k=>cF (last.getD k Str.empty) x.2) (F:=fun k:Nat=>D.int (k:Int)) (fun k:Nat=>D.int (k:Int)) (by refine U EU ?_;exact Ev ‹_› (by decide)) fun i hi=>?_
      kst_p
      have lE:i<last.length:=ru.mp hi;have hg:(ww last)[((i:Nat):Int).toNat]?=some (.str (last.getD i Str.empty)):=by
       unfold ww;rw[qB,kF,gh lE,iM,gh lE];rfl
      have XJ:(last.getD i Str.empty).length≤1000:=by
       rw[iM,gh lE];exact jI.lk _ (sd lE)
      exact⟨eH.one (az.plain (f8.call (by kd_p) (fX (st:=bH 26) (t.fn rfl rfl rfl rfl)) (.cons (f8.sub (by kd_p) (by kd_p) (Rs.item aL.list (kG _) hg (by simp[ww];exact Ev ‹_› (by decide)))) (.cons (by kd_p) .nil (by kd_p)) (by kd_p)) (cu.r (I9 (k:=k+1) (t.fn rfl rfl rfl rfl) XJ (jI.ok x hx).2.2)) (by kd_p)) dB.bool),fun J=>by kd_p⟩
    ·have hb:((kB last x.2).map fun k:Nat=>D.int (k:Int)).length≤last.length:=by
      rw[cj];unfold kB;exact Ev (iD _ _) (by refine U EU ?_;exact aI _)
     have e2:(((-1:Int)::(kB last x.2).map fun k:Nat=>(k:Int)).map D.int)=[.int (-1)]++((kB last x.2).map fun k:Nat=>D.int (k:Int)):=by
      refine U aK (U cO ?_);rfl
     exact U e2 (Rs.D_ aL.list aL.list (by simp only[bW,g6];exact Ev (jQ (Ev hb ‹_›) 1) (by decide)))
   ·rw[cj];have h1:=Cw (aA.map Prod.fst) last done 0;have h2:=cQ List.length iU;rw[dZ]at h2;have:=jI.six;exact f7 h1 (Ev (bX ..) (bT h2.symm)) (Ev this (by decide))
   ·refine wE.nil (wE.nil ⟨done++[x],ay,_,_,_,by refine U iU ?_;simp,?_,?_,rfl⟩)
    ·refine U dZ ?_;rfl
    ·refine U B.m6 (U e1 (U gK ?_));rfl
  ·have za:(aA.map Prod.fst).any (fun z=>cF z x.2)=true:=by simpa using M2
   rw[za,ak rfl,fV]at e1;refine wE.nil ⟨done++[x],ay,_,_,_,by refine U iU ?_;simp,?_,?_,rfl⟩
   ·refine U dZ ?_;rfl
   ·exact U e1 rfl
 intro NE I Go;obtain⟨done,ay,ee,cX,dF,iU,bG,rfl,rfl⟩:=Go;obtain _|⟨x,ay⟩:=ay
 rotate_left
 ·injection bG
 rw[fV]at iU;subst iU;refine wE.nil ?_;have agE:T.length≤6:=by refine U xS.length_eq ?_;exact Ev (Cw ..) jI.six
 have Az:af.length≤6:=by
  have:=cQ List.length s_;rw[cj,cj]at this;exact j7 (uw ‹_›) ‹_› (by decide)
 have hmem:=afO s_;refine wE.cons (FM.oS hh gI (caps:=[("left",.list (G.map pair))]) (gs:=[]) (ts:=[("k",.loc),("i",.loc)]) (out:=af.map pair) (by intros;rfl) (by dsimp only[List.map];decide+kernel) ?_ cI (bF.list (l:=T.map gU) (f8.call (ds:=[.val (.ref kI)]) (by kd_p) sU (.cons (by kd_p) .nil (by kd_p)) (b8.afe (aL.cell (B.ai ..)) xS Ec (Ev (Cw ..) jI.six)) (by kd_p))) trivial ?_ (by kd_in) ?_)
 ·intro z hz;simp only[a_,eF,g5]at hz;obtain rfl:=hz;exact⟨.aM,.inl rfl,by walk_at "v"⟩
 ·have e:af.map pair=(T.filter fun J=>true).map fun p=>pair (G.getD p.2.toNat (Str.empty,Str.empty)):=by
   exact U (lz.mpr (fun J J=>rfl)) (U (Vw s_) rfl)
  refine U e ?_;refine dR.two (xs:=T) (P:=fun J=>true) (F:=fun p=>pair (G.getD p.2.toNat (Str.empty,Str.empty))) (fun p=>.int p.1) (fun p=>.int p.2) (by kd_p) fun p hp=>?_
  kst_p
  refine⟨eH.nil,fun J=>f8.sub (by kd_p) (by kd_p) (Rs.item (l:=G.map pair) aL.list (J5 _ _ _ _ p (xS.mem_iff.mp hp)) ?_ (by rw[cj];have:=jI.six;exact Ev ‹_› (by decide)))⟩;rw[kF,ac5 s_ hp];rfl
 refine wE.cons (FM.oS hh gI (caps:=[]) (gs:=[]) (ts:=[("start",.loc),("goal",.loc)]) (out:=ww (af.map Prod.fst)) (by intros;rfl) (by kd_p) (by simp) cI (bF.list (l:=af.map pair) (by kd_p)) trivial (by
  have e:ww (af.map Prod.fst)=(af.filter fun J=>true).map fun p=>.str p.1:=by
   refine U (lz.mpr (fun J J=>rfl)) ?_;unfold ww;refine U cO ?_;rfl
  refine U e ?_;exact dR.two (xs:=af) (P:=fun J=>true) (F:=fun p=>.str p.1) (fun p=>.str p.1) (fun p=>.str p.2) (by kd_p) fun p hp=>⟨eH.nil,fun J=>by kd_p⟩) (by kd_in) ?_)
 have sE:bI (Y.put kI (some (.list ((ir (aA.map Prod.fst) last 0 G).map gU)))) S y st:=hs.keep (e9.put BG _);have Cf:(Y.put kI (some (.list ((ir (aA.map Prod.fst) last 0 G).map gU)))) X=some (.dict aA):=(B.aa _ _ P7).trans mZ;have J3:bJ (X::y.foot S) aJ (X::y.foot S) (Y.put kI (some (.list ((ir (aA.map Prod.fst) last 0 G).map gU)))):=ol.trans (.fresh BG (fun b hb=>.inl hb) _);generalize Y.put kI (some (.list ((ir (aA.map Prod.fst) last 0 G).map gU)))=gA at sE Cf J3⊢;have N9:iH (af.map pair)=true:=Nj pair af fun x J=>Ib x;have F1:∀x∈af,PyData.strOk x.1=true∧PyData.strOk x.2=true:=fun x hx=>(jI.ok x (hmem x hx)).1;have ach:PySem.SeqAt.shaped (.list (fR (af.map pair)))=true:=by
  unfold PySem.SeqAt.shaped;rw[kW,pG];refine⟨by rw[PyData.canLay0];exact HN af F1,?_⟩;exact Ev (Rl af) (by decide)
 have abX:iH (ww (af.map Prod.fst))=true:=B0 _;have Wi:∀x∈af.map Prod.fst,PyData.strOk x=true:=fun x hx=>by
  refine wS (ao.mp hx) fun p hp s4=>?_;subst s4;exact(F1 p hp).1
 have Tg:PySem.SeqAt.shaped (pd (.tup (ww (af.map Prod.fst))))=true:=by
  unfold PySem.SeqAt.shaped;rw[LM,wK,kW,pG];refine⟨by rw[PyData.canLay0];exact AG _ Wi,Ev (B4 _) (by decide)⟩
 refine wE.cons (FM.Ih (gT.or (gT.cmp (aF.pe t (by kd_p) sE.inst sE.attrs (by rfl) (jC ..) (aee ..) (aaF ..) (fX (st:=ek 6 5) (t.fn rfl rfl rfl rfl)) .nil (di.mono (cD.r (Y4 (k:=k+1) t sE pY (by rw[cj];exact Ev ‹_› (by decide)))) ?_)))));intro d _ Go;refine Op Go fun SP aaA=>?_;subst SP;subst aaA;refine ju _ false (f8.cmp (by kd_p) (f8.list .nil) (Rs.Tr N9 ach)) ?_ rfl ?_
 ·have e:(decide (st.fin<st.j_)|| !(af.map Prod.fst).isEmpty)= !(af.map pair).isEmpty:=by
   refine U Co (U Co ?_);exact Y3
  exact U e Rs.acU
 refine gT.OV (gT.cmp (aF.pe t (by kd_p) sE.inst sE.attrs (by rfl) (jC ..) (Vc ..) (Va ..) (fX (st:=ek 6 4) (t.fn rfl rfl rfl rfl)) .nil (di.mono (cD.r (afx (k:=k+1) t sE pY (by rw[cj];exact Ev ‹_› (by decide)) vt)) ?_)));intro d ki Go;refine b5 Go fun S7 oX kX=>?_;subst S7;refine ju (.tup (ww (af.map Prod.fst))) false (f8.call (ds:=[.list (ww (af.map Prod.fst))]) (f:=.type "tuple") (by kd_p) (.inl fun a e=>(by injection e)) (.cons (by kd_p) .nil (by kd_p)) (b8.Pg aL.list (by simp[ww];exact Ev ‹_› (by decide))) (by kd_p)) (Rs.Cv (by rw[La];exact abX) Tg) rfl ⟨fun h=>(by injection h),fun J=>wE.nil ?_⟩;have Qz:ki X=some (.dict aA):=(kX.1 X tF (by refine U Cf ?_;simp)).trans Cf;have OI:bJ (X::y.foot S) aJ (X::y.foot S) ki:=J3.trans (kX.wide hsub);clear kX sE Cf J3;refine wE.cons (FM.ifs (b:=af.isEmpty) ((az.not (az.plain (by kd_p) (dB.list (by rw[cj];exact Ev ‹_› (by decide))))).to (by refine U Co ?_;simp)) (fun he=>?_) (fun he=>wE.nil ?_))
 ·have Yu:af=[]:=Ce.mp he;refine Op (hz Yu) fun aeV afP=>?_;subst aeV;subst afP;exact wE.cons (FM.ret (d:=.list (L.map pair)) (by kd_p) ⟨rfl,Qz,OI⟩)
 have bg:af≠[]:=fun e=>by rw[e]at he;injection he
 refine b5 (oH bg) fun aaS yP xE=>?_;generalize Gr:af.foldl jb aA=An at xE;refine wE.cons (FM.for hh gI (items:=af.map pair) (bF.list (by kd_p)) (NR S X kI y st G af An ee aJ)
  ⟨af,aA,cX,dF,rfl,yP,Gr,mw jI.yL Az,oX,Qz,OI,rfl⟩ (fun J J J J=>trivial) ?_ ?_)
 ·intro d rest NE Y Go;obtain⟨ay,ja,cX,dF,bG,yP,Gr,gi,hs,mZ,ol,rfl⟩:=Go;obtain _|⟨x,ay⟩:=ay
  ·injection bG
  refine Op (jd bG) fun Tq Sn=>?_;subst Tq;subst Sn;refine Op yP fun wY yP=>?_;rw[bW]at gi;refine aP (xO.mp wY) fun v s5=>?_;have vc:jb ja x=fZ (gz ja x.1) x.2 v:=by unfold jb;exact U s5 rfl
  have wR:(gz ja x.1).length≤ja.length:=iD _ _;refine bl.tuple (bl.name (by kd_in) (bl.name (by kd_in) ?_));refine wE.cons (FM.Aa (aF.nq (d₀:=.val (.ref X)) (by kd_p) (kL.dict mZ) Cu E2 KR (.cons (by kd_p) .nil (by kd_p)) (di.QU mZ s5 (f7 (bX ..) gi (by decide)) ⟨by kd_p,by kd_p,_,B.ai ..,f7 (Ev wR (bX ..)) gi (by decide),?_⟩)));refine wE.nil ⟨ay,jb ja x,_,_,rfl,yP,Gr,?_,?_,?_,?_,rfl⟩
  ·have:=Wx (aA:=ja) (p:=x);exact JT ‹_› ‹_›
  ·exact U B.m6 (hs.out tF _)
  ·exact U vc (B.ai ..)
  ·exact U B.m6 (ol.trans (.put (.head _) _))
 intro NE kY Go;obtain⟨ay,ja,cX,dF,bG,_,Tt,gi,qY,Ln,Dl,rfl⟩:=Go;obtain _|⟨x,ay⟩:=ay
 rotate_left
 ·injection bG
 have XA:ja=An:=Tt;subst XA;refine wE.nil ?_;have lU:((G.filter fun p=>!af.contains p).map pair)=((G.filter fun p=>!af.contains p).map fun p=>pair p):=rfl;refine wE.cons (FM.oS hh gI (caps:=[("moving",.list (af.map pair))]) (gs:=[]) (ts:=[("pair",.loc)]) (out:=(G.filter fun p=>!af.contains p).map pair) (by intros;rfl) (by dsimp only[List.map];decide+kernel) ?_ cI (bF.list (l:=G.map pair) (by kd_p)) trivial (dR.one (xs:=G) (P:=fun p=>!af.contains p) (F:=pair) pair (by have:=jI.six;exact Ev ‹_› (by decide)) fun p hp=>?_) (by kd_in) ?_)
 ·intro z hz;simp only[a_,eF,g5]at hz;obtain rfl:=hz;exact⟨.aM,.inl rfl,by walk_at "v"⟩
 ·kst_p
  refine⟨eH.one (az.cmp (by kd_p) (by kd_p) ?_),fun J=>by kd_p⟩;have MV:=(jI.ok p hp).1;have h:=Rs.KZ (c:=c) (k:=k+2) (O:=[⟨"pair",.loc,some (pair p)⟩,⟨"moving",.gC,some (.list (af.map pair))⟩]) (Y:=kY) (x:=pair p) (d:=.list (af.map pair)) aL.list (Ib p) N9 ?_ (HN af F1)
  ·rw[ae7]at h;exact h
  ·unfold PySem.SeqAt.shaped;rw[HD,kW,pG];exact⟨by simp[PyData.canLay0,PyData.canLayAll0,MV.1,MV.2],Ev (B4 [p.1,p.2]) (by decide)⟩
 refine wE.cons (FM.Ih (gT.cmp (aF.Nh t (by kd_p) qY.inst qY.attrs (by rfl) (jC ..) (Vg ..) (aci ..) (kP ..) (abN ..) (WC ..) (by kd_p) (t.fn (st:=ek 6 7) rfl rfl rfl rfl).there (Uh (l:=ww (af.map Prod.fst)) (by kd_p) aL.list (by simp[ww];exact Ev ‹_› (by decide)) (eS.mono (UK (k:=k+1) t qY (r:=[]) rfl (by rw[cj];exact Ev ‹_› (by decide)) (by simp) aaS) ?_)))));intro d xA Go;refine b5 Go fun acP Fy sS=>?_;subst acP;refine ju (.val .none) false (by kd_p) Rs.isNotNone (fun h=>(by injection h)) (fun J=>wE.nil (wE.nil ⟨n,jM n,_,_,_,_,_,_,_,_,_,xE,Fy,?_,?_,rfl⟩))
 ·exact(sS.1 X tF (by refine U Ln ?_;simp)).trans Ln
 ·exact Dl.trans (sS.wide hsub)
theorem SA {S X:Addr} {y:b3} {vE:St} {gm L:List (Str×Str)} {o6 K:List (Str×D)} {aJ:B} {zE:Nat} (t:aV c) (zq:bI aJ S y vE) (sC:aJ X=some (.dict o6)) (tF:X∉y.foot S) (F_:vU zE vE o6 gm [] L K):
 cD c (k+3) (.ref 300) [.val (.ref S),.val (.ref X),.list (gm.map pair)] aJ (fun d I=>d= .list (L.map pair)∧I X=some (.dict K)∧bJ (X::y.foot S) aJ (X::y.foot S) I):=by
 exact cD.fn (st:=bH 32) (qual:="_law_rounds") (dV:=.none) (t.fn rfl rfl rfl rfl) (by kd_p)
  (bC (t.dw (by kd_p) (by kd_p) (by decide)) (bC (t.dw (by kd_p) (by kd_p) (by decide)) (bC (t.dw (by kd_p) (by kd_p) (by decide)) (bC (t.dw (by kd_p) (by kd_p) (by decide)) (bC (t.dw (by kd_p) (by kd_p) (by decide)) cI))))) rfl (fun J J=>.plain rfl (Km fun J J J=>rfl)) fun bP A V s bs Z ok w Q E q=>Wk (t.at (L:=bP)) zq sC tF F_ A V s bs Z ok w Q E fun f5 f s' Z' r cU dG hp=>q f5 f s' Z' r cU dG (by cases f5<;>first|exact hp|exact hp.elim)
end
end
section
open PySem.W
section
variable {c:ah} {k:Nat} {O:XV} {Y:B} {Sc:D→B→Prop}
theorem aF.tuple (ha:ni c k O Y es fun ds I=>ds.length≤1000∧Sc (.tup ds) I):aF c k O Y (.Tuple es n pos) Sc:=by
 intro A V s Z ok x Q E q;refine Tuple_ (ha A V s Z pos ok x _ E fun ds I H s₁ aB EQ s5 aae=>Op aae fun hz hp=>DM EQ.top EQ.sub s5 (by refine U cV ?_;exact Ev ‹_› (by decide)) fun v s' Z' t g8=>?_);exact q _ I v s' Z' (EQ.trans (t.after (x.after EQ))) g8 hp
theorem b8.ad3 (h:i.natAbs.log2<1920):b8 c k O Y (.type "str") [.int i] (.str (Str.ofString (toString i))):=by
 intro A V s Z H ok r t Q E g;refine wS (iN t) fun v s4 s5=>?_;subst s4;refine s5.i fun J=>?_;exact PySem.P.str_of_int h (gV g r.top r.sub (.str _ _) (b9 _))
theorem aa3 {α:Type _} {p q r:Prop} [Decidable p] [Decidable q] [Decidable r] {a b:α} (h:r):(if p then a else if q then a else if r then a else b)=a:=by
 by_cases hp:p
 ·exact ak hp
 ·refine(Tk hp).trans ?_;by_cases Ch:q
  ·exact ak Ch
  ·exact(Tk Ch).trans (ak h)
theorem aby {α:Type _} {F:Expr→Option α} (h:F x=none∨F y=none):([x,y].filterMap F).length≠2:=by
 obtain h|h:=h
 ·exact U (OJ h) (fun e=>Ik 1 (Ev (bT e.symm) (Qq F [y])))
 ·intro e;have e1:[x,y].filterMap F=[x].filterMap F++[y].filterMap F:=List.filterMap_append (l:=[x]) (l':=[y]);rw[e1,OJ (l:=[]) h,List.filterMap_nil,fV]at e;exact Ik 1 (Ev (bT e.symm) (Qq F [x]))
theorem UN {α:Type _} {p q r s u:Prop} [Decidable p] [Decidable q] [Decidable r] [Decidable s] [Decidable u] {a b e:α} (h1:¬p) (h2:¬q) (h3:¬r) (h4:¬s) (h5:¬u):(if p then a else if q then a else if r then a else if s then a else if u then b else e)=e:=
 (Tk h1).trans ((Tk h2).trans ((Tk h3).trans ((Tk h4).trans (Tk h5))))
theorem Kq {F:Expr→Option Str} (h1:F x=some a) (h2:F y=some b):[x,y].filterMap F=[a,b]:=
 (MG h1).trans (cQ (fun l=>a::l) (MG h2))
theorem M8 (h:V.kindOf a=some .cell∨V.kindOf b=some .cell):swappedStores [.Tuple [.Name a jP,.Name b mP] n p] (.Tuple [lH,nW] m c_) V=pure none:=by
 delta swappedStores;refine aa3 ?_;rw[o5];refine .inl (zS.mpr (aby (h.imp (fun h=>Tk ?_) fun h=>Tk ?_)))
 ·exact U h oV
 ·exact U h oV
theorem Z4 (hb:V.kindOf b=some .cell):swappedStores [.Tuple [.Name a jP,.Name b mP] n p] (.Tuple [lH,nW] m c_) V=pure none:=M8 (.inr hb)
end
end
section
open PySem.W
structure YO (ws:List (Str×List Str)) (G:List (Str×Str)) (b:Option (List Str)):Prop where
 six:G.length≤6
 ok:∀x∈G,(PyData.strOk x.1=true∧PyData.strOk x.2=true)∧x.1.length≤1000∧x.2.length≤1000
 way:∀x∈G,∃l,j4 ws x.2=some l∧l.length≤1000∧∀y∈l,PyData.strOk y=true
 nd:(G.map Prod.fst).Nodup
 ring:w5 G=some b
 YN:∃dK,iR (nN G ws).nodes dK ((nN G ws).nodes.map (fun x=>x.name)) []=some b
 nodes:(nN G ws).nodes.length≤900
 cl:∀n∈(nN G ws).nodes,∀x∈n.succ,x∈(nN G ws).nodes.map (fun x=>x.name)
 gH:(nN G ws).ready=none
 Ww:∀l,b=some l→∀x∈l,PyData.strOk x=true
noncomputable def dY (n:Nat):Str:=Str.ofString "/aside/" ++Str.ofString (toString (n:Int))
noncomputable def pF (bZ a:Str) (G:List (Str×Str)):List (Str×Str):=G.map fun p=>(if p.1=bZ then a else p.1,p.2)
noncomputable def xR (ws:List (Str×List Str)):Nat→Nat→List (Str×D)→List (Str×Str)→Prop
 |0,_,_,_=>False
 |n+1,turn,aA,G=>∃(b:Option (List Str)) (m:Nat) (L:List (Str×Str)) (K:List (Str×D)),YO ws G b∧vU m (lZ (nN G ws)) aA G [] L K∧
  ∀ring,b=some ring→∃bZ rest v,ring=bZ::rest∧L.length≤6∧K.length≤1000∧cN K bZ=some v∧xR ws n (turn+1) (fZ (gz K bZ) (dY turn) v) (pF bZ (dY turn) L)
theorem af5 {n:Nat} (h:n≤10):((n:Int)).natAbs.log2<1920∧(Str.ofString (toString (n:Int))).length≤10:=by
 have:∀n:Fin 11,((n.val:Int)).natAbs.log2<1920∧(Str.ofString (toString (n.val:Int))).length≤10:=by decide+kernel
 exact this ⟨n,by exact f9 ‹_› (by decide)⟩
theorem aaC (b:Option (List Str)):jR (nK b)=true:=by
 induction b with
 |none=>rfl
 |some l=>show jR (.list (ww l))=true;rw[DP];exact B0 l
theorem acG (h:∀l,b=some l→∀x∈l,PyData.strOk x=true):PySem.SeqAt.shaped (pd (nK b))=true:=by
 induction b with
 |none=>decide+kernel
 |some l=>
  show PySem.SeqAt.shaped (pd (.list (ww l)))=true;unfold PySem.SeqAt.shaped;rw[wz,wK,kW,pG];refine⟨by rw[PyData.canLay0];exact AG l (h l rfl),?_⟩;have:=B4 l;rw[PyData.depth]at this;rw[PyData.depth];exact Ev ‹_› (by decide)
theorem Sx (b:Option (List Str)):wo (nK b)=b.isNone:=by cases b<;>rfl
noncomputable def Eg (b:Option (List Str)):D:=match b with|none=>.val .none|some _=>.str "ring"
theorem VU (b:Option (List Str)):jR (Eg b)=true:=by cases b<;>rfl
theorem ady (b:Option (List Str)):PySem.SeqAt.shaped (pd (Eg b))=true:=by
 induction b with
 |none=>decide+kernel
 |some l=>show PySem.SeqAt.shaped (pd (.str "ring"))=true;decide+kernel
theorem XM {c:ah} {k:Nat} {Y:B} {S:Addr} {y:b3} {st:St} {dK:Nat} {b:Option (List Str)} (t:aV c) (h:bI Y S y st) (hr:st.ready=none) (hz:st.nodes.length≤900) (eT:∀n∈st.nodes,∀x∈n.succ,x∈st.nodes.map (fun x=>x.name)) (hb:iR st.nodes dK (st.nodes.map (fun x=>x.name)) []=some b):
 cD c (k+3) (.ref 295) [.val (.ref S)] Y (fun d I=>d=Eg b∧∃R,bI I S (gn y R) (lZ st)∧bJ (y.foot S) Y ((gn y R).foot S) I):=by
 induction b with
 |none=>exact YB (ring:=[]) t h hr hz eT hb
 |some l=>exact adG t h hr hz eT hb
noncomputable abbrev acD (X:Addr) (G:List (Str×Str)) (bU bN ee cX dF:Option D):XV:=[⟨"disk",.loc,some (.val (.ref X))⟩,⟨"left",.loc,some (.list (G.map pair))⟩,⟨"ways",.loc,bU⟩,⟨"turn",.loc,bN⟩,⟨"sorter",.loc,ee⟩,⟨"ring",.aM,cX⟩,⟨"aside",.aM,dF⟩,
 ⟨"_law_ways",.bz,some (.val (.ref 278))⟩,⟨"range",.bz,some (.val (.type "range"))⟩,⟨"_law_told",.bz,some (.val (.ref 283))⟩,⟨"_law_ring",.bz,some (.val (.ref 288))⟩,⟨"_law_prepared",.bz,some (.val (.ref 295))⟩,⟨"_law_rounds",.bz,some (.val (.ref 300))⟩,⟨"str",.bz,some (.val (.type "str"))⟩]
section
variable {c:ah} {k:Nat}
inductive Ra (gm:List (Str×Str)) (W X:Addr) (aE:List D) (O:XV) (Y:B):Prop
 |mk (n turn:Nat) (aA:List (Str×D)) (G:List (Str×Str)) (bN ee cX dF:Option D):(aE=kQ (turn:Nat) n)→(turn+n≤7)→(xR (lg gm) n turn aA G)→(sI Y W (lg gm))→(Y X=some (.dict aA))→(O=acD X G (some (.val (.ref W))) bN ee cX dF)→Ra gm W X aE O Y
theorem aaH (dz:qh T) (t:aV c) (hT:∀x∈gm,T x.1∧T x.2) (HL:gm.length≤100) (Fo:(gm.map Prod.snd).Nodup) (sC:aJ X=some (.dict o6)) (Gp:xR (lg gm) 7 0 o6 gm):
 wE c (k+5) (vars [("disk",.loc),("left",.loc)] [.val (.ref X),.list (gm.map pair)] [("ways",.loc),("turn",.loc),("sorter",.loc),("ring",.aM),("aside",.aM)] [("_law_ways",.ref 278),("range",.type "range"),("_law_told",.ref 283),("_law_ring",.ref 288),("_law_prepared",.ref 295),("_law_rounds",.ref 300),("str",.type "str")]) aJ (gM (bH 33))
  (vg fun d I=>d= .val (.bool true)):=by
 kst_p
 have hh:=t.hd;refine wE.cons (FM.iT (aF.call (ds:=[.list (gm.map pair)]) (by kd_p) (fX (st:=bH 28) (t.fn rfl rfl rfl rfl)) (.cons (by kd_p) .nil (by kd_p)) (di.mono (cD.r (ad7 (k:=k+1) dz t hT HL Fo)) ?_) (by kd_p)));intro d gA Go;refine d9 Go fun W s4 O2 hw dM=>?_;subst s4;refine⟨_,by kd_in,?_⟩;refine wE.cons (FM.ifs (b:=false) (az.cmp (by kd_p) (by kd_p) Rs.isNone) (fun h=>(by injection h)) fun J=>wE.nil ?_);have aaG:=dM.some sC;have QG:W≠X:=by rintro rfl;rw[sC]at O2;cases O2
 refine wE.cons (FM.for hh tL (items:=kQ 0 7) (bF.range (n:=7) (by kd_p) (by kd_p) (by decide)) (Ra gm W X)
  ⟨7,0,o6,gm,none,none,none,none,rfl,by decide,Gp,hw,aaG,rfl⟩ (fun J J J J=>trivial) ?_ ?_)
 rotate_left
 ·intro NE Y Go;obtain⟨n,turn,aA,G,bN,ee,cX,dF,bG,M2,hM,_,_,rfl⟩:=Go;obtain _|n:=n
  ·exact hM.elim
  ·cases bG
 intro d rest NE Y Go;obtain⟨n,turn,aA,G,bN,ee,cX,dF,bG,M2,hM,hw,mZ,rfl⟩:=Go;obtain _|n:=n
 ·cases bG
 cases bG;refine adu hM fun b m L K mF bE X5=>?_;refine bl.name (by kd_in) ?_;have ab1:∀x∈G,PyData.strOk x.1=true∧PyData.strOk x.2=true:=fun x hx=>(mF.ok x hx).1;have ZF:∀x∈G,PyData.strOk x.1=true∧x.1.length≤1000∧x.2.length≤1000:=fun x hx=>⟨(mF.ok x hx).1.1,(mF.ok x hx).2⟩;have h6:=mF.six;refine wE.cons (FM.RW hh (aF.tuple (ni.cons (aF.call (ds:=[.list (G.map pair),.val (.ref W)]) (by kd_p) (fX (st:=bH 29) (t.fn rfl rfl rfl rfl)) (.cons (by kd_p) (.cons (by kd_p) .nil (by kd_p)) (by kd_p)) (di.mono (cD.r (aeF (k:=k) t (by kd_p) ab1 hw mF.way)) ?_) (by kd_p)) (by kd_p)))
  (by kd_p) (fun V bs Z h w=>Z4 (w.kK ⟨"ring",.aM,cX⟩ (by walk_at "v") rfl).1))
 intro d ki Go;refine fJ Go fun S y s4 hs ol=>?_;subst s4;refine ni.cons (aF.call (ds:=[.list (G.map pair)]) (by kd_p) (fX (st:=bH 30) (t.fn rfl rfl rfl rfl)) (.cons (by kd_p) .nil (by kd_p)) (di.mono (cD.r (UW (k:=k+3) t (by kd_p) ZF mF.nd mF.ring)) ?_) (by kd_p)) (by kd_p);intro d kY Go;refine Op Go fun s4 F0=>?_;subst s4;refine ni.Lh .nil ⟨by simp,?_⟩;refine bl.tuple (bl.name (by kd_in) (bl.name (by kd_in) ?_));have qY:=hs.keep F0;have Dl:bJ [] Y (y.foot S) kY:=ol.trans (bJ.keep F0);have hrs:=mF.gH;refine aP (mF.YN) fun dK PD=>?_;have hsh:=acG mF.Ww;refine wE.cons (FM.Ih (gT.or (gT.cmp (aF.pe t (by kd_p) qY.inst qY.attrs (by rfl) (jC ..) (GR ..) (Hh ..) (fX (st:=ek 6 8) (t.fn rfl rfl rfl rfl)) .nil (di.mono (cD.r (Ff (k:=k+4) t qY mF.nodes mF.cl PD)) ?_)))));intro d xA Go;refine b5 Go fun s4 cM RN=>?_;subst s4;refine ju (nK b) false (by kd_p) (Rs.Cv (aaC b) hsh) rfl ?_;have Fy:=qY.keep RN;have sS:=Dl.trans (bJ.keep (F:=y.foot S) RN);clear hs qY ol Dl F0;refine gT.OV (gT.cmp (aF.call (ds:=[.val (.ref S)]) (by kd_p) (fX (st:=bH 31) (t.fn rfl rfl rfl rfl)) (.cons (by kd_p) .nil (by kd_p)) (di.mono (cD.r (XM (k:=k+2) t Fy hrs mF.nodes mF.cl PD)) ?_) (by kd_p)));intro d Nz Go;obtain⟨rfl,R,Ws,abl⟩:=Go;refine ju (Eg b) false (f8.Jj (az.cmp (by kd_p) (by kd_p) Rs.isNone) (fun h=>?_) (fun h=>?_)) (Rs.Cv (VU b) (ady b)) rfl ⟨fun h=>(by injection h),fun J=>wE.nil ?_⟩
 ·obtain _|l:=b
  ·exact f8.none
  ·cases h
 ·obtain _|l:=b
  ·cases h
  ·exact f8.str
 have DV:bJ [] Y ((gn y R).foot S) Nz:=sS.trans abl;have M3:Y X≠none:=by refine U mZ ?_;simp
 have tF:X∉(gn y R).foot S:=fun h=>by
  obtain h|h:=DV.2 X h
  ·cases h
  ·exact M3 h
 have Wt:Nz X=some (.dict aA):=(DV.1 X (by simp) M3).trans mZ;refine wE.cons (FM.iT (aF.call (ds:=[.val (.ref S),.val (.ref X),.list (G.map pair)]) (by kd_p) (fX (st:=bH 32) (t.fn rfl rfl rfl rfl)) (.cons (by kd_p) (.cons (by kd_p) (.cons (by kd_p) .nil (by kd_p)) (by kd_p)) (by kd_p)) (di.mono (cD.r (SA (k:=k+2) t Ws Wt tF bE)) ?_) (by kd_p)));intro d P5 Go;refine b5 Go fun s4 J8 Wg=>?_;subst s4;refine⟨_,by kd_in,?_⟩;have VZ:sI P5 W (lg gm):=by
  have hk:∀a,a≠X→Y a≠none→P5 a=Y a:=fun a ha hm=>by
   have e5:=DV.1 a (by simp) hm;refine(Wg.1 a (fun h=>?_) (by refine U e5 ?_;exact hm)).trans e5;obtain h|h:=a_.mp h
   ·exact ha h
   ·obtain h|h:=DV.2 a h
    ·cases h
    ·exact hm h
  refine wS hw fun l h1 h2=>?_;refine⟨l,(hk W QG (by refine U h1 ?_;simp)).trans h1,h2.lists fun a m e=>(hk a (fun z=>?_) (by refine U e ?_;simp)).trans e⟩;rw[z,mZ]at e;cases e
 refine wE.cons (FM.ifs (b:=false) (az.cmp (by kd_p) (by kd_p) Rs.isNone) (fun h=>(by injection h)) fun J=>wE.nil ?_);refine wE.cons (FM.ifs (b:=b.isNone) ((az.cmp (by kd_p) (by kd_p) Rs.isNone).to (Sx b)) (fun he=>wE.cons (FM.ret (d:=.val (.bool true)) (by kd_p) rfl)) (fun he=>wE.nil ?_));obtain _|ring:=b
 ·cases he
 refine zL (X5 ring rfl) fun bZ rest v s4 agL iB s5 zw=>?_;subst s4;have nH:(ww (bZ::rest)).length≤1000000:=by
  have:=(cM _ rfl).2;simp[ww]at this⊢;exact Ev ‹_› (by decide)
 refine Op (af5 (n:=turn) (by exact f7 (bX ..) ‹_› (by decide))) fun ZU jm=>?_;have hsz:(Str.ofString "/aside/").length+(Str.ofString (toString (turn:Int))).length≤1000000:=by
  exact Ev (mw (show(Str.ofString "/aside/").length≤7 by kd_p) jm) (by decide)
 dsimp only[nK];refine wE.cons (FM.assign (d:=.str (dY turn)) (f8.bin (by kd_p) (f8.call (ds:=[.int (turn:Nat)]) (f:=.type "str") (by kd_p) (.inl fun a e=>(by injection e)) (.cons (by kd_p) .nil (by kd_p)) (b8.ad3 ZU) (by kd_p)) (Rs.qH hsz)) (by kd_in) ?_);have wR:(gz K bZ).length≤K.length:=iD _ _;refine wE.cons (FM.Aa (aF.nq (d₀:=.val (.ref X)) (by kd_p) (kL.dict J8) Cu E2 KR (.cons (f8.sub (d₁:=.list (ww (bZ::rest))) (d₂:=.int 0) (by kd_p) (by kd_p) (Rs.item aL.list (by decide) (by rfl) nH)) .nil (by kd_p)) (di.QU J8 s5 (by kd_p) ⟨by kd_p,by kd_p,_,B.ai ..,Ev wR (Ev ‹_› (by decide)),?_⟩)));refine U B.m6 ?_;refine wE.cons (FM.oS hh gI (caps:=[("aside",.str (dY turn)),("ring",.list (ww (bZ::rest)))]) (gs:=[]) (ts:=[("start",.loc),("goal",.loc)]) (out:=(pF bZ (dY turn) L).map pair) (by intros;rfl) (by dsimp only[List.map];decide+kernel) ?_ cI (bF.list (l:=L.map pair) (by kd_p)) trivial ?_ (by kd_in) ?_)
 ·intro z hz;simp only[a_,eF,g5]at hz;obtain rfl|rfl:=hz
  ·exact⟨.aM,.inl rfl,by walk_at "v"⟩
  ·exact⟨.aM,.inl rfl,by walk_at "v"⟩
 ·have e:(pF bZ (dY turn) L).map pair=(L.filter fun J=>true).map fun p=>.tup [.str (if p.1=bZ then dY turn else p.1),.str p.2]:=by
   refine U (lz.mpr (fun J J=>rfl)) ?_;unfold pF;refine U cO ?_;rfl
  refine U e ?_;refine dR.two (xs:=L) (P:=fun J=>true) (F:=fun p=>.tup [.str (if p.1=bZ then dY turn else p.1),.str p.2]) (fun p=>.str p.1) (fun p=>.str p.2) (by kd_p) fun p hp=>?_
  kst_p
  refine⟨eH.nil,fun J=>f8.tuple (.cons (f8.Jj (b:=p.1==bZ) (az.cmp (by kd_p) (f8.sub (d₁:=.list (ww (bZ::rest))) (d₂:=.int 0) (by kd_p) (by kd_p) (Rs.item aL.list (by decide) (by rfl) nH)) Rs.eqStr) (fun h=>?_) (fun h=>?_)) (.cons (by kd_p) .nil (by kd_p)) (by kd_p)) (by simp)⟩
  ·refine U (ak (eq_of_beq h)) ?_;kd_p
  ·refine U (Tk (by simpa using h)) ?_;kd_p
 ·refine wE.nil ⟨n,turn+1,_,_,_,_,_,_,rfl,by exact oZ ‹_›,zw,?_,B.ai ..,rfl⟩;refine wS VZ fun l h1 h2=>?_;exact⟨l,(B.aa _ _ QG).trans h1,h2.lists fun a m e=>(B.aa _ _ (by rintro rfl;rw[J8]at e;cases e)).trans e⟩
theorem ZT (dz:qh T) (t:aV c) (hT:∀x∈gm,T x.1∧T x.2) (HL:gm.length≤100) (Fo:(gm.map Prod.snd).Nodup) (sC:aJ X=some (.dict o6)) (Gp:xR (lg gm) 7 0 o6 gm):
 cD c (k+6) (.ref 305) [.val (.ref X),.list (gm.map pair)] aJ (fun d I=>d= .val (.bool true)):=by
 exact cD.fn (st:=bH 33) (qual:="_law_moved") (dV:=.none) (t.fn rfl rfl rfl rfl) (by kd_p)
  (bC (t.glob (by kd_p)) (bC (t.dw (by kd_p) (by kd_p) (by decide)) (bC (t.glob (by kd_p)) (bC (t.glob (by kd_p)) (bC (t.glob (by kd_p)) (bC (t.glob (by kd_p)) (bC (t.dw (by kd_p) (by kd_p) (by decide)) cI))))))) rfl (fun J J=>.plain rfl (sD fun J J=>rfl)) fun bP A V s bs Z ok w Q E q=>aaH dz (t.at (L:=bP)) hT HL Fo sC Gp A V s bs Z ok w Q E fun f5 f s' Z' r cU dG hp=>q f5 f s' Z' r cU dG (by cases f5<;>first|exact hp|exact hp.elim)
end
end
noncomputable def yb (x:Int×List Str):Int×List Str:=
 let i:=(x.1.fmod x.2.length).toNat
 (x.1.fdiv x.2.length,x.2.take i++[x.2.getD i Str.empty++Str.ofString "/a",x.2.getD i Str.empty++Str.ofString "/b"]++x.2.drop (i+1))
noncomputable def dD (n:Int):Nat→Int×List Str
 |0=>(n,[Str.ofString "/a",Str.ofString "/b"])
 |j+1=>yb (dD n j)
theorem zW (n j):dD n (j+1)=yb (dD n j):=rfl
theorem zZ (n):dD n 0=(n,[Str.ofString "/a",Str.ofString "/b"]):=rfl
noncomputable def gX (n:Int):List Str:=(dD n 4).2
theorem Jc (n):∀j,(dD n j).2.length=2+j∧∀x∈(dD n j).2,x.length≤2+2*j
 |0=>by
  refine⟨rfl,fun x hx=>?_⟩;have e1:(Str.ofString "/a").length=2:=by decide+kernel
  have e2:(Str.ofString "/b").length=2:=by decide+kernel
  simp only[zW,zZ,a_,eF,g5]at hx;obtain rfl|rfl:=hx
  ·exact bT e1
  ·exact bT e2
 |j+1=>by
  refine Op (Jc n j) fun h1 h2=>?_;have e1:(Str.ofString "/a").length=2:=by decide+kernel
  have e2:(Str.ofString "/b").length=2:=by decide+kernel
  have bM:((dD n j).1.fmod ((dD n j).2.length:Int)).toNat<(dD n j).2.length:=rK (ry h1);refine⟨?_,fun x hx=>?_⟩
  ·simp only[zW,zZ,yb,dZ,zy,bW,g6,wO];exact(I2 bM).trans (cQ Nat.succ h1)
  ·have hd:((dD n j).2.getD ((dD n j).1.fmod ((dD n j).2.length:Int)).toNat Str.empty).length≤2+2*j:=by
    refine h2 _ ?_;rw[iM,gh bM];exact sd bM
   simp only[zW,zZ,yb,b_,a_,eF,g5]at hx;rcases hx with(hx|rfl|rfl)|hx
   ·exact RS (h2 x (Gh hx))
   ·rw[CM];exact NW hd e1
   ·rw[CM];exact NW hd e2
   ·exact RS (h2 x (Em hx))
inductive OY (n:Int) (aE:List D) (O:XV) (Y:B):Prop
 |mk (j:Nat) (bU bN:Option D):(j≤4)→(aE=kQ j (4-j))→(Y=B.no)→(O=[⟨"n",.loc,some (.int (dD n j).1)⟩,⟨"ends",.loc,some (.list (ww (dD n j).2))⟩,⟨"step",.loc,bU⟩,⟨"at",.loc,bN⟩,⟨"range",.bz,some (.val (.type "range"))⟩,⟨"len",.bz,some (.val (.builtin "len"))⟩])→OY n aE O Y
theorem aeR (hh:c.hd=false):
 wE c k (vars [("n",.loc)] [.int n] [("ends",.loc),("step",.loc),("at",.loc)] [("range",.type "range"),("len",.builtin "len")]) B.no (gM (bH 23)) (p7 (.list (ww (gX n)))):=by
 kst_p
 refine wE.cons (FM.assign (d:=.list (ww (dD n 0).2)) ?_ (by kd_in) ?_)
 ·exact f8.list (.cons f8.str (.cons f8.str .nil)) (by show 2≤1000;decide)
 refine wE.cons (FM.for hh tL (items:=kQ 0 4) (bF.range ?_ ?_ (by decide)) (OY n)
  ⟨0,_,_,by decide,rfl,rfl,rfl⟩ (fun J J J J=>trivial) ?_ ?_)
 ·kd_p
 ·kd_p
 ·intro d rest NE I Go;obtain⟨j,bU,bN,ff,hr,rfl,rfl⟩:=Go;obtain⟨m,hm⟩:∃m,4-j=m+1:=by
   rcases h:4-j with _|m
   ·rw[h]at hr;injection hr
   ·exact⟨m,rfl⟩
  rw[hm]at hr;refine Op (jd hr) fun s4 eE=>?_;subst s4 eE;refine Op (Jc n j) fun l1 l2=>?_;have cM:(ww (dD n j).2).length=2+j:=by rw[ww,cj,l1]
  refine aP (Int.eq_ofNat_of_zero_le (CP (x:=(dD n j).1) (ry l1))) fun i hi=>?_;have bM:i<(dD n j).2.length:=Lp (JK (ry l1)) hi;have hd:=lQ bM (l1.trans cM.symm);have hk:=acE cM ff;have hM:=Ev hk (show 1000≤1000000 by decide);have jG:(ww (dD n j).2)[i]?=some (.str ((dD n j).2.getD i Str.empty)):=by
   rw[ww,kF,iM,gh bM];rfl
  have gF:((dD n j).2.getD i Str.empty).length≤10:=by
   have:(dD n j).2.getD i Str.empty∈(dD n j).2:=by
    rw[iM,gh bM];exact sd bM
   exact Ev (l2 _ this) (afs ff)
  have i9:(Str.ofString "/a").length=2:=by decide+kernel
  have zF:(Str.ofString "/b").length=2:=by decide+kernel
  have Cc:((ww (dD n j).2).length:Int)=((dD n j).2.length:Int):=cQ Nat.cast (cM.trans l1.symm);refine bl.name (by kd_in) ?_;refine wE.cons (FM.assign (d:=.int i) ?_ (by kd_in) ?_)
  ·refine ZB hi (ZB Cc ?_);refine f8.bin ?_ (f8.len ?_ ?_ aL.list hM) (Rs.uN (we (ry cM)))<;>kd_p
  refine wE.cons (FM.assign (d:=.int (dD n (j+1)).1) ?_ (by kd_in) ?_)
  ·show f8 _ _ _ _ _ (.int ((dD n j).1.fdiv ((dD n j).2.length:Int)));refine ZB Cc ?_;refine f8.bin ?_ (f8.len ?_ ?_ aL.list hM) (Rs.divInt (we (ry cM)) (Ae (Rv hM)))<;>kd_p
  have e3:ww (dD n (j+1)).2=((ww (dD n j).2).take i++[.str ((dD n j).2.getD i Str.empty++Str.ofString "/a"),.str ((dD n j).2.getD i Str.empty++Str.ofString "/b")])++(ww (dD n j).2).drop (i+1):=by
   have lE:((dD n j).1.fmod ((dD n j).2.length:Int)).toNat=i:=by refine U hi ?_;rfl
   simp only[zW,zZ,yb,lE,ww,gK,A4,CO,aK,sq]
  refine wE.cons (FM.assign (d:=.list (ww (dD n (j+1)).2)) ?_ (by kd_in) ?_)
  ·refine U e3 ?_;refine f8.bin (f8.bin ?_ ?_ (Rs.D_ aL.list aL.list ?_)) ?_ (Rs.D_ aL.list aL.list ?_)
   ·refine ZB (P8 (fN hd)) ?_;refine f8.slice ?_ aL.list fy.none (fy.some ?_) fy.none (by simp) hM
    ·kd_p
    ·kd_p
   ·refine f8.list (.cons (f8.bin (f8.sub ?_ ?_ (Rs.item (l:=ww (dD n j).2) (i:=(i:Int)) aL.list (kG _) jG hM)) f8.str (Rs.qH (K8 gF i9))) (.cons (f8.bin (f8.sub ?_ ?_ (Rs.item (l:=ww (dD n j).2) (i:=(i:Int)) aL.list (kG _) jG hM)) f8.str (Rs.qH (K8 gF zF))) .nil)) (by simp)
    all_goals kd_p
   ·simp only[zy,bW,g6];exact Yj hk
   ·refine ZB (CR hd) ?_;refine f8.slice ?_ aL.list (fy.some (i:=((i+1:Nat):Int)) ?_) fy.none fy.none (by simp) hM
    ·kd_p
    ·exact f8.bin (by kd_p) f8.int Rs.addInt
   ·simp only[dZ,zy,bW,g6,wO];exact aeC hd hk
  refine wE.nil ?_;refine⟨j+1,_,_,yQ hm,?_,rfl,rfl⟩;refine U (show 4-(j+1)=m from cQ Nat.pred hm) ?_;rfl
 ·intro NE I Go;obtain⟨j,bU,bN,ff,hr,rfl,rfl⟩:=Go;have:j=4:=by
   rcases h:4-j with _|m
   ·exact HK ff (FF h)
   ·rw[h]at hr;injection hr
  subst this;refine wE.nil ?_;refine wE.cons (FM.ret (d:=.list (ww (gX n))) ?_ rfl);unfold gX
  kd_p
theorem OW (x:aV c):cu c (k+1) (.ref 247) [.int n] (.list (ww (gX n))):=
 cu.fn (Jg x) (by kd_p) (bC (V4 x) (bC (x.dw (by kd_p) (by kd_p) (by decide)) cI)) rfl (fun J J=>jg fun J=>rfl) (fun bP=>aeR (c:=c.at bP) x.hd)
noncomputable abbrev dU:=List Bool
noncomputable def rB (b:Bool):List Nat:=[47,if b then 98 else 97]
noncomputable def gj (p:dU):List Nat:=p.flatMap rB
noncomputable def cH (p:dU):Str:=⟨(gj p).toArray⟩
theorem LZ:Str.ofString "/a" =cH [false]:=by decide+kernel
theorem R8:Str.ofString "/b" =cH [true]:=by decide+kernel
theorem TM (p q):gj (p++q)=gj p++gj q:=by simp[gj]
theorem adh (p q):cH (p++q)=cH p++cH q:=by
 apply Str.ext';rw[Str.cps_append];simp[cH,TM]
theorem zO (p):(cH p).length=2*p.length:=by
 show(gj p).toArray.size=_
 induction p with
 |nil=>rfl
 |cons b p ih=>
  simp only[gj,jZ,rB,jL,dZ,bW,g6]at*;lia
theorem adD (h:rB b++l=rB b'++l'):b=b'∧l=l':=by
 simp only[rB,nY,oA,vL,true_and]at h;obtain⟨h1,h2⟩:=h;refine⟨?_,h2⟩;cases b<;>cases b'<;>simp_all
theorem RV:∀{p q:dU},gj p=gj q→p=q
 |[],[],_=>rfl
 |[],b::q,h=>by simp[gj,rB]at h
 |b::p,[],h=>by simp[gj,rB]at h
 |b::p,b'::q,h=>by
  simp only[gj,jZ]at h;refine Op (adD h) fun s4 h2=>?_;subst s4;exact U (RV (p:=p) (q:=q) h2) rfl
theorem Nc (h:cH p=cH q):p=q:=by
 apply RV;have:=cQ (fun x:Str=>x.cps.toList) h;simpa [cH]using this
noncomputable def jq (p q:dU):Prop:=¬p<+:q∧¬q<+:p
theorem jq.symm (h:jq p q):jq q p:=⟨h.2,h.1⟩
theorem jq.ne (h:jq p q):p≠q:=by rintro rfl;exact h.1 (Dq _)
theorem jq.left (h:jq p q) (r):jq (p++r) q:=by
 refine⟨fun x=>h.1 (List.IsPrefix.trans (List.prefix_append _ _) x),fun x=>?_⟩;rcases List.prefix_or_prefix_of_prefix x (List.prefix_append p r)with y|y
 ·exact h.2 y
 ·exact h.1 y
theorem jq.right (h:jq p q) (r):jq p (q++r):=(h.symm.left r).symm
noncomputable def dj (n:Int):Nat→Int×List dU
 |0=>(n,[[false],[true]])
 |j+1=>
  let x:=dj n j
  let i:=(x.1.fmod x.2.length).toNat
  (x.1.fdiv x.2.length,x.2.take i++[x.2.getD i []++[false],x.2.getD i []++[true]]++x.2.drop (i+1))
theorem BO (n j):dj n (j+1)=((dj n j).1.fdiv (dj n j).2.length,(dj n j).2.take ((dj n j).1.fmod (dj n j).2.length).toNat++[(dj n j).2.getD ((dj n j).1.fmod (dj n j).2.length).toNat []++[false],(dj n j).2.getD ((dj n j).1.fmod (dj n j).2.length).toNat []++[true]]++(dj n j).2.drop (((dj n j).1.fmod (dj n j).2.length).toNat+1)):=rfl
theorem yY (n):dj n 0=(n,[[false],[true]]):=rfl
theorem Ed (n):∀j,(dj n j).2.length=2+j
 |0=>rfl
 |j+1=>by
  have h1:=Ed n j;simp only[BO,yY,dZ,zy,bW,g6,wO];exact(I2 (rK (ry h1))).trans (cQ Nat.succ h1)
theorem PR (n):∀j,(dD n j).1=(dj n j).1∧(dD n j).2=(dj n j).2.map cH
 |0=>by
  refine⟨rfl,?_⟩;show [Str.ofString "/a",Str.ofString "/b"]=_;refine U LZ (U R8 ?_);rfl
 |j+1=>by
  refine Op (PR n j) fun h1 h2=>?_;have hl:=Ed n j;have bM:((dj n j).1.fmod ((dj n j).2.length:Int)).toNat<(dj n j).2.length:=rK (ry hl);simp only[zW,zZ,yb,BO,yY,h1,h2,cj];refine⟨trivial,?_⟩;have hg:((dj n j).2.map cH).getD ((dj n j).1.fmod ((dj n j).2.length:Int)).toNat Str.empty=cH ((dj n j).2.getD ((dj n j).1.fmod ((dj n j).2.length:Int)).toNat []):=by
   rw[iM,iM,kF,gh bM];rfl
  refine U hg (U LZ (U R8 ?_));simp only[gK,A4,aK,sq,CO,adh]
noncomputable def BZ (n:Int):List dU:=(dj n 4).2
theorem RZ (n):gX n=(BZ n).map cH:=(PR n 4).2
theorem U6 (h:(l++p::r).Pairwise jq):(l++[p++[false],p++[true]]++r).Pairwise jq:=by
 rw[IQ,yS]at h;refine b5 h fun h1 aH h4=>?_;refine Op aH fun h2 h3=>?_;rw[j6,IQ];refine⟨h1,?_,fun x hx y No=>?_⟩
 ·show((p++[false])::(p++[true])::r).Pairwise jq;rw[yS,yS];refine⟨fun y No=>?_,fun y No=>(h2 y No).left _,h3⟩;refine bD No ?_ fun No=>?_
  ·constructor<;>(intro x;have:=(List.prefix_append_right_inj p).mp x;revert this;decide)
  ·exact(h2 y No).left _
 ·have No:y=p++[false]∨y=p++[true]∨y∈r:=by simpa using No
  obtain rfl|rfl|No:=No
  ·exact(h4 x hx p (.head _)).right _
  ·exact(h4 x hx p (.head _)).right _
  ·exact h4 x hx y (.tail _ No)
theorem Nv (n):∀j,(dj n j).2.Pairwise jq
 |0=>by
  show [[false],[true]].Pairwise jq;refine .cons (fun y No=>?_) (.cons (fun y No=>nomatch No) .nil);refine bD No ?_ fun No=>?_
  ·constructor<;>decide
  ·cases No
 |j+1=>by
  have ih:=Nv n j;have hl:=Ed n j;have bM:((dj n j).1.fmod ((dj n j).2.length:Int)).toNat<(dj n j).2.length:=rK (ry hl);simp only[BO,yY];refine U6 (p:=_) ?_;rw[iM,gh bM];simp only[Bh];rw[←rJ bM,MA];exact ih
theorem Mz (n):(BZ n).Pairwise jq:=Nv n 4
theorem Q3 (n):∀j,∀p∈(dj n j).2,0<p.length∧p.length≤1+j
 |0,p,h=>by
  have h:p=[false]∨p=[true]:=by simpa [yY]using h
  rcases h with rfl|rfl<;>decide
 |j+1,p,h=>by
  have ih:=Q3 n j;have hl:=Ed n j;have bM:((dj n j).1.fmod ((dj n j).2.length:Int)).toNat<(dj n j).2.length:=rK (ry hl);have hd:(dj n j).2.getD ((dj n j).1.fmod ((dj n j).2.length:Int)).toNat []∈(dj n j).2:=by
   rw[iM,gh bM];exact sd bM
  have i1:=ih _ hd;simp only[BO,yY,b_,a_,eF,g5]at h;rcases h with(h|rfl|rfl)|h
  ·exact QH (ih p (Gh h))
  ·refine U dZ ?_;simp only[bW,g6];exact Li i1
  ·refine U dZ ?_;simp only[bW,g6];exact Li i1
  ·exact QH (ih p (Em h))
theorem ado (n):∀p∈BZ n,0<p.length∧p.length≤5:=Q3 n 4
theorem Gu (n):(gX n).Nodup:=by
 rw[RZ];have h:=Mz n;unfold List.Nodup;rw[Fj];exact h.imp fun{a b} r_ e=>r_.ne (Nc e)
noncomputable def uH (l:dU) (all:List dU):Prop:=(∀t∈all,l<+:t)∧∀m:dU,(∀t∈all,m<+:t)→m<+:l
theorem uH.uniq (x:uH l all) (y:uH m all):l=m:=(y.2 l x.1).eq_of_length (HK (y.2 l x.1).length_le (x.2 m y.1).length_le)
noncomputable def ny:dU→dU→dU
 |x::xs,y::ys=>if x !=y then []else x::ny xs ys
 |_,_=>[]
theorem zl (x xs y ys):ny (x::xs) (y::ys)=if x !=y then []else x::ny xs ys:=rfl
theorem LW (y):ny [] y=[]:=rfl
theorem Rb (x xs):ny (x::xs) []=[]:=rfl
theorem PK:∀{p q m:dU},m<+:p→m<+:q→m<+:ny p q
 |_,_,[],_,_=>qI
 |[],_,_::_,h,_=>by simp at h
 |_::_,[],_::_,_,h=>by simp at h
 |x::xs,y::ys,z::m,h,h'=>by
  refine Op (lM.mp h) fun e1 k1=>?_;refine Op (lM.mp h') fun e2 k2=>?_;subst e1;subst e2;rw[zl];simp only[I1,j3,jA];exact lM.mpr ⟨rfl,PK k1 k2⟩
noncomputable def tg:dU→List dU→dU
 |[],_=>[]
 |b::r,e_=>if e_.all (fun q=>q.head?==some b)then b::tg r (e_.map List.tail)else []
theorem Kn (b r e_):tg (b::r) e_=if e_.all (fun q=>q.head?==some b)then b::tg r (e_.map List.tail)else []:=rfl
theorem O0:∀p e_,uH (tg p e_) (p::e_)
 |[],e_=>⟨fun t J=>qI,fun m h=>h [] (.head _)⟩
 |b::r,e_=>by
  rw[Kn];split
  ·rename_i h;simp only[j8,lR]at h;have ih:=O0 r (e_.map List.tail);have aN:∀q∈e_,q=b::q.tail:=fun q Ch=>by
    have:=h q Ch;obtain _|⟨c,q⟩:=q
    ·simp at this
    ·simp at this;refine U this ?_;rfl
   refine⟨fun t FS=>?_,fun m hm=>?_⟩
   ·refine bD FS ?_ fun FS=>?_
    ·exact lM.mpr ⟨rfl,ih.1 r (.head _)⟩
    ·exact U (aN t FS) (lM.mpr ⟨rfl,ih.1 _ (.tail _ (cA FS))⟩)
   ·obtain _|⟨c,m⟩:=m
    ·exact qI
    ·refine Op (lM.mp (hm (b::r) (.head _))) fun s4 hr=>?_;subst s4;refine lM.mpr ⟨rfl,ih.2 m fun t FS=>?_⟩;refine bD FS ?_ fun FS=>?_
     ·exact hr
     ·refine wS (ao.mp FS) fun q Ch s4=>?_;subst s4;have:=hm q (.tail _ Ch);rw[aN q Ch]at this;exact(lM.mp this).2
  ·rename_i h;refine⟨fun t J=>qI,fun m hm=>?_⟩;obtain _|⟨c,m⟩:=m
   ·exact qI
   ·exfalso;apply h;refine Op (lM.mp (hm (b::r) (.head _))) fun s4 hr=>?_;subst s4;simp only[j8,lR];intro q Ch;refine aP (hm q (.tail _ Ch)) fun w e=>?_;refine ZB e ?_;rfl
noncomputable def eu:dU→dU→Bool
 |[],_=>false
 |_::_,[]=>true
 |x::xs,y::ys=>if x==y then eu xs ys else x&& !y
theorem o7 (x xs y ys):eu (x::xs) (y::ys)=if x==y then eu xs ys else x&& !y:=rfl
theorem xG (y):eu [] y=false:=rfl
theorem CN (x xs):eu (x::xs) []=true:=rfl
theorem MT:∀{a t b:dU},eu a t=false→eu t b=false→ny a b<+:t
 |[],_,_,_,_=>by simp[zl,LW,Rb]
 |_::_,_,[],_,_=>by simp[zl,LW,Rb]
 |x::xs,[],y::ys,h,_=>by simp[o7,xG,CN]at h
 |x::xs,z::zs,y::ys,h,h'=>by
  rw[zl];split
  ·exact qI
  ·rename_i Wv;have:x=y:=by simpa using Wv
   subst this;rw[o7]at h h';by_cases e:x=z
   ·subst e;simp only[sX,mC]at h h';exact lM.mpr ⟨rfl,MT h h'⟩
   ·cases x<;>cases z<;>simp at h h' e
theorem O_:∀a,eu a a=false:=fun k7=>by
 induction k7 with
 |nil=>exact rfl
 |cons x xs mq=>exact by rw[o7];simp[(mq)]
theorem Hi:∀{a b:dU},eu a b=true→eu b a=false
 |[],_,h=>by simp[o7,xG,CN]at h
 |_::_,[],_=>rfl
 |x::xs,y::ys,h=>by
  rw[o7]at h⊢;cases x<;>cases y<;>simp at h⊢<;>exact Hi h
theorem yf:∀{a b c:dU},eu a b=false→eu b c=false→eu a c=false
 |[],_,_,_,_=>rfl
 |_::_,[],_,h,_=>by simp[o7,xG,CN]at h
 |_::_,_::_,[],_,h=>by simp[o7,xG,CN]at h
 |x::xs,y::ys,z::zs,h,h'=>by
  rw[o7]at h h'⊢;cases x<;>cases y<;>cases z<;>simp at h h'⊢<;>exact yf h h'
theorem P_:∀b x r,eu (b++x::r) b=true
 |[],_,_=>rfl
 |y::b,x,r=>by
  show eu (y::(b++x::r)) (y::b)=true;rw[o7];simp[P_ b x r]
noncomputable def kj:dU→List dU→dU
 |b,[]=>b
 |b,d::r=>kj (if eu b d then d else b) r
theorem I7 (b d r):kj b (d::r)=kj (if eu b d then d else b) r:=rfl
noncomputable def ly:dU→List dU→dU
 |b,[]=>b
 |b,d::r=>ly (if eu d b then d else b) r
theorem I0 (b d r):ly b (d::r)=ly (if eu d b then d else b) r:=rfl
theorem HJ:∀b r,kj b r∈b::r
 |b,[]=>.head _
 |b,d::r=>by
  rw[I7];rcases a_.mp (HJ (if eu b d then d else b) r)with h|h
  ·refine U h ?_;cases eu b d
   ·exact .head _
   ·exact .tail _ (.head _)
  ·exact .tail _ (.tail _ h)
theorem PN:∀b r,ly b r∈b::r
 |b,[]=>.head _
 |b,d::r=>by
  rw[I0];rcases a_.mp (PN (if eu d b then d else b) r)with h|h
  ·refine U h ?_;cases eu d b
   ·exact .head _
   ·exact .tail _ (.head _)
  ·exact .tail _ (.tail _ h)
theorem K_:∀b r,∀t∈b::r,eu (kj b r) t=false
 |b,[],t,h=>by
  obtain rfl|h:=a_.mp h
  ·exact O_ _
  ·cases h
 |b,d::r,t,h=>by
  rw[I7];have ih:=K_ (if eu b d then d else b) r;have h0:=ih _ (.head _);obtain rfl|h:=a_.mp h
  ·induction e:eu t d with
   |true=>rw[e]at h0;exact yf h0 (Hi e)
   |false=>rw[e]at h0;exact h0
  obtain rfl|h:=a_.mp h
  ·induction e:eu b t with
   |true=>rw[e]at h0;exact h0
   |false=>rw[e]at h0;exact yf h0 e
  ·exact ih t (.tail _ h)
theorem Jf:∀b r,∀t∈b::r,eu t (ly b r)=false
 |b,[],t,h=>by
  obtain rfl|h:=a_.mp h
  ·exact O_ _
  ·cases h
 |b,d::r,t,h=>by
  rw[I0];have ih:=Jf (if eu d b then d else b) r;have h0:=ih _ (.head _);obtain rfl|h:=a_.mp h
  ·induction e:eu d t with
   |true=>rw[e]at h0;exact yf (Hi e) h0
   |false=>rw[e]at h0;exact h0
  obtain rfl|h:=a_.mp h
  ·induction e:eu t b with
   |true=>rw[e]at h0;exact h0
   |false=>rw[e]at h0;exact yf e h0
  ·exact ih t (.tail _ h)
theorem Ny (p) (ps):uH (ny (kj p ps) (ly p ps)) (p::ps):=
 ⟨fun t FS=>MT (K_ p ps t FS) (Jf p ps t FS),fun m hm=>PK (hm _ (HJ p ps)) (hm _ (PN p ps))⟩
theorem Xv (p) (ps) (i) (hi:i<(kj p ps).length) (e:(kj p ps).take i=(ly p ps).take i):i<(ly p ps).length:=by
 obtain h|h:=vG i (ly p ps).length
 ·exact h
 exfalso;have h1:=Jf p ps _ (HJ p ps);rw[xu h]at e;have h2:kj p ps=ly p ps++(kj p ps)[i]::(kj p ps).drop (i+1):=by
  conv=>lhs;rw[←MA i (kj p ps),e,rJ hi]
 rw[h2,P_]at h1;injection h1
noncomputable abbrev aN (x:Str):List Nat:=x.cps.toList
theorem ql (h:aN x=aN y):x=y:=Str.ext' (HG.mp h)
theorem qp (x y):aN (x++y)=aN x++aN y:=by show(x++y).cps.toList=_;rw[Str.cps_append,EL]
theorem nU (x):(aN x).length=x.length:=by simp[aN,Str.length]
theorem EH:aQ=⟨#[47]⟩:=by decide+kernel
theorem qi:aN aQ=[47]:=by decide+kernel
theorem HW:aN Str.empty=[]:=by decide+kernel
theorem t8 (sep):∀x ys,aN (Str.join sep (x::ys))=aN x++ys.flatMap fun y=>aN sep++aN y
 |x,[]=>by show aN x=_;simp
 |x,y::ys=>by
  have ih:=t8 sep y ys;show aN (x++sep++Str.join sep (y::ys))=_;rw[qp,qp,ih];simp
theorem Txt.join_eq (sep) (ys):Txt.join sep ys=Str.join sep ys:=StrLaws.glued_eq_join sep ys
noncomputable def cT (ys:List Str):Str:=⟨(ys.flatMap fun y=>47::aN y).toArray⟩
theorem nI (ys):aN (cT ys)=ys.flatMap fun y=>47::aN y:=by simp[aN,cT]
theorem Q7 (ys):cT ys=Str.join aQ (Str.empty::ys):=by
 apply ql;rw[t8,nI,HW,qi];rfl
theorem Et (ys zs):cT ys++cT zs=cT (ys++zs):=by
 apply ql;rw[qp,nI,nI,nI,Bb]
theorem N_:∀{x y a b:List Nat},47∉x→47∉y→x++47::a=y++47::b→x=y∧a=b
 |[],[],_,_,_,_,h=>by simp at h;exact⟨rfl,h⟩
 |[],c::y,_,_,_,No,h=>by
  simp at h;exact absurd (h.1▸CQ) No
 |c::x,[],_,_,hx,_,h=>by
  simp at h;exact absurd (h.1▸CQ) hx
 |c::x,d::y,a,b,hx,No,h=>by
  simp only[nY,vL]at h;refine Op (N_ (x:=x) (y:=y) (fun m=>hx (.tail _ m)) (fun m=>No (.tail _ m)) h.2) fun e1 e2=>?_;exact⟨by exact U h.1 (U e1 rfl),e2⟩
theorem Nn:∀{xs ys:List Str} {x y:Str},(∀z∈x::xs,47∉aN z)→(∀z∈y::ys,47∉aN z)→(aN x++xs.flatMap fun z=>47::aN z)=(aN y++ys.flatMap fun z=>47::aN z)→x::xs=y::ys
 |[],[],x,y,_,_,h=>by
  have e:x=y:=ql (by simpa only[uq,fV]using h);exact U e rfl
 |[],gx::ys,x,y,hx,No,h=>by
  exfalso;apply hx x (.head _);simp only[uq,fV,jZ]at h;refine U h ?_;simp
 |mG::xs,[],x,y,hx,No,h=>by
  exfalso;apply No y (.head _);simp only[uq,fV,jZ]at h;refine ZB h ?_;simp
 |mG::xs,gx::ys,x,y,hx,No,h=>by
  simp only[jZ,nY]at h;refine Op (N_ (hx x (.head _)) (No y (.head _)) h) fun e1 e2=>?_;exact U (ql e1) (U (Nn (fun z hz=>hx z (.tail _ hz)) (fun z hz=>No z (.tail _ hz)) e2) rfl)
theorem LX (h:∀z∈x::xs,47∉aN z):Txt.split (Str.join aQ (x::xs)) aQ=x::xs:=by
 have h1:=StrLaws.join_split (Str.join aQ (x::xs)) aQ;have h2:=StrLaws.split_free (Str.join aQ (x::xs)) 47;rw[←EH]at h2;have h3:Txt.split (Str.join aQ (x::xs)) aQ≠[]:=fun e=>by
  have:=split_pos (Str.join aQ (x::xs)) aQ;rw[e]at this;simp at this
 rcases Ch:Txt.split (Str.join aQ (x::xs)) aQ with _|⟨y,ys⟩
 ·exact absurd Ch h3
 ·rw[Ch]at h1 h2;refine(Nn h h2 ?_).symm;have:=cQ aN h1;rw[t8,t8,qi]at this;exact this.symm
theorem Xr (h:∀z∈ys,47∉aN z):Txt.split (cT ys) aQ=Str.empty::ys:=by
 rw[Q7];refine LX fun z hz=>?_;refine bD hz ?_ fun hz=>?_
 ·refine U HW ?_;simp
 ·exact h z hz
noncomputable def f_ (b:Bool):Str:=⟨#[if b then 98 else 97]⟩
noncomputable abbrev bq (p:dU):List Str:=p.map f_
theorem z8 (b):aN (f_ b)=[if b then 98 else 97]:=rfl
theorem L_ (p):∀z∈bq p,47∉aN z:=fun z hz=>by
 refine wS (ao.mp hz) fun b J s4=>?_;subst s4;rw[z8];cases b<;>simp
theorem CT (p):cH p=cT (bq p):=by
 apply ql;rw[nI];show(gj p).toArray.toList=_;delta gj bq;rw[List.flatMap_map];rfl
theorem ug (p):dh (cH p)=Str.empty::bq p:=by
 delta dh;rw[CT,Xr (L_ p)]
theorem Bk (p):gr (cH p)=bq p:=by
 delta gr;rw[ug,je];have h1:A2 Str.empty=false:=by decide+kernel
 refine U h1 (U (Tk (by simp)) ?_);refine lz.mpr fun z hz=>?_;refine wS (ao.mp hz) fun b J s4=>?_;subst s4;cases b<;>decide+kernel
theorem O6 (h:f_ a=f_ b):a=b:=by
 have:=cQ aN h;rw[z8,z8]at this;cases a<;>cases b<;>simp at this<;>rfl
theorem ED (a b):(f_ a==f_ b)=(a==b):=by cases a<;>cases b<;>decide+kernel
theorem Mx:∀d b:dU,fj false (bq d) (bq b)=eu b d
 |[],[]=>rfl
 |[],_::_=>rfl
 |_::_,[]=>by rw[xG];rfl
 |x::d,y::b=>by
  show fj false (f_ x::bq d) (f_ y::bq b)=_;rw[AW,o7,ED,Mx d b];cases x<;>cases y<;>first|rfl|decide+kernel
theorem OL:∀d b:dU,fj true (bq d) (bq b)=eu d b
 |[],[]=>rfl
 |[],_::_=>by rw[xG];rfl
 |_::_,[]=>rfl
 |x::d,y::b=>by
  show fj true (f_ x::bq d) (f_ y::bq b)=_;rw[AW,o7,ED,OL d b];cases x<;>cases y<;>first|rfl|decide+kernel
theorem KI:∀p ps,oO false (bq p) (ps.map bq)=bq (kj p ps)
 |p,[]=>rfl
 |p,d::r=>by
  rw[aK,Cd,I7,Mx];cases eu p d<;>exact KI _ r
theorem Qo:∀p ps,oO true (bq p) (ps.map bq)=bq (ly p ps)
 |p,[]=>rfl
 |p,d::r=>by
  rw[aK,Cd,I0,OL];cases eu d p<;>exact Qo _ r
theorem MI (p) (ps):lB (cH p) (ps.map cH)=bq (kj p ps):=by
 delta lB;rw[Bk,cO,show(gr∘cH)=bq from funext Bk,KI]
theorem RD (p) (ps):lA (cH p) (ps.map cH)=bq (ly p ps):=by
 delta lA;rw[Bk,cO,show(gr∘cH)=bq from funext Bk,Qo]
theorem J':∀a b:dU,jE (bq a) (bq b)=bq (ny a b)
 |[],_=>rfl
 |_::_,[]=>rfl
 |x::a,y::b=>by
  show jE (f_ x::bq a) (f_ y::bq b)=_;rw[wj,zl,J' a b];have:(f_ x !=f_ y)=(x !=y):=by delta bne;rw[ED]
  refine U this ?_;split<;>rfl
noncomputable def rm (l:dU):Str:=if l=[]then aQ else cH l
theorem Mw (l):aQ++Txt.join aQ (bq l)=rm l:=by
 delta rm;rw[Txt.join_eq];obtain _|⟨b,r⟩:=l
 ·refine U (ak rfl) ?_;decide+kernel
 ·rw[Tk (by simp),CT];apply ql;show aN (aQ++Str.join aQ (f_ b::bq r))=aN (cT (f_ b::bq r));rw[qp,t8,qi,nI];rfl
theorem PZ (p) (ps):j5 (cH p) (ps.map cH)=rm (ny (kj p ps) (ly p ps)):=by
 delta j5;rw[MI,RD,J',Mw]
theorem Q_:∀p e_,rW (bq p) (e_.map bq)=bq (tg p e_)
 |[],e_=>rfl
 |b::r,e_=>by
  have ih:=Q_ r (e_.map List.tail);unfold rW at ih⊢;show(((o8 (f_ b::bq r) (e_.map bq)).takeWhile mX).map (fun x=>x.headD Str.empty))=_;rw[vz,Kn];have oz:(e_.map bq).map List.tail=(e_.map List.tail).map bq:=by
   refine U cO (U cO ?_);exact ve fun q J=>by cases q<;>rfl
  by_cases h:e_.all (fun q=>q.head?==some b)=true
  ·refine U (ak h) ?_;have hh:∀q∈e_,q.head?=some b:=fun q Ch=>by simpa using j8.mp h q Ch
   have h1:(e_.map bq).all (fun r=>!r.isEmpty)=true:=by
    rw[j8];intro z hz;refine wS (ao.mp hz) fun q Ch s4=>?_;subst s4;have:=hh q Ch;obtain _|⟨c,q⟩:=q
    ·injection this
    ·rfl
   refine U (ak h1) ?_;have cW:mX (f_ b::(e_.map bq).map (fun x=>x.headD Str.empty))=true:=by
    unfold mX;rw[Ce,xB];intro z hz;have:z=f_ b:=by
     refine bD hz ?_ fun hz=>?_
     ·rfl
     ·rw[cO]at hz;refine wS (ao.mp hz) fun q Ch s4=>?_;subst s4;have:=hh q Ch;obtain _|⟨c,q⟩:=q
      ·injection this
      ·obtain rfl:=bh this;rfl
    refine U this ?_;simp
   refine U (Np cW) (U aK (U oz (U ih ?_)));rfl
  ·refine U (Tk h) ?_;split
   ·rename_i h1;have cW:mX (f_ b::(e_.map bq).map (fun x=>x.headD Str.empty))≠true:=fun cW=>by
     apply h;rw[j8];intro q Ch;unfold mX at cW;rw[Ce,xB]at cW;have h2:=j8.mp h1 (bq q) (cA Ch);obtain _|⟨c,q⟩:=q
     ·injection h2
     ·have h3:=cW (f_ c) (by
       refine .tail _ ?_;refine U cO ?_;exact ao.mpr ⟨c::q,Ch,rfl⟩)
      have h4:f_ c=f_ b:=by simpa using h3
      refine U (O6 h4) ?_;simp
    refine U (List.takeWhile_cons_of_neg cW) ?_;rfl
   ·rfl
theorem Th (p) (ps):rU (cH p) (ps.map cH)=rm (tg p ps):=by
 delta rU;have h1:(ps.map cH).map dh=(ps.map bq).map (fun x=>Str.empty::x):=by
  refine U cO (U cO ?_);exact ve fun q J=>ug q
 rw[ug,h1];have h2:rW (Str.empty::bq p) ((ps.map bq).map (fun x=>Str.empty::x))=Str.empty::rW (bq p) (ps.map bq):=by
  delta rW;rw[vz];have h3:(((ps.map bq).map (fun x=>Str.empty::x)).all fun r=>!r.isEmpty)=true:=by
   rw[j8];intro z hz;refine wS (ao.mp hz) fun q J s4=>?_;subst s4;rfl
  refine U (ak h3) ?_;have h4:((ps.map bq).map (fun x=>Str.empty::x)).map List.tail=ps.map bq:=by
   exact U cO (Bj _)
  have cW:mX (Str.empty::((ps.map bq).map (fun x=>Str.empty::x)).map (fun x=>x.headD Str.empty))=true:=by
   delta mX;rw[Ce,xB];intro z hz;have:z=Str.empty:=by
    refine bD hz ?_ fun hz=>?_
    ·rfl
    ·rw[cO]at hz;refine wS (ao.mp hz) fun q J s4=>?_;subst s4;rfl
   refine U this ?_;simp
  refine U (Np cW) (U aK (U h4 ?_));rfl
 rw[h2,Q_];delta C4 rm;rw[Txt.join_eq,←Q7];rcases Ch:tg p ps with _|⟨b,r⟩
 ·have:(cT (bq [])).length=0:=by decide+kernel
  rw[this];rfl
 ·have:(cT (bq (b::r))).length≠0:=by
   rw[←CT,zO];simp
  rw[ak (by simpa using this),Tk (by simp),CT]
theorem zU (x y):Txt.startswith x y=true↔aN y<+:aN x:=by
 unfold Txt.startswith
 rw[kW,StrLaws.subAt_eq,pG,lR,yc];have h1:=nU x;have h2:=nU y;constructor
 ·intro Go;refine Op Go fun J h=>?_;rw[←h2]at h;show aN y<+:aN x;have h':(aN x).take (aN y).length=aN y:=h;exact ZB h' (List.take_prefix _ _)
 ·intro h;refine⟨by have:=h.length_le;rw[nU,nU]at this;exact Ev (bT (BE _)) this,?_⟩;exact ZB h2 ((List.prefix_iff_eq_take.mp h).symm)
theorem u9 (p):aN (cH p)=gj p:=rfl
theorem J6:∀p q:dU,(gj q++[47])<+:(gj p++[47])↔q<+:p
 |p,[]=>by
  refine⟨fun J=>qI,fun J=>?_⟩
  induction p with
  |nil=>exact Dq _
  |cons b r=>
   show [47]<+:47::_;exact lM.mpr ⟨rfl,qI⟩
 |[],c::q=>by
  constructor
  ·intro h;have:=h.length_le;simp[gj,rB]at this
  ·intro h;simp at h
 |b::p,c::q=>by
  have ih:=J6 p q;show(47::(if c then 98 else 97)::(gj q++[47]))<+:(47::(if b then 98 else 97)::(gj p++[47]))↔_;rw[lM,lM,lM,ih];constructor
  ·intro Go;obtain⟨_,h1,h2⟩:=Go;refine⟨?_,h2⟩;cases b<;>cases c<;>simp_all
  ·intro Go;obtain⟨rfl,h2⟩:=Go;exact⟨rfl,rfl,h2⟩
theorem Py (p q):cF (cH p) (cH q)=true↔(q<+:p∨p<+:q):=by
 unfold cF;have e:aN (Str.ofString "/")=[47]:=qi;rw[o5,zU,zU,qp,qp,e,u9,u9,J6,J6]
theorem T4 (h:jq p q):cF (cH p) (cH q)=false:=by
 rw[←BR,Py];exact fun h'=>h'.elim h.2 h.1
noncomputable def u5 (s:Str):Prop:=∃p:dU,0<p.length∧p.length≤5∧s=cH p
theorem Kh (hp:0<p.length):(rm l==cH p)=decide (l=p):=by
 unfold rm;split
 ·rename_i h;subst h;have h1:([]:dU)≠p:=by rintro rfl;simp at hp
  have h2:aQ≠cH p:=by
   intro e;have h3:=cQ Str.length e;rw[zO]at h3;have:aQ.length=1:=by decide+kernel
   lia
  exact U (decide_eq_false h1) (FL.mpr h2)
 ·rw[qb,lR,pG];exact⟨Nc,fun e=>by exact U e rfl⟩
theorem IV:∀{ps:List Str},(∀q∈ps,u5 q)→∃e_:List dU,ps=e_.map cH∧∀q∈e_,0<q.length∧q.length≤5
 |[],_=>⟨[],rfl,fun J h=>nomatch h⟩
 |s::ps,h=>by
  refine aU (h s (.head _)) fun p h1 h2 s4=>?_;subst s4;refine wS (IV fun q Ch=>h q (.tail _ Ch)) fun e_ s4 h3=>?_;subst s4;refine⟨p::e_,rfl,fun q Ch=>?_⟩;refine bD Ch ?_ fun Ch=>?_
  ·exact⟨h1,h2⟩
  ·exact h3 q Ch
theorem Pj (p) (i):(bq p).take i=bq (p.take i):=(A4).symm
theorem Lr:∀{p q:dU},bq p=bq q→p=q
 |[],[],_=>rfl
 |[],_::_,h=>by injection h
 |_::_,[],h=>by injection h
 |a::p,b::q,h=>by
  simp only[bq,aK,vL]at h;exact U (O6 h.1) (U (Lr h.2) rfl)
theorem YH:qh u5:=by
 refine⟨fun s hs=>?_,fun s ss hs EK i hi FS=>?_,fun s ss hs EK M2=>?_,fun x y hx No=>?_⟩
 ·refine aU hs fun p h1 h2 s4=>?_;subst s4;refine Cs (by rw[zO];exact Ev (vo 2 h2) (by decide)) ?_ ?_ ?_ ?_
  ·rw[ug];simp;exact Ev ‹_› (by decide)
  ·rw[ug];simp
  ·intro y No;rw[ug]at No;refine bD No ?_ fun No=>?_
   ·have:Str.empty.length=0:=by decide+kernel
    decide
   ·refine wS (ao.mp No) fun b J s4=>?_;subst s4;rw[←nU,z8];simp
  ·rw[zU,qi,u9];obtain _|⟨b,r⟩:=p
   ·simp at h1
   ·exact lM.mpr ⟨rfl,qI⟩
 ·refine aU hs fun p h1 h2 s4=>?_;subst s4;refine wS (IV EK) fun ps s4 h3=>?_;subst s4;rw[MI]at hi FS;rw[RD]at FS⊢;rw[Pj,Pj]at FS;rw[cj]at hi⊢;exact Xv p ps i hi (Lr FS)
 ·refine aU hs fun p h1 h2 s4=>?_;subst s4;refine wS (IV EK) fun ps s4 h3=>?_;subst s4;rw[PZ,Th,(Ny p ps).uniq (O0 p ps)]
 ·refine aU hx fun p h1 h2 s4=>?_;subst s4;refine aU No fun q h3 h4 s4=>?_;subst s4;have hc:j5 (cH p) [cH q]=rm (ny (kj p [q]) (ly p [q])):=PZ p [q];have hg:=Ny p [q];rw[hc,Kh h1,Kh h3,qb,Py,o5,pG,pG];generalize ny (kj p [q]) (ly p [q])=l at hg;constructor
  ·rintro(rfl|rfl)
   ·exact .inr (hg.1 q (by simp))
   ·exact .inl (hg.1 p (by simp))
  ·rintro(h|h)
   ·right;have:uH q [p,q]:=⟨fun t FS=>by
     refine bD FS ?_ fun FS=>?_
     ·exact h
     ·refine U (fG.mp FS) ?_;exact Dq _,fun m hm=>hm q (by simp)⟩
    exact hg.uniq this
   ·left;have:uH p [p,q]:=⟨fun t FS=>by
     refine bD FS ?_ fun FS=>?_
     ·exact Dq _
     ·refine U (fG.mp FS) ?_;exact h,fun m hm=>hm p (by simp)⟩
    exact hg.uniq this
theorem w_:∀t:Fin 8,(aN (dY t.val))[2]?=some 115∧PyData.strOk (dY t.val)=true∧(dY t.val).length=8∧(aN (dY t.val))[7]?=some (48+t.val):=by decide+kernel
theorem OH (p):(gj p++[47])[2]?=none∨(gj p++[47])[2]?=some 47:=by
 obtain _|⟨b,r⟩:=p
 ·exact .inl rfl
 ·right;obtain _|⟨c,r⟩:=r
  ·rfl
  ·rfl
theorem aaP (FS:t≤7) (Ch:0<q.length):cF (dY t) (cH q)=false:=by
 have h1:=(w_ ⟨t,by exact f9 ‹_› (by decide)⟩).1;have h3:=(w_ ⟨t,by exact f9 ‹_› (by decide)⟩).2.2.1;dsimp only at h1 h3;have wm:(gj q++[47])[2]?=some 47:=by
  obtain h|h:=OH q
  ·exfalso;rw[mu,dZ]at h;have:=nU (cH q);rw[u9,zO]at this;simp at h;lia
  ·exact h
 have vO:(aN (dY t)++[47])[2]?=some 115:=by
  rw[yF (by rw[nU,h3];decide)];exact h1
 have e:aN (Str.ofString "/")=[47]:=qi;rw[←BR];unfold cF;rw[o5,zU,zU,qp,qp,e,u9];rintro(h|h)
 ·refine aP h fun w hw=>?_;rw[←hw]at vO;rw[yF (by rw[k8]at wm;exact wm.1),wm]at vO;cases vO
 ·refine aP h fun w hw=>?_;rw[←hw]at wm;rw[yF (by rw[k8]at vO;exact vO.1),vO]at wm;cases wm
theorem Qn (FS:t≤7) (p):dY t≠cH p:=fun e=>by
 have h1:=(w_ ⟨t,by exact f9 ‹_› (by decide)⟩).1;dsimp only at h1;rw[e,u9]at h1;have h2:(gj p++[47])[2]?=some 115:=by
  rw[yF (by rw[k8]at h1;exact h1.1)];exact h1
 obtain h|h:=OH p
 ·rw[h]at h2;cases h2
 ·rw[h]at h2;cases h2
theorem WG (h1:t≤7) (h2:t'≤7) (e:dY t=dY t'):t=t':=by
 have a:=(w_ ⟨t,by exact f9 ‹_› (by decide)⟩).2.2.2;have b:=(w_ ⟨t',by exact f9 ‹_› (by decide)⟩).2.2.2;dsimp only at a b;rw[e,b]at a;have:=bh a;exact(Nat.add_left_cancel this).symm
theorem aek (p):PyData.strOk (cH p)=true:=by
 unfold PyData.strOk;rw[Array.all_eq_true_iff_forall_mem];intro x hx;have hx:x∈gj p:=by
  have:x∈aN (cH p):=by simpa [aN]using hx
  rw[u9]at this;exact this
 unfold gj at hx;refine wS (z5.mp hx) fun b J hb=>?_;unfold rB at hb;cases b<;>simp at hb<;>rcases hb with rfl|rfl<;>decide
section
section
variable {c:ah} {k:Nat} {O:XV} {Y:B} {Sc:fD→Prop}
noncomputable def D8 (c:ah) (k:Nat) (O:XV) (Y:B) (e:Expr) (x:Str):Prop:=
 ∀(A:Around) (V:Env) (s:Shared) (Z:TW),Ok c k A s→bB c Z s.heap V O Y→∀(Q:Value→Shared→Prop) (E:Value→Shared→Prop),
  (∀t s' Z',aD c s Z s' Z'→0<t→t<s'.toks→Q (.str x t) s')→wpAny c.M A (eval e V) Q E s
inductive r5 (hi:Nat):List Value→List Str→Prop
 |nil:r5 hi [] []
 |cons {x:Str} {t:Nat} {H:List Value} {xs:List Str}:0<t→t<hi→r5 hi H xs→r5 hi (.str x t::H) (x::xs)
theorem r5.get (x:r5 hi H xs):∀{i:Nat} {y:Str},xs[i]?=some y→∃t,H[i]?=some (.str y t)∧0<t∧t<hi:=by
 induction x with
 |nil=>intro i y h;simp at h
 |cons a b _ ih=>
  intro i y h;obtain _|i:=i
  ·simp at h;subst h;exact gg _ rfl a b
  ·refine wS (ih (by simpa using h)) fun t h1 h2=>?_;exact⟨t,by simpa using h1,h2⟩
theorem r5.length (x:r5 hi H xs):H.length=xs.length:=by
 induction x with
 |nil=>rfl
 |cons _ _ _ ih=>simp[ih]
noncomputable def xH (c:ah) (k:Nat) (O:XV) (Y:B) (es:List Expr) (xs:List Str):Prop:=
 ∀(A:Around) (V:Env) (s:Shared) (Z:TW) (pos:Pos),Ok c k A s→bB c Z s.heap V O Y→∀(Q:List Value→Shared→Prop) (E:Value→Shared→Prop),
  (∀H s' Z',aD c s Z s' Z'→r5 s'.toks H xs→Q H s')→wpAny c.M A (spliced (backTo pos (starEach es V))) Q E s
theorem xH.nil:xH c k O Y [] []:=fun J J s Z J J x J J h=>wN (h [] s Z x.start .nil)
theorem xH.cons (hr:xH c k O Y es xs):xH c k O Y (.Constant (.str x) n p::es) (x::xs):=by
 intro A V s Z pos ok r Q E h;show wpAny c.M A (spliced ((false,eval (.Constant (.str x) n p) V)::backTo pos (starEach es V))) Q E s;refine vC (Jt ?_);have EQ:aD c s Z {s with toks:=s.toks+1} Z:=r.start.toks (b9 _);refine hr A V _ Z pos (ok.step EQ) (r.step EQ) _ E fun H s₂ bA t₂ bf=>h _ s₂ bA (EQ.trans t₂) (.cons ?_ ?_ bf)
 ·exact f9 (fz _) ok.tok
 ·exact fU (jM _) t₂.tok
theorem D8.pick {es:List Expr} {aQ:Expr} {p pos:Pos} {xs:List Str} {i:Nat} {x:Str} (he:xH c k O Y es xs) (hs:f8 c k O Y aQ (.int i)) (hi:xs[i]?=some x) (hz:xs.length≤1000)
 (hsub:∀o j,subscripted aQ false o j=operate [o,j] (getItem o j):=by intros;rfl):D8 c k O Y (.Subscript (.List es p) aQ pos) x:=by
 intro A V s Z ok r Q E q;refine Subscript_ (List_ (he A V s Z p ok r _ E fun H s₁ aB EQ s5=>iS ?_ (by show H.toArray.size≤sizeLine;refine U jL (U s5.length (U cV ?_));exact Ev ‹_› (by decide))));have st:=aD.alloc (c:=c) (Z:=aB) EQ.top EQ.sub {cls:=.type "list",data:=.seq H.toArray};have ta:=EQ.trans st;refine hs A V _ aB (ok.step ta) (r.step ta) _ E fun FH s₂ bA t₂ uS=>?_;refine uS.i fun J=>?_;have hg:=d7 s₁.heap (o:={cls:=.type "list",data:=.seq H.toArray}) rfl;refine wS (t₂.grow.2 _ _ hg) fun o' bK FG=>?_;rw[FG.eq (by simp)]at bK;refine aU (s5.get hi) fun t h1 h2 h3=>?_;have bM:i<xs.length:=(k8.mp hi).1;exact rQ (T:="list") ⟨_,bK,rfl⟩ BF.lookup (wpAny_getItem_list ⟨_,bK,rfl,_,rfl⟩ (kG _) (dL ‹_› ‹_›) (by simpa using h1) (q t _ _ (ta.trans t₂) h2 (fU h3 (Ev st.tok t₂.tok)))) (hsub _ _)
theorem wE.Za {NE:Nat→XV} (he:D8 c k O Y e x) (eW:∀t,dX n (.val (.str x t)) O (NE t)) (h:∀t,0<t→wE (c.re c.hd t) k (NE t) Y rest Sc)
 (hs:∀V,V.scope.kind= .function→swapsWith e (some (.Name n p)) pos.line V=pure false:=by intros;rfl):wE c k O Y (.Assign [.Name n p] e pos::rest) Sc:=by
 intro A V s bs Z ok w Q E q;refine Dw (Ah (he A V s Z ok w.rd _ E fun t s₁ aB EQ h0 FS=>nM (w.step EQ) (eW t) (.val _) fun s₂ m w₂=>?_) (hs V w.rd.fn));have mh:=(ok.step EQ).af m;refine h t h0 A V s₂ bs aB ⟨mh.depth,mh.units,mh.frames,fU FS m.tok,mh.hand⟩ w₂.re Q E fun o f s' Z' r cU dG hp=>?_;exact q o f s' Z' (((EQ.run Y).trans ⟨m,.refl _,fun J J h=>.inl h,fun J h=>.inl h⟩).trans r) cU.nv dG hp
theorem f8.replace (hT:∃t,0<t∧c.T=t∧f8 c k O Y e (.val (.str z t))) (xz:f8 c k O Y o (.str x)) (hb:PySem.NoneBooked c.H0) (hz:x.length+(x.length+1)*z.length≤1000000)
 (hs:∀V,starEach [.Constant (.str y) n p,e] V=[(false,eval (.Constant (.str y) n p) V),(false,eval e V)]:=by intro;rfl)
 (fO:∀V,attributeBase o "replace" V (eval o V)=eval o V:=by intro;rfl)
 (f6:(c9.endLine==pos.line)=true:=by rfl):f8 c k O Y (.Call (.Attribute o "replace" c9) [.Constant (.str y) n p,e] [] pos) (.str (Txt.replace x y z)):=by
 refine aU hT fun t h0 hc he=>?_;intro A V s Z ok r Q E g;refine zK (fO V) (by rw[hs];rfl) f6 (xz A V s Z ok r _ E fun v s₁ aB EQ s5=>?_);refine s5.s fun dz=>?_;refine yw ("str") ("str.replace") Bu F.slot_str_replace F.type_str_replace (vB _ _ _) (fun J e=>(by injection e)) ?_;refine l6 (c:=c) (f:=.builtin "str.replace") (first:=[.str x dz]) (.inl fun a e=>(by injection e)) ?_;rw[hs];refine yN ?_;refine vC (Jt (k:=n) (pos:=p) ?_);have jK:=ok.step EQ;have r₁:=r.step EQ;have FS:c.T<s₁.toks:=jK.tok;have t₂:aD c s₁ aB {s₁ with toks:=s₁.toks+1} aB:=r₁.start.toks (b9 _);refine vC (he A V _ aB (jK.step t₂) (r₁.step t₂) _ E fun v aG eB t₃ s5=>wN ⟨t₃.top,?_⟩);refine s5.v ?_;refine h_ (SC.replaceA ?_ ?_ ?_ (by exact Ev ‹_› (by decide)) (fun t' tk up=>?_) ?_)
 ·exact iE (f9 (fz _) FS)
 ·exact iE h0
 ·rw[hc]at FS;exact iE FS
 ·exact gV (((gk.of (c:=c) g EQ).of t₂).of t₃) t₃.top t₃.sub (.str _ _) up.toks
 ·refine wS hb fun Zr h1 h2=>?_;exact⟨Zr,h1.keeps t₃.top,h2⟩
end
noncomputable def ym:List Str:=[Str.ofString "/.",Str.ofString "///",Str.ofString "/q/..",Str.ofString "/.."]
noncomputable def rS:List Str:=[Str.ofString "/",Str.ofString "//",Str.ofString "/./",Str.ofString "/z/../"]
noncomputable def Ct:List Str:=[Str.ofString "",Str.ofString "/",Str.ofString "/.",Str.ofString "/z/.."]
noncomputable def kg (place:Str) (q:Int):Str:=
 ym.getD (q.fmod 4).toNat Str.empty++Txt.replace place (Str.ofString "/") (rS.getD ((q.fdiv 4).fmod 4).toNat Str.empty)++Ct.getD ((q.fdiv 16).fmod 4).toNat Str.empty
theorem four {q:Int}:∃i:Nat,q.fmod 4=i∧i<4∧(q.fmod 4).toNat=i:=by
 have h1:0≤q.fmod 4:=OZ _ (by decide);have h2:q.fmod 4<4:=Int.fmod_lt_of_pos _ (by decide);exact gg ((q.fmod 4).toNat) (Int.toNat_of_nonneg h1).symm ((Int.toNat_lt h1).2 h2) rfl
theorem Ms {l:List Str} {i:Nat} (h:i<l.length):l[i]?=some (l.getD i Str.empty):=by
 rw[iM,gh h];rfl
theorem JM {l:List Str} {i:Nat} (h:i<l.length):(ww l)[i]?=some (.str (l.getD i Str.empty)):=by
 rw[ww,kF,Ms h];rfl
theorem HB {l:List Str} {b:Nat} (h:∀x∈l,x.length≤b) (i):(l.getD i Str.empty).length≤b:=by
 rw[iM]
 induction q:l[i]? with
 |none=>exact fz _
 |some x=>exact h x (uy q)
theorem Zd (i):(ym.getD i Str.empty).length≤10:=HB (by decide+kernel) i
theorem aba (i):(rS.getD i Str.empty).length≤10:=HB (by decide+kernel) i
theorem ab6 (i):(Ct.getD i Str.empty).length≤10:=HB (by decide+kernel) i
theorem U_ (x y z):(Txt.replace x y z).length≤x.length+(x.length+1)*z.length:=by
 unfold Txt.replace;split
 ·exact bX _ _
 ·have h1:=StrLaws.occ_length_le x y 0 x.length (x.length+1);have No:(PySem.Builtin.Str.glued y (PySem.Builtin.Str.partsBetween x (PySem.Builtin.Str.occurrences x y 0 x.length (x.length+1)) y.length)).length=x.length:=by rw[StrLaws.glued_between_self]
  rw[yx,I5,Nat.add_sub_cancel]at No;rw[yx,I5,Nat.add_sub_cancel];have h2:=Af z.length h1;exact mw (Ev (bX ..) (bT No)) h2
theorem ZJ (hh:c.hd=false) (hb:PySem.NoneBooked c.H0) (hp:place.length≤100):
 wE c k (vars [("place",.loc),("q",.loc)] [.str place,.int q] [("front",.loc),("slash",.loc)] []) B.no (gM (bH 24)) (p7 (.str (kg place q))):=by
 kst_p
 refine aU (four (q:=q)) fun i hi Vt hin=>?_;refine aU (four (q:=q.fdiv 4)) fun j ff S2 Z_=>?_;refine aU (four (q:=q.fdiv 16)) fun m hm Zy Yw=>?_;refine wE.cons (FM.assign (d:=.str (ym.getD i Str.empty)) ?_ (by kd_in) ?_)
 ·refine f8.sub (d₁:=.list (ww ym)) (d₂:=.int i) (f8.list (.cons f8.str (.cons f8.str (.cons f8.str (.cons f8.str .nil)))) (by decide)) ?_ (Rs.item aL.list (kG _) (JM Vt) (by decide));exact ZB hi (f8.bin (by kd_p) (by kd_p) (Rs.uN (by decide)))
 refine wE.Za (x:=rS.getD j Str.empty) (D8.pick (xs:=rS) (i:=j) (.cons (.cons (.cons (.cons .nil)))) ?_ (Ms S2) (by decide)) (fun t=>by kd_in) fun t FS=>?_
 ·exact ZB ff (f8.bin (f8.bin (by kd_p) (by kd_p) (Rs.divInt (by decide) (Ae (by decide)))) (by kd_p) (Rs.uN (by decide)))
 refine wE.cons (FM.ret (d:=.str (kg place q)) ?_ rfl);unfold kg;refine U hin (U Z_ (U Yw ?_));have l1:=Zd i;have l2:=aba j;have l3:=ab6 m;have RX:place.length+(place.length+1)*(rS.getD j Str.empty).length≤2000:=by
  have:(place.length+1)*(rS.getD j Str.empty).length≤101*10:=Nat.mul_le_mul (by exact f9 ‹_› (by decide)) l2;exact Ev (mw hp this) (by decide)
 have Mq:=U_ place (Str.ofString "/") (rS.getD j Str.empty);refine f8.bin (f8.bin (by kd_p) (f8.replace ⟨t,FS,rfl,by kd_p⟩ (by kd_p) hb (by kd_p)) (Rs.qH (Ev (mw l1 (Ev Mq RX)) (by decide)))) ?_ (Rs.qH (by rw[CM];exact Ev (mw (mw l1 (Ev Mq RX)) l3) (by decide)));refine f8.sub (d₁:=.list (ww Ct)) (d₂:=.int m) (f8.list (.cons f8.str (.cons f8.str (.cons f8.str (.cons f8.str .nil)))) (by decide)) ?_ (Rs.item aL.list (kG _) (JM Zy) (by decide));exact ZB hm (f8.bin (f8.bin (by kd_p) (by kd_p) (Rs.divInt (by decide) (Ae (by decide)))) (by kd_p) (Rs.uN (by decide)))
theorem Pk (x:aV c) (hp:place.length≤100):cu c (k+1) (.ref 254) [.str place,.int q] (.str (kg place q)):=
 cu.fn (st:=bH 24) (qual:="_law_spelled") (dV:=.none) (x.fn rfl rfl rfl rfl) (by kd_p) cI rfl (fun J J=>sD fun J J=>rfl) (fun bP=>ZJ (c:=c.at bP) x.hd x.booked hp)
end
section
section
variable {c:ah} {k:Nat} {O Bf NE:XV} {Y:B} {Sc:fD→Prop}
theorem FM.ZZ (hh:c.hd=false) (he:f8 c k O Y (.Tuple [lH,nW] m c_) (.tup [d₁,d₂])) (aaW:dX b d₂ O Bf) (SX:dX a d₁ Bf NE) (h:Sc (.next NE Y))
 (ha:∃o,(⟨a,.loc,o⟩:iF)∈O) (hb:∃o,(⟨b,.loc,o⟩:iF)∈O)
 (Jz:∀V:Env,V.kindOf a=some .local→V.kindOf b=some .local→V.blockKind= .function→swappedStores [.Tuple [.Name a jP,.Name b mP] n p] (.Tuple [lH,nW] m c_) V=pure (some [a,b])):
 FM c k O Y (.Assign [.Tuple [.Name a jP,.Name b mP] n p] (.Tuple [lH,nW] m c_) pos) Sc:=by
 intro A V s bs Z ok w Q E q;refine aP ha fun oa ha=>?_;refine aP hb fun kr hb=>?_;have hk:V.blockKind= .function:=by
  have:=w.rd.fn;delta Env.blockKind;refine U this ?_;rfl
 have hs:=Jz V (w.locs _ ha rfl) (w.locs _ hb rfl) hk;show wpAny c.M A (standAt pos>>=fun J=>(pure false:Sem Bool)>>=fun b'=>if b' then _ else(eval (.Tuple [lH,nW] m c_) V>>=fun v=>swappedStores [.Tuple [.Name a jP,.Name b mP] n p] (.Tuple [lH,nW] m c_) V>>=fun sw=>assignStores V v sw _)) Q E s;refine u8 (gb (u8 (On ?_)));refine U (Tk (by decide)) (U hs ?_);refine u8 (he A V s Z ok w.rd _ E fun v s₁ aB EQ s5=>u8 (On ?_));show wpAny c.M A (rule "assign.swapped-stores" >>=fun J=>unpackItems v 2 none>>=fun items=>assignInOrder [fun x=>bindName V b x,fun x=>bindName V a x] items.reverse>>=fun J=>pure .next) Q E s₁;refine u8 (pJ (u8 (QA (ok.hand hh) EQ.top EQ.sub s5 rfl fun H s₂ t₂ bf=>?_)));refine fJ (nA bf) fun bk bL s4 h₁ h₂=>?_;subst s4;show wpAny c.M A (assignInOrder [fun x=>bindName V b x,fun x=>bindName V a x] [bL,bk]>>=fun J=>pure .next) Q E s₂;have w₂:=(w.step EQ).step t₂;refine u8 (De (wpAny_bindName (nM w₂ aaW h₂ fun aG U7 w₃=>?_)));refine De (wpAny_bindName (nM w₃ SX h₁ fun jh Vm iO=>assignInOrder_nil (On ?_)));exact q (.next NE Y) .next jh _ (((EQ.run Y).trans (t₂.run Y)).trans ⟨U7.trans Vm,.refl _,fun J J h=>.inl h,fun J h=>.inl h⟩) iO .next h
theorem FM.af2 (he:f8 c k O Y e (.val (.ref a))) (ha:Y a=some (.list l)) (h:Sc (.ret (.list l) O (Y.put a none))):FM c k O Y (.Return (some e) pos) Sc:=by
 intro A V s bs Z ok w Q E q;refine Il (he A V s Z ok w.rd _ E fun v s' Z' t s5=>?_);refine s5.v ?_;refine d9 ((w.step t).SV ha) fun o hz cU FS le=>?_;refine q (.ret (.list l) O (Y.put a none)) _ s' (Z'.put a o) ?_ cU (.ret FS) h;refine(t.run Y).trans ⟨.refl _,le,fun b o' e=>?_,fun b hb=>?_⟩
 ·unfold TW.put at e;by_cases q:b=a
  ·subst q;exact .inr (.inl (by refine U ha ?_;simp))
  ·rw[Tk q]at e;exact .inl e
 ·by_cases q:b=a
  ·subst q;exact absurd (B.ai ..) hb
  ·change (Y.put a none) b≠none at hb;rw[B.aa _ _ q]at hb;exact .inl hb
noncomputable def nj (l:List Int) (lo hi st:Option Int):List Int:=
 (sliceRange (sliceBounds lo hi st l.length).1 (sliceBounds lo hi st l.length).2.1 (sliceBounds lo hi st l.length).2.2).filterMap (fun x=>l[x]?)
theorem PI (l) (lo hi st):lF (l.map .int) lo hi st=(nj l lo hi st).map .int:=by
 delta lF nj;rw[cj,List.map_filterMap];congr 1;funext i;rw[kF]
end
end
noncomputable abbrev nS:=Str×Str×Str×Str
noncomputable def pO (x:nS):D:=.tup [.str x.1,.str x.2.1,.str x.2.2.1,.str x.2.2.2]
noncomputable def kC (pool:List Str) (n:Int):Str:=pool.getD (n.fmod pool.length).toNat Str.empty
noncomputable def nE:List Str→List Str→Int→Nat→List nS
 |[],_,_,_=>[]
 |place::r,pool,n,j=>
  (place,kC pool n,kg place (n+29*j),kg (kC pool n) ((n+29*j).fdiv 64+7*j))::nE r (pool.filter (fun x=>x !=kC pool n)) (n.fdiv pool.length) (j+1)
theorem Gw (place r pool n j):nE (place::r) pool n j=(place,kC pool n,kg place (n+29*j),kg (kC pool n) ((n+29*j).fdiv 64+7*j))::nE r (pool.filter (fun x=>x !=kC pool n)) (n.fdiv pool.length) (j+1):=rfl
theorem abG (a b c):nE [] a b c=[]:=rfl
noncomputable def ng (xs:List Int):List nS:=nE (gX (37+(nj xs (some 0) none (some 3)).sum)) (gX (101+(nj xs (some 1) none (some 3)).sum)) (5000+(nj xs (some 2) none (some 3)).sum) 0
theorem RH {l:List Str} {x:Str} (nd:l.Nodup) (h:x∈l):(l.filter (fun y=>y !=x)).length+1=l.length:=by
 induction l with
 |nil=>cases h
 |cons y l ih=>
  rw[dm]at nd;obtain rfl|h:=a_.mp h
  ·have:l.filter (fun y=>y !=x)=l:=lz.mpr fun z hz=>by
    simp only[zS,ne_eq];rintro rfl;exact nd.1 hz
   simp[this]
  ·have bg:y≠x:=by rintro rfl;exact nd.1 h
   have:(y !=x)=true:=by simp[bg]
   simp only[je,this,mC,bW];exact U (ih nd.2 h) rfl
theorem Pz (h:pool≠[]):kC pool n∈pool:=by
 have hl:0<pool.length:=List.length_pos_iff.mpr h;unfold kC;rw[iM,gh (rK hl)];exact sd _
theorem yg (n):(gX n).length=6∧∀x∈gX n,x.length≤10:=by
 refine Op (Jc n 4) fun h1 h2=>?_;exact⟨h1,h2⟩
inductive Pc (xs:List Int) (a:Addr) (aE:List D) (O:XV) (Y:B):Prop
 |mk (places pool:List Str) (n:Int) (wP:List nS) (bU bN ee:Option D):(aE=ww places)→(Y=B.no.put a (some (.list (wP.map pO))))→(wP.length+places.length=6)→(places.length=pool.length)→(pool.Nodup)→((∀x∈places,x.length≤10))→((∀x∈pool,x.length≤10))→(ng xs=wP++nE places pool n wP.length)→(O=[⟨"script",.loc,some (.list (xs.map .int))⟩,⟨"pool",.loc,some (.list (ww pool))⟩,⟨"n",.loc,some (.int n)⟩,⟨"moves",.loc,some (.val (.ref a))⟩,⟨"place",.loc,bU⟩,⟨"goal",.aM,bN⟩,⟨"q",.loc,ee⟩,⟨"_law_ends",.bz,some (.val (.ref 247))⟩,⟨"sum",.bz,some (.val (.builtin "sum"))⟩,⟨"len",.bz,some (.val (.builtin "len"))⟩,⟨"_law_spelled",.bz,some (.val (.ref 254))⟩])→Pc xs a aE O Y
theorem Tw (x:aV c) (hx:xs.length≤63):
 wE c (k+1) (vars [("script",.loc)] [.list (xs.map .int)] [("pool",.loc),("n",.loc),("moves",.loc),("place",.loc),("goal",.aM),("q",.loc)] [("_law_ends",.ref 247),("sum",.builtin "sum"),("len",.builtin "len"),("_law_spelled",.ref 254)]) B.no (gM (bH 25)) (p7 (.list ((ng xs).map pO))):=by
 kst_p
 have hh:=x.hd;obtain⟨s1,KO⟩:∃i,(nj xs (some 1) none (some 3)).sum=i:=⟨_,rfl⟩;obtain⟨s2,oX⟩:∃i,(nj xs (some 2) none (some 3)).sum=i:=⟨_,rfl⟩;have cl:∀{a:Addr} {st:Stmt} {q:Str} {dV:Value},FnAt c a st q dV→qs c (.ref a):=fun{a st q dV} h=>by
  refine dW (h.obj) fun o pm cd h1 h2 J=>?_;exact .inr ⟨_,o,_,rfl,h1,h2⟩
 have K7:∀{k:Nat} {O:XV} {v:Expr} {lo hi st:Option Expr} {p pos:Pos} {i j m:Option Int},f8 c k O B.no v (.list (xs.map .int))→fy c k O B.no lo i→fy c k O B.no hi j→fy c k O B.no st m→m≠some 0→(∀o x,∃ops,subscripted (.Slice lo hi st p) false o x=operate ops (getItem o x))→f8 c k O B.no (.Subscript v (.Slice lo hi st p) pos) (.list ((nj xs i j m).map .int)):=fun s5 h1 h2 h3 h0 hsub=>by
  rw[←PI];exact f8.slice s5 aL.list h1 h2 h3 h0 (by simp;exact Ev hx (by decide)) hsub
 refine wE.cons (FM.ZZ hh (d₁:=.list (ww (gX (101+s1)))) (d₂:=.int (5000+s2)) ?_ (by kd_in) (by kd_in) ?_ ⟨_,by walk_at "v"⟩ ⟨_,by walk_at "v"⟩ (fun V h1 h2 h3=>by
  delta swappedStores;have r7:(V.kindOf "pool" ==some NameKind.local&&true)=true:=by refine U h1 ?_;rfl
  have kM:(V.kindOf "n" ==some NameKind.local&&true)=true:=by refine U h2 ?_;rfl
  refine(UN ?_ oV ?_ oV oV).trans (cQ (fun l=>pure (some l)) (Kq (ak r7) (ak kM)))
  ·exact U h3 oV
  ·refine U (Kq (ak r7) (ak kM)) ?_;exact oV))
 ·refine f8.tuple (.cons (f8.call (by kd_p) (cl (Jg x)) (.cons ?_ .nil (by kd_p)) (cu.r (OW x)) (by kd_p)) (.cons ?_ .nil (by kd_p)) (by kd_p)) (by simp)
  ·refine f8.bin (by kd_p) ?_ Rs.addInt;exact ZB KO (f8.sum hh (by kd_p) (K7 (by kd_p) (.some (by kd_p)) .none (.some (by kd_p)) (by simp) (by intros;exact⟨_,rfl⟩)) aL.list)
  ·refine f8.bin (by kd_p) ?_ Rs.addInt;exact ZB oX (f8.sum hh (by kd_p) (K7 (by kd_p) (.some (by kd_p)) .none (.some (by kd_p)) (by simp) (by intros;exact⟨_,rfl⟩)) aL.list)
 ·obtain⟨s0,N4⟩:∃i,(nj xs (some 0) none (some 3)).sum=i:=⟨_,rfl⟩;have hM:ng xs=nE (gX (37+s0)) (gX (101+s1)) (5000+s2) 0:=by unfold ng;exact U N4 (U KO (U oX rfl))
  refine Op (yg (37+s0)) fun u_ ZA=>?_;refine Op (yg (101+s1)) fun Ge Zt=>?_;refine wE.cons (FM.iT (aF.newList .nil (by simp) fun a J=>⟨_,by kd_in,?_⟩));refine wE.cons (FM.for hh gI (items:=ww (gX (37+s0))) (bF.list (f8.call (by kd_p) (cl (Jg x)) (.cons ?_ .nil (by kd_p)) (cu.r (OW x)) (by kd_p)))
   (Pc xs a)
   ⟨_,_,_,[],_,_,_,rfl,rfl,by refine U u_ ?_;rfl,by exact U u_ (U Ge rfl),Gu _,ZA,Zt,hM,rfl⟩ (fun J J J J=>trivial) ?_ ?_)
  ·refine f8.bin (by kd_p) ?_ Rs.addInt;refine ZB N4 ?_;refine f8.sum hh (by kd_p) (?_:f8 _ _ _ _ _ (.list ((nj xs (some 0) none (some 3)).map .int))) aL.list;rw[←PI];exact f8.slice (by kd_p) aL.list (.some (by kd_p)) .none (.some (by kd_p)) (by simp) (by simp;exact Ev hx (by decide)) (by intros;exact⟨_,rfl⟩)
  ·intro d rest NE I Go;obtain⟨places,pool,n,wP,bU,bN,ee,hr,rfl,hl,AL,nd,Hx,F2,zw,rfl⟩:=Go;obtain _|⟨place,places⟩:=places
   ·injection hr
   refine Op (jd hr) fun s4 eE=>?_;subst s4 eE;have hp0:pool≠[]:=by rintro rfl;simp at AL
   have hpl:0<pool.length:=List.length_pos_iff.mpr hp0;have U':pool.length≤6:=by refine ZB AL ?_;simp at hl⊢;exact D5 (Ev (Dj ..) (bT hl))
   have hga:=Pz (n:=n) hp0;have gF:=F2 _ hga;have gi:(ww pool).length=pool.length:=by simp[ww]
   have Az:(wP.map pO).length=wP.length:=by simp
   have hd0:=lQ hpl gi.symm;have uW:=j7 gi U' (show 6≤1000000 by decide);have JE:=j7 Az (bX ..) (bT hl);refine bl.name (by kd_in) ?_;refine wE.cons (FM.A7 hh (d:=.tup [.str (kC pool n),.int (n+29*wP.length)]) ?_ ?_ (hw:=fun V bs Z h w=>M8 (.inl (w.kK ⟨"goal",.aM,bN⟩ (by walk_at "v") rfl).1)))
   ·refine f8.tuple (.cons (f8.sub (d₂:=.int (n.fmod pool.length)) (by kd_p) ?_ (Rs.item aL.list (CP hpl) (JM (rK hpl)) uW)) (.cons ?_ .nil (by kd_p)) (by kd_p)) (by simp)
    ·exact ZB gi (f8.bin (by kd_p) (f8.len (by kd_p) (by kd_p) aL.list uW) (Rs.uN (we hd0)))
    ·exact ZB Az (f8.bin (by kd_p) (f8.bin (by kd_p) (f8.len (by kd_p) (by kd_p) (aL.cell (B.ai ..)) (Ev JE (by decide))) (Rs.RQ (.of_left (by decide)))) Rs.addInt)
   refine bl.tuple ?_;refine bl.name (by kd_in) (bl.name (by kd_in) ?_);dsimp only[rX];have agt:=Hx place (.head _);refine wE.cons (FM.expr (aF.append (a:=a) (l:=wP.map pO) (d:=pO (place,kC pool n,kg place (n+29*wP.length),kg (kC pool n) ((n+29*wP.length).fdiv 64+7*wP.length))) (by kd_p) ?_ (B.ai ..) (Ev JE (by decide)) ?_))
   ·refine f8.tuple (.cons (by kd_p) (.cons (by kd_p) (.cons ?_ (.cons ?_ .nil (by kd_p)) (by kd_p)) (by kd_p)) (by kd_p)) (by simp)
    ·exact f8.call (by kd_p) (cl (st:=bH 24) (x.fn rfl rfl rfl rfl)) (.cons (by kd_p) (.cons (by kd_p) .nil (by kd_p)) (by kd_p)) (cu.r (Pk x (by kd_p))) (by kd_p)
    ·refine f8.call (by kd_p) (cl (st:=bH 24) (x.fn rfl rfl rfl rfl)) (.cons (by kd_p) (.cons ?_ .nil (by kd_p)) (by kd_p)) (cu.r (Pk x (by kd_p))) (by kd_p);exact ZB Az (f8.bin (f8.bin (by kd_p) (by kd_p) (Rs.divInt (by decide) (Ae (by decide)))) (f8.bin (by kd_p) (f8.len (by kd_p) (by kd_p) (aL.cell (B.ai ..)) (Ev JE (by decide))) (Rs.RQ (.of_left (by decide)))) Rs.addInt)
   refine wE.cons (FM.assign (d:=.int (n.fdiv pool.length)) ?_ (by kd_in) ?_)
   ·exact ZB gi (f8.bin (by kd_p) (f8.len (by kd_p) (by kd_p) aL.list uW) (Rs.divInt (we hd0) (Ae (Rv uW))))
   refine wE.cons (FM.oS hh gI (caps:=[("goal",.str (kC pool n))]) (gs:=[]) (ts:=[("one",.loc)]) (out:=ww (pool.filter (fun x=>x !=kC pool n))) (by intros;rfl) (by dsimp only[List.map];decide+kernel) ?_ cI (bF.list (l:=ww pool) (by kd_p)) trivial (dR.one (xs:=pool) (F:=.str) .str (by kd_p) fun y No=>by
    kst_p
    exact⟨eH.one (az.cmp (by kd_p) (by kd_p) Rs.qj),fun J=>by kd_p⟩) (by kd_in) ?_)
   ·intro y No;refine bD No ?_ fun No=>?_
    ·exact⟨.aM,.inl rfl,by walk_at "v"⟩
    ·cases No
   refine wE.nil ?_;have hfl:=RH nd hga;refine⟨places,pool.filter (fun x=>x !=kC pool n),n.fdiv pool.length,wP++[(place,kC pool n,kg place (n+29*wP.length),kg (kC pool n) ((n+29*wP.length).fdiv 64+7*wP.length))],_,_,_,rfl,?_,?_,?_,nd.filter _,fun y No=>Hx y (.tail _ No),fun y No=>F2 y (cE.mp No).1,?_,rfl⟩
   ·refine U B.m6 (U gK ?_);rfl
   ·simp at hl⊢;exact Ut hl
   ·simp at AL;exact AY (AL.trans hfl.symm)
   ·rw[zw,Gw,j6,dZ];rfl
  ·intro NE I Go;obtain⟨places,pool,n,wP,bU,bN,ee,hr,rfl,hl,AL,nd,Hx,F2,zw,rfl⟩:=Go;obtain _|⟨place,places⟩:=places
   rotate_left
   ·injection hr
   have:ng xs=wP:=by refine U zw ?_;simp[Gw,abG]
   refine wE.nil ?_;refine wE.cons (FM.af2 (a:=a) (l:=wP.map pO) (by kd_p) (B.ai ..) ?_);exact U this rfl
theorem S1 (x:aV c) (hx:xs.length≤63):cu c (k+2) (.ref 259) [.list (xs.map .int)] (.list ((ng xs).map pO)):=
 cu.fn (st:=bH 25) (qual:="_law_moves") (dV:=.none) (x.fn rfl rfl rfl rfl) (by kd_p)
  (bC (x.glob (by kd_p)) (bC (x.dw (by kd_p) (by kd_p) (by decide)) (bC (x.dw (by kd_p) (by kd_p) (by decide)) (bC (x.glob (by kd_p)) cI)))) rfl (fun J J=>jg fun J=>rfl) (fun bP=>Tw (x.at (L:=bP)) hx)
section
open PySem.W
set_option maxHeartbeats 0
noncomputable def En:Program:=view s7 [34]
noncomputable def Be:List Str:=["_wall","_NODE_OUT","_NODE_DONE","_NodeInfo","CycleError","TopologicalSorter","_plain_name","ABCMeta","_ABCLike","_abc_plain_meta","fspath","_check_arg_types","splitroot","normpath","commonpath","_law_ends","_law_spelled","_law_moves","_law_meets","_law_shared","_law_ways","_law_told","_law_ring","_law_prepared","_law_rounds","_law_moved"]
noncomputable def MC:List Addr:=[1,2,3,35,36,39,40,41,42,43,54,55,66,72,73,79,80,86,87,91,92,98,99,105,106,112,113,119,120,126,127,133,134,136,137,138,139,213,214,227,228,234,235,239,240,246,247,253,254,258,259,265,266,270,271,277,278,282,283,287,288,294,295,299,300,304,305,309,310]
noncomputable def AR (p:Program) (w:World) (N:Nat):Option Shared:=
 (PySem.W.Fast.tw10274390034422433532 PySem.W.Fast.tw14364793385576792824 (opening p) w N (PySem.W.Fast.tw1435165496053646825 (opening p)).1 (PySem.W.Fast.tw1435165496053646825 (opening p)).2).bind (PySem.W.Fast.tw14289696077712309145 p)
noncomputable def Ba (p:Program) (w:World) (N:Nat) (s₀:Shared):Option Shared:=
 match s₀.heap.isNs mainGlobals&&s₀.gens.size==0 with
 |true=>(PySem.W.Fast.tw14082659384304107361 PySem.W.Fast.tw14364793385576792824 p w s₀.heap.objs.size (s₀.heap.nsMap mainGlobals "__annotations__") N s₀ (topStub p)).bind fun s₁=>match staticsOk (importedModules p.main.body) s₀.heap s₁.heap&&namesBound p s₁.heap&&gensDone s₁&&laidKept s₀.heap s₁.heap with
  |true=>some s₁
  |false=>none
 |false=>none
theorem ad6 (p) (w) (N):openEnds treeTable p w N=(AR p w N).bind (Ba p w N):=by
 have h1:fencedOpening treeTable p w N=AR p w N:=by
  unfold fencedOpening AR;rw[PySem.W.Fast.te10274390034422433532,N6,PySem.W.Fast.te1435165496053646825,PySem.W.Fast.te14289696077712309145]
 have h2:topFrom treeTable p w N=Ba p w N:=by
  funext s₀;unfold topFrom Ba;rw[PySem.W.Fast.te14082659384304107361,N6];rfl
 unfold openEnds;rw[h1,h2]
noncomputable def G_ (s:Shared):List (Option Obj)×Nat:=(MC.map s.heap.get?,s.toks)
noncomputable def JU (w:World):List (Option Obj)×Nat:=((KF w.params).map fun p=>some p.2,614)
theorem W2:∀w,((AR s7 w 4494).bind (Ba s7 w 4494)).map (fun s=>(PySem.W.Fast.tw4187177175401517315 En Be (importedModules s7.main.body) (fun J=>true) true s,G_ s))=some (openGood En Be,JU w):=by
 intro w;kernel_rfl
theorem left:LeftO s7 En Be (fun J=>true) G_ JU 4494:=by
 intro w;rw[ad6,PySem.W.Fast.te4187177175401517315];exact W2 w
end
section
open PySem.W
set_option maxHeartbeats 400000
theorem afh (h):RecFacts [] h:=
 ⟨fun x hx=>(nomatch hx),fun x hx=>(nomatch hx),fun c n7 a hc=>(by simp[WRecords.fields?]at hc),fun c fs hf=>(nomatch hf)⟩
theorem acw (h:IntsAre H ns):au Z H (ns.map .int):=by
 induction h with
 |nil=>exact .nil
 |cons n t _ ih=>exact .cons (.int n t) ih
set_option tactic.hygienic true in theorem holds_of (call:∀(c:ah) (xs:List Int),aV c→xs.length≤63→cu c 12 (.ref 310) [.list (xs.map .int)] (.val (.bool true))):PySem.Challenge.rw_pd0029_01.Holds:=by
 refine holds_law (by rw[PySem.W.Fast.te9446332074065402090];kernel_rfl) fun ago=>?_;refine holds_openX (q:=En) (loose:=Be) (Xt:=fun J=>true) (XP:=fun J J=>True) (Yf:=G_) (Ya:=JU) (N:=4494) left (fun J J=>trivial) (fun J J J J J=>trivial) (by rfl) (by rfl) (by rfl) (fun s e=>afh _) (by rfl) (by first|assumption|decide+kernel) (by decide+kernel) ⟨rfl,rfl,rfl,rfl,rfl,by decide+kernel⟩ ?_ ?_
 ·w_witness2
 ·intro w s₀ s₁ x8 l7 ef Oe a o pm cd doc dV kV xz hd agC fH R3 hg args vals as L EJ adg pY uR hlo;have K:(KF w.params).In s₁.heap:=Frag.In.keeps (Frag.in_of (as:=MC) rfl (cQ Prod.fst Oe)) L.keeps;have ha:a=310:=by
   have h1:=mg_of (n:="law") (v:=.ref 310) K ef.T.g (by kernel_rfl);have h2:x8 "law" =some (.ref a):=R3;rw[h1]at h2;cases h2;rfl
  clear hd fH R3
  wrow_args EJ adg pY uR hlo
  rename_i ns _ _ _ _ _ _ _ l H _ aW _ _ _ q2 _ agH _;have cM:ns.length≤63:=by lia
  have tok:614≤s₁.toks:=X.script_toks L (cQ Prod.snd Oe);have hlo:=X.script_obj L aW;subst ha;refine call {p:=s7,w:=w,H0:=s₁.heap} ns ⟨rfl,K,ef.T.nolimit,⟨l7,ef.T.b,ef.T.builtins⟩,rfl,rfl⟩ cM callerA s₁ (TW.put (fun J=>none) l {cls:=.type "list",data:=.seq H.toArray}) [.ref l] ⟨by decide,by decide,⟨[],rfl,trivial,fun J h=>(nomatch h),fun J h=>(nomatch h)⟩,(by show 0<s₁.toks;lia),fun J=>rfl⟩ (fun J J e=>e) ?_ ?_ _ _ ?_
  ·intro b kr e;unfold TW.put at e;by_cases q:b=l
   ·subst q;rw[ak rfl]at e;cases e;exact⟨hlo,by simp⟩
   ·rw[Tk q]at e;cases e
  ·exact .cons (.list (TW.ai ..) (acw q2)) .nil
  ·intro v s' Z' st s5;refine s5.v ?_;refine sJ (.inl ⟨.bool true,.bool true,[],rfl,fun J=>rfl,.bool true,postW_of (r:=PySem.Challenge.rw_pd0029_01.row.toRowW) (X:=true) rfl (w_eq_bool (k:=true) (l:=true) (w_res rfl) w_lit) rfl,fun J=>⟨yT,fun J h=>(nomatch h)⟩⟩) (.of_keep st.top) ?_ ?_
   ·refine fL (st.rest) fun h t s4=>?_;subst s4;rfl
   ·refine fL (st.rest) fun h t s4=>?_;subst s4;exact .of_eq hg
end
section
noncomputable def GP (jB lu:Expr) (wP:Value) (V:Env):Sem Unit:=match wP with
 | .ref D=>do
  let bR←eval jB V
  let IW←holding [bR] (eval lu V)
  standAt {jB.pos with endLine:=lu.pos.endLine,endCol:=lu.pos.endCol}
  holding [bR,IW] (dictSet D bR IW)
 |_=>pure ()
section
variable {c:ah} {k:Nat} {O:XV} {Y:B}
theorem adA (A) (s) (Q E) (h:∀o,o.isFreed=false→(∀Z,eV c Z o (.dict []))→Q (.ref s.heap.objs.size) {s with heap:=s.heap.push o}):wpAny c.M A newDict Q E s:=by
 unfold PySem.newDict;exact iS (h _ rfl fun Z=>⟨[],⟨#[],0,⟨rfl,rfl,rfl⟩,rfl,fun K h=>by simp at h,.nil,yT⟩,rfl,.nil⟩) (by size_fits)
theorem qo.dict (hk:f8 c k O Y jB (.str x)) (s5:f8 c k O Y lu d) (hz:l.length≤1000000):qo c k O Y (GP jB lu) (.dict l) (.dict (fZ l x d)):=by
 intro A V s Z wP sY ok r mo ha Q E q;unfold GP;dsimp only;refine u8 (hk A V s Z ok r _ E fun bR s₁ aB EQ ri=>?_);refine u8 (b4 (s5 A V s₁ aB (ok.step EQ) (r.step EQ) _ E fun IW s₂ bA t₂ afB=>?_));refine ri.s fun K=>?_;have t:=EQ.trans t₂;have aq:=t.pR mo;refine Op (aq.cells wP _ ha) fun aH K=>?_;refine wS aH fun o xz SQ=>aU SQ fun kvs h1 h2 h3=>?_;refine u8 (gb (b4 ?_));refine wpAny_dictSet_pairs (knd:=PySem.strKind c.p c.w) (k:=x) (oh ..) (yq.mpr ⟨o,xz,h1⟩) (fun h' hd' av=>?_) (by refine U (yM (Z:=bA) h2) (U cV ?_);exact Ev ‹_› (by decide));refine Op (FQ h2 h3 (x:=x) afB) fun i1 cR=>?_;refine wS (yq.mp hd') fun o' bK hk'=>?_;have Sq:=hk';refine fJ Sq fun es ep K E7 K=>?_;exact q _ bA (aq.trans (aO.put (t:=s₂.toks+1) aq.cells t.top t.sub (by refine U ha ?_;simp) av bK (fun H=>by refine U E7 ?_;simp) ⟨_,hk',i1,cR⟩ (b9 _)))
variable {J:TW→List D→Addr→cC→Prop} {Src:B→Prop} {jB lu br iter:Expr} {sc:Scope} {pos:Pos} {ts:List (Str×cZ)} {caps:List (Str×D)} {gs:List (Str×Value)} {α:Type} {xs:List α} {g:α→D} {kf:α→Str} {gp:α→D}
noncomputable def lI (kf:α→Str) (gp:α→D) (xs:List α):List (Str×D):=xs.foldl (fun l a=>fZ l (kf a) (gp a)) []
theorem KY (xs:List α):(lI kf gp xs).length≤xs.length:=by
 have main:∀(xs:List α) (l:List (Str×D)),(xs.foldl (fun l a=>fZ l (kf a) (gp a)) l).length≤l.length+xs.length:=by
  intro xs
  induction xs with
  |nil=>intro l;exact aI _
  |cons a xs ih=>
   intro l;refine U lG (U bW ?_);have h1:(fZ l (kf a) (gp a)).length≤l.length+1:=by
    unfold fZ;split
    ·rw[cj];exact bX _ _
    ·refine U dZ ?_;simp only[bW,g6];exact aI _
   have:=ih (fZ l (kf a) (gp a));exact Rm this rfl h1
 have:=main xs [];unfold lI;simpa using this
theorem YU (xs:List α) (a:α):lI kf gp (xs++[a])=fZ (lI kf gp xs) (kf a) (gp a):=by unfold lI;refine U List.foldl_append ?_;rfl
theorem ME (hh:c.hd=false) (dg:jX c J Src) (hs:∀x,foldedSetIterable iter V x=pure x)
 (hok:nG sc ts (caps.map Prod.fst) (gs.map Prod.fst)=true) (fQ:∀x∈caps,∃kd,(kd=cZ.aM∨kd= .gC)∧(⟨x.1,kd,some x.2⟩:iF)∈O) (gF:∀x∈gs,gB c.H0 x.1 x.2)
 (hi:bF c k O Y iter J (xs.map g)) (fT:Src Y) (hz:xs.length≤1000000)
 (turn:∀a∈xs,∀os,os.length=ts.length→∀I,bl c (gJ ts os caps gs) I br (g a) fun dJ=>(∃bw,bw.length=ts.length∧dJ=gJ ts bw caps gs)∧f8 c k dJ Y jB (.str (kf a))∧f8 c k dJ Y lu (gp a))
 (ok:Ok c k A s) (r:bB c Z s.heap V O Y)
 (q:∀wP L s' Z',CompEnd c s Z s' Z' wP L (.dict (lI kf gp xs))→ya c.M A use Q E (.ref wP) L s'):
 wpAny c.M A (comprehension (.DictComp jB lu [⟨br,iter,[],0⟩] sc pos) sc V (firstIterPos [⟨br,iter,[],0⟩] pos) newDict false (eval iter V) use) Q E s:=by
 refine JG hh dg (emit:=GP jB lu) (tB:=.dict []) rfl hs (fun K K K=>rfl) (fun K K K K=>rfl) (fun K K K K=>rfl) (fun K K K K=>rfl) (fun K K K K=>rfl) hok fQ gF adA hi fT
  (fun aE NE cl=>∃pre jr os,xs=pre++jr∧aE=jr.map g∧os.length=ts.length∧NE=gJ ts os caps gs∧cl= .dict (lI kf gp pre)) ⟨[],xs,kJ ts,rfl,rfl,by simp[kJ],rfl,rfl⟩ ?_ ok r ?_
 ·intro d rest NE cl Go I;refine zL Go fun pre jr os hx hr xz s4 eE=>?_;subst s4 eE;obtain _|⟨a,jr⟩:=jr
  ·injection hr
  refine Op (jd hr) fun s4 eE=>?_;subst s4 eE;intro A V s bs Z v uP w FS Q E q;refine turn a (by refine U hx ?_;simp) os xz I A V s bs Z v uP w FS Q E fun dJ s' Z' run cU ⟨⟨bw,bK,e⟩,h1,h2⟩=>q dJ s' Z' run cU ⟨true,eH.nil,fun x=>(by injection x),fun K=>?_⟩;refine⟨.dict (fZ (lI kf gp pre) (kf a) (gp a)),qo.dict h1 h2 ?_,pre++[a],jr,bw,by refine U hx ?_;simp,rfl,bK,e,by rw[YU]⟩;have h3:=KY (kf:=kf) (gp:=gp) pre;have h4:=cQ List.length hx;rw[dZ]at h4;exact Ev h3 (Ev (Ev (bX ..) (bT h4.symm)) ‹_›)
 ·intro wP L cl s' Z' Go ce;refine ON Go fun NE pre jr os hx hr xz s4 eE=>?_;subst s4 eE;have:jr=[]:=by simpa using hr.symm
  subst this;rw[fV]at hx;subst hx;exact q wP L s' Z' ce
theorem FM.abT (hh:c.hd=false) (dg:jX c J Src) (hs:∀V x,foldedSetIterable iter V x=pure x)
 (hok:nG sc ts (caps.map Prod.fst) (gs.map Prod.fst)=true) (fQ:∀x∈caps,∃kd,(kd=cZ.aM∨kd= .gC)∧(⟨x.1,kd,some x.2⟩:iF)∈O) (gF:∀x∈gs,gB c.H0 x.1 x.2)
 (hi:bF c k O Y iter J (xs.map g)) (fT:Src Y) (hz:xs.length≤1000000)
 (turn:∀a∈xs,∀os,os.length=ts.length→∀I,bl c (gJ ts os caps gs) I br (g a) fun dJ=>(∃bw,bw.length=ts.length∧dJ=gJ ts bw caps gs)∧f8 c k dJ Y jB (.str (kf a))∧f8 c k dJ Y lu (gp a))
 (h:∀X,Y X=none→∃NE,dX n (.val (.ref X)) O NE∧Sc (.next NE (Y.put X (some (.dict (lI kf gp xs)))))):FM c k O Y (.Assign [.Name n p] (.DictComp jB lu [⟨br,iter,[],0⟩] sc pos') pos) Sc:=by
 intro A V s bs Z ok w Q E q;obtain⟨b,hb⟩:∃b:Bool,swapsWithSole [.Name n p] (.DictComp jB lu [⟨br,iter,[],0⟩] sc pos') pos.line V=pure b:=⟨_,rfl⟩
 induction b with
 |false=>
  refine Ah ?_ hb;show wpAny c.M A (comprehension (.DictComp jB lu [⟨br,iter,[],0⟩] sc pos') sc V (firstIterPos [⟨br,iter,[],0⟩] pos') newDict false (eval iter V) none) _ E s;refine ME hh dg (hs V) hok fQ gF hi fT hz turn ok w.rd fun wP L s' Z' ce=>?_;refine aP (ce.ns) fun m M2=>?_;refine⟨m,M2,fun h' m' g7 av=>?_⟩;have qq:=ce.last w.rd.top g7 av;refine wS (h wP (w.rd.fresh ce.new)) fun NE eW tM=>?_;have aq:=qq.cell w.rd;refine nM (w.after aq) eW (.val _) fun s₂ af w₂=>?_;exact q (.next NE _) .next s₂ _ (aq.run.trans ⟨af,.refl _,fun K K h=>.inl h,fun K h=>.inl h⟩) w₂ .next tM
 |true=>
  show wpAny c.M A (standAt pos>>=fun K=>swapsWithSole [.Name n p] (.DictComp jB lu [⟨br,iter,[],0⟩] sc pos') pos.line V>>=_) Q E s;refine U hb ?_;refine u8 (gb (u8 (On ?_)));show wpAny c.M A ((comprehension (.DictComp jB lu [⟨br,iter,[],0⟩] sc pos') sc V (firstIterPos [⟨br,iter,[],0⟩] pos') newDict false (eval iter V) (some fun v=>PySem.assign (.Name n p) V v)>>=fun K=>pure ())>>=fun K=>pure .next) Q E s;refine u8 (u8 (ME hh dg (hs V) hok fQ gF hi fT hz turn ok w.rd (Q:=fun K s'=>wpAny c.M A (pure ()) (fun K s'=>wpAny c.M A (pure .next) Q E s') E s') fun wP L s' Z' ce=>?_));have r:=w.rd;refine wS (h wP (r.fresh ce.new)) fun NE eW tM=>?_;have aq:=ce.cells r;have w₁:=w.after aq;refine wG (nM w₁ eW (.val (.ref wP)) fun iw af ic=>?_);have xo:((Y.put L (some .any)).put wP (some (.dict (lI kf gp xs)))) L=some .any:=by
   exact U (B.aa _ _ ce.ne) (B.ai ..)
  refine b5 (ic.rd.cells L _ xo) fun aH K K=>?_;refine wS aH fun IT qD acA=>eO acA fun es ep JA EE=>?_;refine⟨nsFind es,⟨IT,es,ep,qD,JA,EE,fun K=>rfl⟩,fun h' m' g7 av=>On (On ?_)⟩;have n6:=(ic.RL (L:=L) (by refine U xo ?_;simp) av).shrink (I:=Y.put wP (some (.dict (lI kf gp xs)))) fun a cl e=>by
   by_cases pL:a=wP
   ·subst pL;rw[B.ai]at e;obtain rfl:=bh e;rw[B.aa _ _ (bS ce.ne),B.ai]
   ·rw[B.aa _ _ pL]at e;have:a≠L:=by rintro rfl;rw[r.fresh ce.tH]at e;injection e
    refine U (B.aa _ _ this) (U (B.aa _ _ pL) (U (B.aa _ _ this) ?_));exact e
  have run:=aq.run.trans (⟨af,.refl _,fun K K h=>.inl h,fun K h=>.inl h⟩:e8 _ s' Z' _ iw Z');refine fL (run.af.rest) fun agu tt As=>?_;subst As;have GZ:kO s {s with heap:=h',toks:=tt}:=⟨fun b o e hb=>by
   refine wS (run.af.frames b o e hb) fun o' e' i=>?_;have:b≠L:=fun q=>absurd (cJ e) (eL.mpr (q▸ce.tH));exact⟨o',(av.2 b this).trans e',i⟩,by show _≤h'.objs.size;refine U av.1 ?_;exact run.af.size,run.af.tok,⟨_,_,rfl⟩⟩
  refine q (.next NE _) .next _ _ ?_ n6 .next tM;exact⟨GZ,run.le,run.ext,fun a (ha:(Y.put wP (some (.dict (lI kf gp xs)))) a≠none)=>by
   by_cases pL:a=wP
   ·subst pL;exact .inr ce.new
   ·rw[B.aa _ _ pL]at ha;exact .inl ha⟩
end
end
section
open PySem.W
structure Eb (x y:Str):Prop where
 hx:x.length≤1000
 xm:x.length≠0
 h1:(Txt.slice x none (some 1) !=aQ)=false
 h2:((Txt.slice x (some 1) (some 2) !=aQ)||(Txt.slice x (some 2) (some 3)==aQ))=true
 hs:(Txt.split (Txt.slice x (some 1) none) aQ).length≤300∧∀y∈Txt.split (Txt.slice x (some 1) none) aQ,y.length≤1000
 eq:qV x=y
noncomputable def cg (ms:List nS):List (Str×Str):=ms.map fun m=>(m.1,m.2.1)
noncomputable def vF (aN:List (Str×Str)):List (Str×D):=lI (fun i:Nat=>(aN.getD i (Str.empty,Str.empty)).1) (fun i:Nat=>D.int (i:Int)) (List.range 6)
noncomputable def iV (aN:List (Str×Str)):List (Str×Str):=aN.filter fun p=>p.1 !=p.2
structure A8 (T:Str→Prop) (ms:List nS):Prop where
 len:ms.length=6
 norm:∀m∈ms,Eb m.2.2.1 m.1∧Eb m.2.2.2 m.2.1
 ok:∀p∈cg ms,PyData.strOk p.1=true∧PyData.strOk p.2=true
 texts:qh T
 T:∀p∈iV (cg ms),T p.1∧T p.2
 nd:((iV (cg ms)).map Prod.snd).Nodup
 moved:xR (lg (iV (cg ms))) 7 0 (vF (cg ms)) (iV (cg ms))
section
variable {c:ah} {k:Nat}
theorem Zm (t:aV c) (hx:xs.length≤63) (h:A8 T (ng xs)):
 wE c (k+6) (vars [("script",.loc)] [.list (xs.map .int)] [("moves",.loc),("told",.aM),("disk",.loc),("left",.loc)] [("_law_moves",.ref 259),("range",.type "range"),("_law_moved",.ref 305)]) (fun J=>none) (gM (bH 34))
  (vg fun d I=>d= .val (.bool true)):=by
 kst_p
 have hh:=t.hd;refine wE.cons (FM.assign (d:=.list ((ng xs).map pO)) (f8.call (by kd_p) (fX (st:=bH 25) (t.fn rfl rfl rfl rfl)) (.cons (by kd_p) .nil (by kd_p)) (cu.r (cu.less (S1 (k:=k+4) t hx) (aI _))) (by kd_p)) (by kd_in) ?_);generalize ng xs=ms at h⊢;have h6:=h.len;have fY:∀F:nS→D,(ms.filter fun J=>true).map F=ms.map F:=fun F=>by exact U (lz.mpr (fun J J=>rfl)) rfl
 have et:(cg ms).map pair=ms.map fun m:nS=>D.tup [.str m.1,.str m.2.1]:=by
  unfold cg;refine U cO ?_;rfl
 have Rq:(cg ms).map pair=(ms.filter fun J=>true).map fun m:nS=>D.tup [.str m.1,.str m.2.1]:=by rw[et,fY]
 refine wE.cons (FM.oS hh gI (caps:=[]) (gs:=[("normpath",.ref 235)]) (ts:=[("place",.loc),("goal",.loc),("crooked",.loc),("bent",.loc)]) (out:=(cg ms).map pair) (by intros;rfl) (by dsimp only[List.map];decide+kernel) (by simp) (bC (t.glob (by kd_p)) cI) (bF.list (l:=ms.map pO) (by kd_p)) trivial ?_ (by kd_in) ?_)
 ·refine U Rq ?_;refine dR.four (xs:=ms) (P:=fun J=>true) (F:=fun m:nS=>D.tup [.str m.1,.str m.2.1]) (fun m=>.str m.1) (fun m=>.str m.2.1) (fun m=>.str m.2.2.1) (fun m=>.str m.2.2.2) (by lia) fun m hm=>?_
  kst_p
  refine Op (h.norm m hm) fun n1 b6=>?_;have s1:=Ow (c:=c) (k:=k+3) t n1.hx n1.xm n1.h1 n1.h2 n1.hs;have s2:=Ow (c:=c) (k:=k+3) t b6.hx b6.xm b6.h1 b6.h2 b6.hs;rw[n1.eq]at s1;rw[b6.eq]at s2;exact⟨eH.nil,fun J=>f8.tuple (.cons (f8.call (by kd_p) (fX (st:=bH 20) (t.fn rfl rfl rfl rfl)) (.cons (by kd_p) .nil (by kd_p)) (cu.r s1) (by kd_p)) (.cons (f8.call (by kd_p) (fX (st:=bH 20) (t.fn rfl rfl rfl rfl)) (.cons (by kd_p) .nil (by kd_p)) (cu.r s2) (by kd_p)) .nil (by kd_p)) (by kd_p)) (by simp)⟩
 have hfl:iH ((cg ms).map pair)=true:=Nj pair _ fun x J=>Ib x;have hsh:PySem.SeqAt.shaped (pd (.list ((cg ms).map pair)))=true:=by
  unfold PySem.SeqAt.shaped;rw[wz,kW,pG];exact⟨by rw[PyData.canLay0];exact HN _ h.ok,Ev (Rl _) (by decide)⟩
 refine wE.cons (FM.ifs (b:=false) (az.cmp (d₂:=.list ((cg ms).map pair)) (by kd_p) (f8.mV hh gI (caps:=[]) (gs:=[]) (ts:=[("place",.loc),("goal",.loc),("crooked",.loc),("bent",.loc)]) (by intros;rfl) (by kd_p) (by simp) cI (bF.list (l:=ms.map pO) (by kd_p)) trivial ?_) (Rs.Cv (by rw[DP];exact hfl) hsh)) (fun h=>(by injection h)) fun J=>wE.nil ?_)
 ·exact U Rq (dR.four (xs:=ms) (P:=fun J=>true) (F:=fun m:nS=>D.tup [.str m.1,.str m.2.1]) (fun m=>.str m.1) (fun m=>.str m.2.1) (fun m=>.str m.2.2.1) (fun m=>.str m.2.2.2) (by lia) fun m hm=>⟨eH.nil,fun J=>f8.tuple (.cons (by kd_p) (.cons (by kd_p) .nil (by kd_p)) (by kd_p)) (by simp)⟩)
 have oz:(cg ms).length=6:=by unfold cg;rw[cj];exact h6
 refine wE.cons (FM.abT hh tL (caps:=[("told",.list ((cg ms).map pair))]) (gs:=[]) (ts:=[("i",.loc)]) (xs:=List.range 6) (g:=fun i:Nat=>D.int (i:Int)) (kf:=fun i:Nat=>((cg ms).getD i (Str.empty,Str.empty)).1) (gp:=fun i:Nat=>D.int (i:Int)) (by intros;rfl) (by dsimp only[List.map];decide+kernel) ?_ cI ?_ trivial (by simp) ?_ fun X mZ=>⟨_,by kd_in,?_⟩)
 ·intro z hz;simp only[a_,eF,g5]at hz;obtain rfl:=hz;exact⟨.aM,.inl rfl,by walk_at "v"⟩
 ·rw[←Ob];exact bF.range (n:=6) (by kd_p) (by kd_p) (by decide)
 ·intro i hi os xz I;have lE:i<6:=ru.mp hi
  match os,xz with
  |[o],_=>
  refine bl.name (dX.head (.inl rfl)) ⟨⟨[some (.int (i:Int))],rfl,rfl⟩,?_,?_⟩
  ·kst_p
   refine f8.sub (d₁:=pair ((cg ms).getD i (Str.empty,Str.empty))) (d₂:=.int 0) (f8.sub (by kd_p) (by kd_p) (Rs.item (l:=(cg ms).map pair) aL.list (kG _) ?_ (by rw[cj];lia))) (by kd_p) (Rs.xx (by decide) (by rfl) (by simp));rw[qB,kF,gh (by exact lQ ‹_› (uw ‹_›)),iM,gh (by exact lQ ‹_› (uw ‹_›))];rfl
  ·kst_p
   kd_p
 refine wE.cons (FM.oS hh gI (caps:=[]) (gs:=[]) (ts:=[("start",.loc),("goal",.loc)]) (out:=(iV (cg ms)).map pair) (by intros;rfl) (by kd_p) (by simp) cI (bF.list (l:=(cg ms).map pair) (by kd_p)) trivial (dR.two (xs:=cg ms) (P:=fun p=>p.1 !=p.2) (F:=pair) (fun p=>.str p.1) (fun p=>.str p.2) (by lia) fun p hp=>⟨eH.one (az.cmp (by kd_p) (by kd_p) Rs.qj),fun J=>f8.tuple (.cons (by kd_p) (.cons (by kd_p) .nil (by kd_p)) (by kd_p)) (by simp)⟩) (by kd_in) ?_);have pn:(iV (cg ms)).length≤100:=by
  have:(iV (cg ms)).length≤(cg ms).length:=iD _ _;exact f7 ‹_› (bT ‹_›) (by decide)
 exact wE.cons (FM.Hv (aF.call (ds:=[.val (.ref X),.list ((iV (cg ms)).map pair)]) (by kd_p) (fX (st:=bH 33) (t.fn rfl rfl rfl rfl)) (.cons (by kd_p) (.cons (by kd_p) .nil (by kd_p)) (by kd_p)) (di.mono (cD.r (ZT (k:=k) h.texts t h.T pn h.nd (B.ai ..) h.moved)) fun d I hd=>hd) (by kd_p)))
theorem Xo (t:aV c) (hx:xs.length≤63) (h:A8 T (ng xs)):cu c 12 (.ref 310) [.list (xs.map .int)] (.val (.bool true)):=by
 refine cD.pc ?_;exact cD.fn (k:=11) (st:=bH 34) (qual:="law") (dV:=.none) (t.fn rfl rfl rfl rfl) (by kd_p)
  (bC (t.glob (by kd_p)) (bC (t.dw (by kd_p) (by kd_p) (by decide)) (bC (t.glob (by kd_p)) cI))) rfl (fun J J=>.plain rfl (jg fun J=>rfl)) fun bP A V s bs Z ok w Q E q=>Zm (k:=5) (t.at (L:=bP)) hx h A V s bs Z ok w Q E fun f5 f s' Z' r cU dG hp=>q f5 f s' Z' r cU dG (by cases f5<;>first|exact hp|exact hp.elim)
end
theorem holds_law (h:∀xs:List Int,xs.length≤63→∃T,A8 T (ng xs)):PySem.Challenge.rw_pd0029_01.Holds:=
 holds_of fun c xs t hx=>aP (h xs hx) fun T hT=>Xo t hx hT
end
theorem GH (x) (l u):Txt.slice x l u=StrLaws.sliceText x l u:=rfl
theorem LC {x:Str} {i:Nat} {c:Nat} (h:(aN x)[i]?=some c):aN (Txt.slice x (some (i)) (some ((i+1:Nat):Int)))=[c]:=by
 have hi:i<(aN x).length:=by rw[k8]at h;exact h.1
 rw[GH,StrLaws.sliceText_nat x (b9 i) (by rw[←nU];assumption)];show((((aN x).drop i).take (i+1-i)).toArray).toList=[c];rw[gh hi]at h;have h':=bh h;rw[show i+1-i=1 from Nat.add_sub_cancel_left ..,rJ hi,h'];rfl
theorem Y9 (h:aN x=c::r):aN (Txt.slice x none (some 1))=[c]:=by
 rw[GH,StrLaws.sliceText_to ⟨by decide,by show _≤(((aN x).length:Nat):Int);rw[h,bW];exact uM.2 (gw (fz _))⟩];show((((aN x).drop 0).take (1-0:Int).toNat).toArray).toList=[c];rw[h];rfl
theorem VA (h:aN x=c::r):aN (Txt.slice x (some 1) none)=r:=by
 rw[GH,StrLaws.sliceText_from ⟨by decide,by show _≤(((aN x).length:Nat):Int);rw[h,bW];exact uM.2 (gw (fz _))⟩];show((((aN x).drop (1:Int).toNat).take ((((aN x).length:Nat):Int)-1).toNat).toArray).toList=r;refine U h ?_;show(r.take _)=r;refine xu ?_;rw[bW];exact abr
theorem aaO (ys) (h:∀y∈ys,y.length≤2):(cT ys).length≤3*ys.length:=by
 rw[←nU,nI]
 induction ys with
 |nil=>simp
 |cons y ys ih=>
  have h1:=h y (.head _);have h2:=ih fun z hz=>h z (.tail _ hz);have h3:=nU y;rw[jZ,dZ,bW,bW];exact Kr (gw (Ev (bT h3) h1)) h2
theorem ad0 (hf:∀z∈f0::fr,47∉aN z) (hl:∀z∈f0::fr,z.length≤2) (M2:(f0::fr).length≤300) (oH:jl [] (f0::fr)=bq p) (hp:0<p.length)
 (h2:(∃c r,aN (cT (f0::fr))=47::c::r∧c≠47)∨∃r,aN (cT (f0::fr))=47::47::47::r):Eb (cT (f0::fr)) (cH p):=by
 have FS:aN (cT (f0::fr))=47::(aN f0++fr.flatMap fun y=>47::aN y):=by rw[nI];rfl
 have jm:Txt.slice (cT (f0::fr)) (some 1) none=Str.join aQ (f0::fr):=by
  apply ql;rw[VA FS,t8,qi];rfl
 have HO:Txt.split (Txt.slice (cT (f0::fr)) (some 1) none) aQ=f0::fr:=by rw[jm,LX hf]
 refine⟨f7 (aaO (f0::fr) hl) (vo 3 M2) (by decide),?_,?_,?_,?_,?_⟩
 ·rw[←nU,FS];simp
 ·have:Txt.slice (cT (f0::fr)) none (some 1)=aQ:=ql (by rw[Y9 FS,qi]);refine U this ?_;simp
 ·rcases h2 with⟨c,r,e,hc⟩|⟨r,e⟩
  ·have h1:Txt.slice (cT (f0::fr)) (some 1) (some 2)≠aQ:=fun e'=>by
    have h3:=LC (x:=cT (f0::fr)) (i:=1) (c:=c) (by rw[e];rfl);have h4:aN (Txt.slice (cT (f0::fr)) (some 1) (some 2))=[c]:=h3;rw[e',qi]at h4;cases h4;exact hc rfl
   rw[o5];exact .inl (zS.mpr h1)
  ·have h3:=LC (x:=cT (f0::fr)) (i:=2) (c:=47) (by rw[e];rfl);have h4:aN (Txt.slice (cT (f0::fr)) (some 2) (some 3))=[47]:=h3;have h5:Txt.slice (cT (f0::fr)) (some 2) (some 3)=aQ:=ql (by rw[h4,qi]);refine U h5 ?_;simp
 ·rw[HO];exact⟨M2,fun y No=>Ev (hl y No) (by decide)⟩
 ·unfold qV;rw[HO,oH,Mw];unfold rm;rw[Tk (by rintro rfl;simp at hp)]
noncomputable abbrev iL (x:String):Str:=Str.ofString x
noncomputable def lq:List (List Str):=[[iL "."],[iL "",iL "",iL ""],[iL "q",iL ".."],[iL ".."]]
noncomputable def gu:List (List Str):=[[],[iL ""],[iL "."],[iL "z",iL ".."]]
theorem Lj:∀i:Fin 4,ym.getD i.val Str.empty=cT (lq.getD i.val [])∧(lq.getD i.val []).length≤3∧(∀z∈lq.getD i.val [],47∉aN z∧z.length≤2)∧jl [] (lq.getD i.val [])=[]:=by decide+kernel
theorem AZ:∀i:Fin 4,rS.getD i.val Str.empty=cT (gu.getD i.val []++[iL ""])∧Ct.getD i.val Str.empty=cT (gu.getD i.val [])∧(gu.getD i.val []).length≤2∧(∀z∈gu.getD i.val [],47∉aN z∧z.length≤2):=by decide+kernel
theorem VP:aN (iL "")=[]:=by decide+kernel
theorem acF (s):aN (cT (sp++[iL ""]))++aN s=aN (cT (sp++[s])):=by
 rw[nI,nI,Bb,Bb,j6];congr 1;simp only[jZ,uq,fV,VP];rfl
theorem afT (p) (sp):Txt.replace (cH p) (Str.ofString "/") (cT (sp++[iL ""]))=cT ((bq p).flatMap fun s=>sp++[s]):=by
 have e:Str.ofString "/" =⟨#[47]⟩:=EH;rw[e,StrLaws.replace_one,←EH];have h:=ug p;unfold dh at h;rw[h];apply ql;rw[t8,HW,oA,nI ((bq p).flatMap fun s=>sp++[s]),List.flatMap_assoc];congr 1;funext s;rw[acF,nI]
theorem C9 (wP xs ys):jl wP (xs++ys)=jl (jl wP xs) ys:=by unfold jl;exact U List.foldl_append rfl
theorem LL (h:yp x=true):gG wP x=wP:=by unfold gG;exact U (ak h) rfl
theorem JW (h:yp x=false) (h2:(x !=nJ)=true):gG wP x=wP++[x]:=by unfold gG;rw[Tk (by rw[h];simp),ak h2]
theorem MR (wP):∀i,i<4→jl wP (gu.getD i [])=wP
 |0,_=>rfl
 |1,_=>by
  show gG wP (iL "")=wP;exact LL (by decide+kernel)
 |2,_=>by
  show gG wP (iL ".")=wP;exact LL (by decide+kernel)
 |3,_=>by
  show gG (gG wP (iL "z")) (iL "..")=wP;have h1:gG wP (iL "z")=wP++[iL "z"]:=JW (by decide+kernel) (by decide+kernel);rw[h1];unfold gG;rw[Tk (by decide+kernel),Tk (by decide+kernel),A0]
 |n+4,h=>by rfl
theorem UY (wP) (b):gG wP (f_ b)=wP++[f_ b]:=by
 cases b
 ·exact JW (by decide+kernel) (by decide+kernel)
 ·exact JW (by decide+kernel) (by decide+kernel)
theorem Me (ff:j<4):∀p wP,jl wP ((bq p).flatMap fun s=>gu.getD j []++[s])=wP++bq p
 |[],wP=>by simp[jl]
 |b::p,wP=>by
  show jl wP ((gu.getD j []++[f_ b])++(bq p).flatMap fun s=>gu.getD j []++[s])=_;rw[C9,C9,MR wP j ff];show jl (gG wP (f_ b)) _=_;rw[UY,Me ff p];simp
theorem aac (p) (q):∃i j k:Nat,i<4∧j<4∧k<4∧kg (cH p) q=cT (lq.getD i []++((bq p).flatMap (fun s=>gu.getD j []++[s]))++gu.getD k []):=by
 refine aU (four (q:=q)) fun i J hi I6=>?_;refine aU (four (q:=q.fdiv 4)) fun j J ff Dg=>?_;refine aU (four (q:=q.fdiv 16)) fun k J hk Ye=>?_;refine I8 i j k hi ff hk ?_;unfold kg;rw[I6,Dg,Ye,(Lj ⟨i,hi⟩).1,(AZ ⟨j,ff⟩).1,(AZ ⟨k,hk⟩).2.1,afT,Et,Et]
theorem Qd (h1:0<p.length) (h2:p.length≤5) (q):Eb (kg (cH p) q) (cH p):=by
 refine t_ (aac p q) fun i j k hi ff hk e=>?_;refine U e ?_;have hF:=Lj ⟨i,hi⟩;have hS:=AZ ⟨j,ff⟩;have hT:=AZ ⟨k,hk⟩;dsimp only at hF hS hT;have hfl:∀z∈(bq p).flatMap (fun s=>gu.getD j []++[s]),47∉aN z∧z.length≤2:=fun z hz=>by
  refine wS (z5.mp hz) fun s hs hz=>?_;obtain hz|hz:=b_.mp hz
  ·exact hS.2.2.2 z hz
  ·rw[fG.mp hz];refine⟨L_ p s hs,?_⟩;refine wS (ao.mp hs) fun b J s4=>?_;subst s4;rw[←nU,z8];simp
 have hall:∀z∈lq.getD i []++((bq p).flatMap (fun s=>gu.getD j []++[s]))++gu.getD k [],47∉aN z∧z.length≤2:=fun z hz=>by
  obtain hz|hz:=b_.mp hz
  ·obtain hz|hz:=b_.mp hz
   ·exact hF.2.2.1 z hz
   ·exact hfl z hz
  ·exact hT.2.2.2 z hz
 have cM:(lq.getD i []++((bq p).flatMap (fun s=>gu.getD j []++[s]))++gu.getD k []).length≤300:=by
  have:∀(l:List Str),(l.flatMap fun s=>gu.getD j []++[s]).length≤3*l.length:=by
   intro l
   induction l with
   |nil=>simp
   |cons s l ih=>
    refine U jZ (U dZ (U dZ (U bW ?_)));have:=hS.2.2.1;simp only[bW,g6];exact Kr (gw this) ih
  have h3:=this (bq p);rw[cj]at h3;rw[dZ,dZ];exact Ev (mw (mw hF.2.1 (Ev h3 (vo 3 h2))) hT.2.2.1) (by decide)
 have oH:jl [] (lq.getD i []++((bq p).flatMap (fun s=>gu.getD j []++[s]))++gu.getD k [])=bq p:=by
  rw[C9,C9,hF.2.2.2,Me ff,oA,MR _ k hk]
 have QY:(∃c r,aN (cT (lq.getD i []++((bq p).flatMap (fun s=>gu.getD j []++[s]))++gu.getD k []))=47::c::r∧c≠47)∨∃r,aN (cT (lq.getD i []++((bq p).flatMap (fun s=>gu.getD j []++[s]))++gu.getD k []))=47::47::47::r:=by
  rw[←Et,←Et,qp,qp,j6];generalize aN (cT ((bq p).flatMap (fun s=>gu.getD j []++[s])))++aN (cT (gu.getD k []))=w;have hd:(aN (cT (lq.getD 0 []))=[47,46])∧(aN (cT (lq.getD 1 []))=[47,47,47])∧(aN (cT (lq.getD 2 []))=[47,113,47,46,46])∧(aN (cT (lq.getD 3 []))=[47,46,46]):=by decide+kernel
  match i,hi with
  |0,_=>exact .inl ⟨46,w,by rw[hd.1];rfl,by decide⟩
  |1,_=>exact .inr ⟨w,by rw[hd.2.1];rfl⟩
  |2,_=>exact .inl ⟨113,47::46::46::w,by rw[hd.2.2.1];rfl,by decide⟩
  |3,_=>exact .inl ⟨46,46::w,by rw[hd.2.2.2];rfl,by decide⟩
 generalize lU:lq.getD i []++((bq p).flatMap (fun s=>gu.getD j []++[s]))++gu.getD k []=parts at hall cM oH QY;obtain _|⟨f0,fr⟩:=parts
 ·exfalso;have:bq p=[]:=oH.symm;have h3:=cQ List.length this;rw[cj]at h3;exact iE h1 h3
 ·exact ad0 (fun z hz=>(hall z hz).1) (fun z hz=>(hall z hz).2) cM oH h1 QY
section
theorem acY {l:List Str} {P:Str→Bool}:(!(l.filter P).isEmpty)=l.any P:=by rw[NP,Bool.not_not]
noncomputable def mS (G:List (Str×Str)) (al:List Str):List Str:=al.filter fun one=>(aS G one).any fun two=>al.contains two
theorem B8 (G) (n) (al):jU G (n+1) al=jU G n (mS G al):=by
 rw[Um];congr 1;unfold mS;apply wh;intro x _;exact acY
theorem adV (h:mS G al=al):∀n,jU G n al=al:=fun k7=>by
 induction k7 with
 |zero=>exact rfl
 |succ n mq=>exact by rw[B8,h,(mq)]
theorem Oc (G):∀n al,al.length≤n→mS G (jU G n al)=jU G n al
 |0,al,h=>by
  have:al=[]:=GN.mp (Nat.le_zero.mp h);subst this;rfl
 |n+1,al,h=>by
  by_cases q:mS G al=al
  ·rw[adV q,q]
  ·rw[B8];refine Oc G n _ ?_;have h1:(mS G al).length≤al.length:=iD _ _;have h2:(mS G al).length≠al.length:=fun e=>q (l0.eq_of_length e);exact zX (fU (CZ h1 h2) h)
theorem Fq (G):∀n al,∃p:Str→Bool,jU G n al=al.filter p
 |0,al=>⟨fun J=>true,by refine U (lz.mpr (fun J J=>rfl)) ?_;rfl⟩
 |n+1,al=>by
  rw[B8];refine aP (Fq G n (mS G al)) fun p hp=>?_;exact⟨_,by refine U hp ?_;unfold mS;exact U List.filter_filter rfl⟩
theorem OT:∀x∈jU G n al,x∈al:=fun x hx=>by
 refine aP (Fq G n al) fun p hp=>?_;rw[hp]at hx;exact(cE.mp hx).1
theorem Kz (G):∀n al,∃h:Str→Nat,∀x∈al,x∉jU G n al→∀y∈aS G x,y∈al→y∉jU G n al∧h y<h x
 |0,al=>⟨fun J=>0,fun x hx M2=>absurd hx M2⟩
 |n+1,al=>by
  rw[B8];refine aP (Kz G n (mS G al)) fun h' ih=>?_;refine⟨fun z=>if z∈mS G al then h' z+1 else 0,fun x hx M2 y No VC=>?_⟩;by_cases iC:x∈mS G al
  ·by_cases wk:y∈mS G al
   ·refine Op (ih x iC M2 y No wk) fun h1 h2=>?_;refine⟨h1,?_⟩;simp only[ak iC,ak wk];exact gw ‹_›
   ·refine⟨fun hm=>wk (OT y hm),?_⟩;simp only[ak iC,Tk wk];exact Dj _ _
  ·exfalso;apply iC;refine cE.mpr ⟨hx,?_⟩;rw[zJ];exact⟨y,No,by simpa using VC⟩
noncomputable abbrev rz:=List Str⊕List Str
inductive jv (ns:List bQ):Str→List Str→gE→rz→Prop
 |ring {x:Str} {seen:List Str} {st:gE}:x∈seen→x∈st.map Prod.fst→jv ns x seen st (.inl (nD (st.map Prod.fst).reverse x))
 |Oq {x:Str} {seen:List Str} {st:gE}:x∈seen→x∉st.map Prod.fst→j0 st=none→jv ns x seen st (.inr seen)
 |skip {x z:Str} {seen:List Str} {st st':gE} {r:rz}:x∈seen→x∉st.map Prod.fst→j0 st=some (z,st')→jv ns z seen st' r→jv ns x seen st r
 |Ru {x:Str} {seen:List Str} {st:gE}:x∉seen→j0 ((x,ji ns x)::st)=none→jv ns x seen st (.inr (seen++[x]))
 |push {x z:Str} {seen:List Str} {st st':gE} {r:rz}:x∉seen→j0 ((x,ji ns x)::st)=some (z,st')→jv ns z (seen++[x]) st' r→jv ns x seen st r
theorem jv.run {ns:List bQ} {x:Str} {seen:List Str} {st:gE} {r:rz} (h:jv ns x seen st r):∃f0,∀f,f0≤f→mJ ns f x seen st=some r:=by
 induction h with
 |ring h1 h2=>exact⟨1,fun f hf=>by refine aP (Av hf) fun f s4=>?_;subst s4;rw[xZ,ak h1,ak h2]⟩
 |Oq h1 h2 h3=>exact⟨1,fun f hf=>by refine aP (Av hf) fun f s4=>?_;subst s4;rw[xZ,ak h1,Tk h2,h3]⟩
 |skip h1 h2 h3 _ ih=>
  refine aP ih fun f0 ih=>?_;exact⟨f0+1,fun f hf=>by
   refine aP (Av hf) fun f s4=>?_;subst s4;rw[show f+(f0+1)=(f+f0)+1 by rfl,xZ,ak h1,Tk h2,h3];exact ih _ (by exact D5 ‹_›)⟩
 |Ru h1 h2=>exact⟨1,fun f hf=>by refine aP (Av hf) fun f s4=>?_;subst s4;rw[xZ,Tk h1,h2]⟩
 |push h1 h3 _ ih=>
  refine aP ih fun f0 ih=>?_;exact⟨f0+1,fun f hf=>by
   refine aP (Av hf) fun f s4=>?_;subst s4;rw[show f+(f0+1)=(f+f0)+1 by rfl,xZ,Tk h1,h3];exact ih _ (by exact D5 ‹_›)⟩
noncomputable def kN (ns:List bQ) (st:gE) (seen:List Str) (r:rz):Prop:=match j0 st with
 |none=>r= .inr seen
 |some (z,st')=>jv ns z seen st' r
theorem jv.Vd {ns:List bQ} {x:Str} {seen:List Str} {st:gE} {r:rz} (h1:x∈seen) (h2:x∉st.map Prod.fst) (h:kN ns st seen r):jv ns x seen st r:=by
 unfold kN at h
 induction hp:j0 st with
 |none=>rw[hp]at h;subst h;exact .Oq h1 h2 hp
 |some p=>rw[hp]at h;exact .skip h1 h2 hp h
theorem jv.MM {ns:List bQ} {x:Str} {seen:List Str} {st:gE} {r:rz} (h1:x∉seen) (h:kN ns ((x,ji ns x)::st) (seen++[x]) r):jv ns x seen st r:=by
 unfold kN at h;rcases hp:j0 ((x,ji ns x)::st)with _|p
 ·rw[hp]at h;subst h;exact .Ru h1 hp
 ·rw[hp]at h;exact .push h1 hp h
theorem kN.nil {ns:List bQ} {x:Str} {st:gE} {seen:List Str} {r:rz} (h:kN ns st seen r):kN ns ((x,[])::st) seen r:=by
 unfold kN at h⊢;rw[aeG];exact h
theorem kN.cons {ns:List bQ} {x y:Str} {ys:List Str} {st:gE} {seen:List Str} {r:rz} (h:jv ns y seen ((x,ys)::st) r):kN ns ((x,y::ys)::st) seen r:=by
 unfold kN;rw[Uz];exact h
noncomputable def pH (al seen seen':List Str):Prop:=(∀y∈seen,y∈seen')∧∀y∈seen',y∈seen∨y∉al
theorem pH.refl (al seen):pH al seen seen:=⟨fun J h=>h,fun J h=>.inl h⟩
theorem pH.trans (x:pH al a b) (y:pH al b c):pH al a c:=⟨fun z h=>y.1 z (x.1 z h),fun z h=>(y.2 z h).elim (x.2 z) .inr⟩
section
variable {ns:List bQ} {names al:List Str} {h:Str→Nat}
theorem Pb (l8:∀x∈names,x∉al→∀y∈ji ns x,y∈names∧y∉al∧h y<h x):∀n x,h x<n→x∈names→x∉al→∀seen st,(∀z∈st.map Prod.fst,z∈al∨h x<h z)→
 ∃seen',pH al seen seen'∧∀r,kN ns st seen' r→jv ns x seen st r:=by
 intro n
 induction n with
 |zero=>intro x hx;exact absurd hx (Nat.not_lt_zero _)
 |succ n ih=>
  intro x hx M2 ha seen st hst;have Tz:x∉st.map Prod.fst:=fun hm=>by
   obtain q|q:=hst x hm
   ·exact ha q
   ·exact absurd q (yG _)
  by_cases hs:x∈seen
  ·exact⟨seen,.refl ..,fun r k=>.Vd hs Tz k⟩
  ·have main:∀(aE:List Str),(∀y∈aE,y∈ji ns x)→∀w9,∃seen',pH al w9 seen'∧∀r,kN ns st seen' r→kN ns ((x,aE)::st) w9 r:=by
    intro aE
    induction aE with
    |nil=>intro _ w9;exact⟨w9,.refl ..,fun r k=>.nil k⟩
    |cons y ys afR=>
     intro hsub w9;refine b5 (l8 x M2 ha y (hsub y (.head _))) fun tY uJ Q4=>?_;obtain⟨s2,e2,k2⟩:=ih y (fU Q4 (zX ‹_›)) tY uJ w9 ((x,ys)::st) (fun z hz=>by
      refine bD hz ?_ fun hz=>?_
      ·exact .inr Q4
      ·obtain q|q:=hst z hz
       ·exact .inl q
       ·exact .inr (by exact Nat.lt_trans ‹_› ‹_›))
     refine wS (afR (fun z hz=>hsub z (.tail _ hz)) s2) fun s3 e3 k3=>?_;exact⟨s3,e2.trans e3,fun r k=>.cons (k2 r (k3 r k))⟩
   refine wS (main (ji ns x) (fun J No=>No) (seen++[x])) fun s2 e2 k2=>?_;refine⟨s2,pH.trans ⟨fun y No=>iX _ No,fun y No=>?_⟩ e2,fun r k=>.MM hs (k2 r k)⟩;obtain No|No:=b_.mp No
   ·exact .inl No
   ·exact U (fG.mp No) (.inr ha)
theorem LP (l8:∀x∈names,x∉al→∀y∈ji ns x,y∈names∧y∉al∧h y<h x) {x:Str} {st:gE} (hx:x∈al) (hst:∀z∈st.map Prod.fst,z∈al):
 ∀pre post seen,(∀y∈pre,y∈names∧y∉al)→∃seen',pH al seen seen'∧∀r,kN ns ((x,post)::st) seen' r→kN ns ((x,pre++post)::st) seen r
 |[],post,seen,_=>⟨seen,.refl ..,fun r k=>k⟩
 |y::pre,post,seen,hp=>by
  refine Op (hp y (.head _)) fun tY uJ=>?_;obtain⟨s2,e2,k2⟩:=Pb l8 (h y+1) y (jM _) tY uJ seen ((x,pre++post)::st) (fun z hz=>by
   refine bD hz ?_ fun hz=>?_
   ·exact .inl hx
   ·exact .inl (hst z hz))
  refine wS (LP l8 hx hst pre post s2 fun z hz=>hp z (.tail _ hz)) fun s3 e3 k3=>?_;exact⟨s3,e2.trans e3,fun r k=>.cons (k2 r (k3 r k))⟩
end
theorem LN (h:l.filter p=y::ys):∃pre post,l=pre++y::post∧(∀z∈pre,p z=false)∧p y=true:=by
 induction l with
 |nil=>injection h
 |cons a l ih=>
  rw[je]at h;by_cases q:p a=true
  ·rw[ak q]at h;refine Op (jd h) fun s4 eE=>?_;subst s4 eE;exact sR ([]) l rfl (fun J h=>(nomatch h)) q
  ·rw[Tk q]at h;refine fJ (ih h) fun pre post h1 h2 h3=>?_;refine sR (a::pre) post (by refine U h1 ?_;rfl) (fun z hz=>?_) h3;refine bD hz ?_ fun hz=>?_
   ·simpa using q
   ·exact h2 z hz
theorem Rk (hx:x∈w):(w++[x]).drop ((w++[x]).idxOf x)=nD w x:=by
 unfold nD;have h1:(w++[x]).idxOf x=w.idxOf x:=by exact U List.idxOf_append (U (ak hx) rfl)
 have h2:w.idxOf x≤w.length:=I_;exact U h1 (U (List.drop_append_of_le_length h2) rfl)
theorem P6 {ns:List bQ} {G:List (Str×Str)} {names al:List Str} {h:Str→Nat} (l8:∀x∈names,x∉al→∀y∈ji ns x,y∈names∧y∉al∧h y<h x) (hS:∀x∈names,ji ns x=aS G x) (hsub:∀x∈names,∀y∈aS G x,y∈names) (ig:∀x∈al,x∈names):
 ∀f w x ring seen st,sF G al f (w++[x])=some ring→x∈al→(∀z∈w,z∈al)→st.map Prod.fst=w.reverse→(∀z∈seen,z∈w∨z∉al)→(∀z∈w,z∈seen)→jv ns x seen st (.inl ring)
 |0,_,_,_,_,_,h,_,_,_,_,_=>by injection h
 |f+1,w,x,ring,seen,st,hw,hx,R9,hst,Sh,tn=>by
  rw[Fb]at hw;rw[JX,A0]at hw;by_cases hc:x∈w
  ·rw[ak (by simpa using hc)]at hw;obtain rfl:=bh hw;have h2:x∈st.map Prod.fst:=by refine U hst ?_;simpa using hc
   have:=jv.ring (ns:=ns) (seen:=seen) (st:=st) (tn x hc) h2;rw[hst,List.reverse_reverse]at this;exact U (Rk hc) this
  ·rw[Tk (by simpa using hc)]at hw;have vQ:x∉seen:=fun hm=>(Sh x hm).elim hc fun q=>q hx;rcases hfl:(aS G x).filter fun two=>al.contains two with _|⟨y,ys⟩
   ·rw[hfl]at hw;injection hw
   rw[hfl]at hw;refine fJ (LN hfl) fun pre post e1 e2 e3=>?_;have hxn:=ig x hx;refine .MM vQ ?_;refine U (hS x hxn) (U e1 ?_);obtain⟨seen',e,k⟩:=LP l8 hx (st:=st) (fun z hz=>by rw[hst]at hz;exact R9 z (vh.mp hz)) pre (y::post) (seen++[x]) fun z hz=>⟨hsub x hxn z (by refine U e1 ?_;exact iX _ hz),by simpa using e2 z hz⟩;refine k _ (.cons ?_);refine P6 l8 hS hsub ig f (w++[x]) y ring seen' ((x,post)::st) hw (by simpa using e3) (fun z hz=>?_) ?_ (fun z hz=>?_) (fun z hz=>?_)
   ·obtain hz|hz:=b_.mp hz
    ·exact R9 z hz
    ·exact U (fG.mp hz) hx
   ·refine U aK (U hst (U List.reverse_append ?_));rfl
   ·obtain q|q:=e.2 z hz
    ·obtain q|q:=b_.mp q
     ·obtain q|q:=Sh z q
      ·exact .inl (iX _ q)
      ·exact .inr q
     ·exact .inl (m5 _ q)
    ·exact .inr q
   ·apply e.1;obtain hz|hz:=b_.mp hz
    ·exact iX _ (tn z hz)
    ·exact m5 _ hz
end
noncomputable def jV (ef:Str→List Str):List Str→Prop
 |a::b::r=>b∈ef a∧jV ef (b::r)
 |_=>True
theorem jV.tail:∀{a:Str} {r:List Str},jV ef (a::r)→jV ef r
 |_,[],_=>trivial
 |_,_::_,h=>h.2
theorem jV.drop:∀{l:List Str} (k),jV ef l→jV ef (l.drop k)
 |l,0,h=>h
 |[],k+1,h=>trivial
 |a::l,k+1,h=>jV.drop k h.tail
theorem jV.snoc:∀{w:List Str},jV ef (w++[x])→y∈ef x→jV ef (w++[x]++[y])
 |[],_,No=>⟨No,trivial⟩
 |[a],h,No=>⟨h.1,No,trivial⟩
 |a::b::w,h,No=>⟨h.1,jV.snoc (w:=b::w) h.2 No⟩
theorem jV.pred:∀{a:Str} {r:List Str},jV ef (a::r)→∀s∈r,∃t∈a::r,s∈ef t
 |_,[],_,s,hs=>nomatch hs
 |a,b::r,h,s,hs=>by
  refine bD hs ?_ fun hs=>?_
  ·exact⟨a,.head _,h.1⟩
  ·refine wS (jV.pred h.2 s hs) fun t FS e=>?_;exact⟨t,.tail _ FS,e⟩
theorem R_ {G:List (Str×Str)} {names al:List Str} (ig:∀x∈al,x∈names) (zH:∀x∈al,∃y∈aS G x,y∈al):
 ∀f w x,(∀z∈w,z∈al)→x∈al→w.Nodup→names.length<w.length+f→jV (aS G) (w++[x])→
  ∃ring,sF G al f (w++[x])=some ring∧∃bZ rest,ring=bZ::rest∧bZ∈rest∧(∀s∈ring,s∈al)∧jV (aS G) ring
 |0,w,x,hw,hx,nd,hl,_=>by
  have:=uo nd fun z hz=>ig z (hw z hz);exact absurd hl (Nat.not_lt_of_le this)
 |f+1,w,x,hw,hx,nd,hl,hc=>by
  rw[Fb];refine U JX (U A0 ?_);by_cases hm:x∈w
  ·refine U (ak (by simpa using hm)) ?_;refine⟨_,rfl,?_⟩;have hd:w.drop (w.idxOf x)=x::w.drop (w.idxOf x+1):=by
    rw[rJ (JS hm),GL]
   have hr:=Rk hm;have G5:jV (aS G) (nD w x):=hr▸hc.drop _;refine U hr ?_;unfold nD at G5⊢;rw[hd]at G5⊢;refine ju x (w.drop (w.idxOf x+1)++[x]) rfl (by simp) (fun s hs=>?_) G5;have hs:s=x∨s∈w.drop (w.idxOf x+1)∨s=x:=by simpa using hs
   obtain rfl|hs|rfl:=hs
   ·exact hx
   ·exact hw s (Em hs)
   ·exact hx
  ·refine U (Tk (by simpa using hm)) ?_;refine wS (zH x hx) fun y0 tY uJ=>?_;rcases hfl:(aS G x).filter fun two=>al.contains two with _|⟨y,ys⟩
   ·have:y0∈(aS G x).filter fun two=>al.contains two:=cE.mpr ⟨tY,by simpa using uJ⟩;rw[hfl]at this;cases this
   ·have No:y∈(aS G x).filter fun two=>al.contains two:=by refine U hfl ?_;exact .head _
    refine Op (cE.mp No) fun tY uJ=>?_;refine R_ ig zH f (w++[x]) y (fun z hz=>?_) (by simpa using uJ) ?_ ?_ (hc.snoc tY)
    ·obtain hz|hz:=b_.mp hz
     ·exact hw z hz
     ·exact U (fG.mp hz) hx
    ·rw[kq];exact⟨nd,by simp,fun a ha b hb=>by refine U (fG.mp hb) ?_;rintro rfl;exact hm ha⟩
    ·refine U dZ ?_;simp only[bW,g6];exact lQ hl (xy w.length f).symm
theorem Dr {ns:List bQ} {names al:List Str} {h:Str→Nat} (l8:∀x∈names,x∉al→∀y∈ji ns x,y∈names∧y∉al∧h y<h x):
 ∀(roots aN) (seen) (b:Option (List Str)),(∀x∈roots,x∈names∧x∉al)→(∀z∈seen,z∉al)→(∀seen',(∀z∈seen',z∉al)→∃f0,∀f,f0≤f→iR ns f aN seen'=some b)→∃f0,∀f,f0≤f→iR ns f (roots++aN) seen=some b
 |[],aN,seen,b,_,hs,k=>k seen hs
 |x::roots,aN,seen,b,hr,hs,k=>by
  refine Op (hr x (.head _)) fun h1 h2=>?_;by_cases hx:x∈seen
  ·refine aP (Dr l8 roots aN seen b (fun z hz=>hr z (.tail _ hz)) hs k) fun f0 ih=>?_;refine⟨f0,fun f hf=>?_⟩;rw[nY,ye,ak hx];exact ih f hf
  ·refine wS (Pb l8 (h x+1) x (jM _) h1 h2 seen [] fun z hz=>nomatch hz) fun s2 e2 k2=>?_;refine aP ((k2 (.inr s2) rfl).run) fun f1 HE=>?_;refine aP (Dr l8 roots aN s2 b (fun z hz=>hr z (.tail _ hz)) (fun z hz=>(e2.2 z hz).elim (hs z) id) k) fun f0 ih=>?_;refine⟨f0+f1,fun f hf=>?_⟩;rw[nY,ye,Tk hx,HE f (by exact Ev (Dj ..) ‹_›)];exact ih f (by exact Ev (bX ..) ‹_›)
theorem Xe {G:List (Str×Str)} {ns:List bQ} (nd:(G.map Prod.fst).Nodup) (hS:∀x∈G.map Prod.fst,ji ns x=aS G x):
 ∃b,w5 G=some b∧(∃dK,iR ns dK (G.map Prod.fst) []=some b)∧∀ring,b=some ring→∃bZ rest,ring=bZ::rest∧(∀s∈ring,s∈G.map Prod.fst)∧(∀s∈ring,∃t∈ring,s∈aS G t)∧aS G bZ≠[]:=by
 have ig:∀x∈jU G G.length (G.map Prod.fst),x∈G.map Prod.fst:=fun x hx=>OT x hx;have zH:=Oc G G.length (G.map Prod.fst) (by simp);refine aP (Kz G G.length (G.map Prod.fst)) fun h l8=>?_;refine aP (Fq G G.length (G.map Prod.fst)) fun p hp=>?_;have hsub:∀x∈G.map Prod.fst,∀y∈aS G x,y∈G.map Prod.fst:=fun x J y No=>vX No;generalize kU:jU G G.length (G.map Prod.fst)=al at ig zH l8 hp;have EO:∀x∈G.map Prod.fst,x∉al→∀y∈ji ns x,y∈G.map Prod.fst∧y∉al∧h y<h x:=fun x hx M2 y No=>by
  rw[hS x hx]at No;exact⟨hsub x hx y No,l8 x hx M2 y No (hsub x hx y No)⟩
 have MU:∀x∈al,∃y∈aS G x,y∈al:=fun x hx=>by
  rw[←zH]at hx;have:=(cE.mp hx).2;rw[zJ]at this;refine wS this fun y No e=>?_;exact⟨y,No,by simpa using e⟩
 unfold w5;refine U kU ?_;obtain _|⟨a,al⟩:=al
 ·refine gg none rfl ?_ (fun ring e=>(by injection e));refine aP (Dr EO (G.map Prod.fst) [] [] none (fun x hx=>⟨hx,fun hm=>nomatch hm⟩) (fun z hz=>nomatch hz) fun seen' J=>⟨0,fun f J=>rfl⟩) fun f0 hf=>?_;rw[fV]at hf;exact⟨f0,hf f0 (aI _)⟩
 ·have ha:a∈a::al:=.head _;obtain⟨ring,hw,bZ,rest,rfl,uB,hin,hc⟩:=R_ ig MU (G.length+1) [] a (fun z hz=>nomatch hz) ha .nil (by simp) trivial;rw[oA]at hw;dsimp only;refine gg (some (bZ::rest)) (by refine U hw ?_;rfl) ?_ (fun ring e=>?_)
  ·refine fJ (LN hp.symm) fun pre post e1 e2 e3=>?_;have hd:=P6 EO hS hsub ig (G.length+1) [] a (bZ::rest);have key:∀seen',(∀z∈seen',z∉a::al)→∃f0,∀f,f0≤f→iR ns f (a::post) seen'=some (some (bZ::rest)):=fun seen' hs=>by
    refine aP ((hd seen' [] hw ha (fun z hz=>nomatch hz) rfl (fun z hz=>.inr (hs z hz)) (fun z hz=>nomatch hz)).run) fun f1 HE=>?_;refine⟨f1,fun f hf=>?_⟩;rw[ye,Tk (fun hm=>hs a hm ha),HE f hf]
   have EJ:∀x∈pre,x∈G.map Prod.fst∧x∉a::al:=fun x hx=>by
    have iC:x∈G.map Prod.fst:=by refine U e1 ?_;exact iX _ hx
    refine⟨iC,fun hm=>?_⟩;rw[hp]at hm;have h1:=(cE.mp hm).2;rw[e2 x hx]at h1;injection h1
   refine aP (Dr EO pre (a::post) [] (some (bZ::rest)) EJ (fun z hz=>nomatch hz) key) fun f0 hf=>?_;rw[←e1]at hf;exact⟨f0,hf f0 (aI _)⟩
  ·obtain rfl:=bh e;refine ju bZ rest rfl (fun s hs=>ig s (hin s hs)) (fun s hs=>?_) (fun e=>?_)
   ·refine bD hs ?_ fun hs=>?_
    ·exact hc.pred _ uB
    ·exact hc.pred s hs
   ·refine wS (MU bZ (hin bZ (.head _))) fun y No J=>?_;rw[e]at No;cases No
noncomputable def b7 (names:List Str) (np:Str→Int) (sc:Str→List Str):List bQ:=names.map fun x=>⟨x,np x,sc x⟩
noncomputable def fm {α:Type} (f:Str→α) (x:Str) (v:α):Str→α:=fun z=>if z=x then v else f z
theorem Fd (names) (np:Str→Int) (sc:Str→List Str):(b7 names np sc).map (fun x=>x.name)=names:=by
 unfold b7;exact U cO (Bj _)
theorem qn (h1:∀x∈names,np x=vn x) (h2:∀x∈names,sc x=sc' x):b7 names np sc=b7 names vn sc':=by
 unfold b7;exact ve fun x hx=>by exact U (h1 x hx) (U (h2 x hx) rfl)
theorem qA:∀{names:List Str} {x:Str},x∈names→eg (b7 names np sc) x=some ⟨x,np x,sc x⟩
 |[],x,h=>nomatch h
 |y::names,x,h=>by
  show eg (⟨y,np y,sc y⟩::b7 names np sc) x=_;rw[nL];by_cases q:y=x
  ·subst q;exact U (ak rfl) rfl
  ·exact U (Tk q) (qA ((a_.mp h).resolve_left fun e=>q e.symm))
theorem Nx:∀{names:List Str} {x:Str},x∉names→eg (b7 names np sc) x=none
 |[],x,h=>rfl
 |y::names,x,h=>by
  show eg (⟨y,np y,sc y⟩::b7 names np sc) x=_;rw[nL];exact U (Tk (by rintro rfl;exact h (.head _))) (Nx fun hm=>h (.tail _ hm))
theorem DY:∀{names:List Str} {x:Str},names.Nodup→eo (b7 names np sc) x ⟨x,v,s⟩=b7 names (fm np x v) (fm sc x s)
 |[],x,_=>rfl
 |y::names,x,nd=>by
  rw[dm]at nd;show eo (⟨y,np y,sc y⟩::b7 names np sc) x _=⟨y,fm np x v y,fm sc x s y⟩::b7 names (fm np x v) (fm sc x s);rw[ud];by_cases q:y=x
  ·subst q;refine U (ak rfl) ?_;unfold fm;refine U (ak rfl) (U (ak rfl) ?_);congr 1;exact qn (fun z hz=>by exact U (Tk (by rintro rfl;exact nd.1 hz)) rfl) (fun z hz=>by exact U (Tk (by rintro rfl;exact nd.1 hz)) rfl)
  ·refine U (Tk q) (U (DY nd.2) ?_);congr 1;unfold fm;exact U (Tk q) (U (Tk q) rfl)
theorem N1 (h:x∈names):dH ⟨b7 names np sc,r,a,b⟩ x=⟨b7 names np sc,r,a,b⟩:=by
 unfold dH;dsimp only;exact U (qA h) rfl
theorem Sd (nd:names.Nodup) (h:x∈names):k_ ⟨b7 names np sc,r,a,b⟩ x v=⟨b7 names (fm np x (np x+v)) sc,r,a,b⟩:=by
 unfold k_;dsimp only;refine U (qA h) ?_;dsimp only;refine U (DY nd) ?_;congr 1;exact qn (fun J J=>rfl) fun z hz=>by unfold fm;split<;>simp_all
theorem Ve (nd:names.Nodup) (h:x∈names):jt ⟨b7 names np sc,r,a,b⟩ x y=⟨b7 names np (fm sc x (sc x++[y])),r,a,b⟩:=by
 unfold jt;dsimp only;refine U (qA h) ?_;dsimp only;refine U (DY nd) ?_;congr 1;exact qn (fun z hz=>by unfold fm;split<;>simp_all) fun J J=>rfl
theorem Om:∀(rest pre:List Str),(pre++rest).Nodup→rest.foldl (fun s x=>fW s x []) ⟨b7 pre (fun J=>0) (fun J=>[]),none,0,0⟩=⟨b7 (pre++rest) (fun J=>0) (fun J=>[]),none,0,0⟩
 |[],pre,_=>by rw[fV];rfl
 |x::rest,pre,nd=>by
  have hx:x∉pre:=fun hm=>(kq.mp nd).2.2 x hm x (.head _) rfl;have M2:(pre++[x]).Nodup:=by
   have:(pre++[x]).Sublist (pre++x::rest):=List.Sublist.append_left (List.Sublist.cons_cons x (List.nil_sublist rest)) pre;exact this.nodup nd
  have h1:fW ⟨b7 pre (fun J=>0) (fun J=>[]),none,0,0⟩ x []=⟨b7 (pre++[x]) (fun J=>0) (fun J=>[]),none,0,0⟩:=by
   unfold fW;refine U List.foldl_nil ?_;have h2:dH ⟨b7 pre (fun J=>0) (fun J=>[]),none,0,0⟩ x=⟨b7 (pre++[x]) (fun J=>0) (fun J=>[]),none,0,0⟩:=by
    unfold dH;dsimp only;refine U (Nx hx) ?_;dsimp only;unfold b7;refine U gK ?_;rfl
   refine U h2 (U (Sd M2 (by simp)) ?_);congr 1;exact qn (fun z J=>by unfold fm;split<;>rfl) fun J J=>rfl
  refine U lG (U h1 (U (Om rest (pre++[x]) (by simpa using nd)) ?_));simp
theorem Kd (nd:names.Nodup):∀(ys:List Str) (sc:Str→List Str),ys.Nodup→(∀y∈ys,y∈names)→
 ys.foldl (fun s p=>jt (dH s p) p x) ⟨b7 names np sc,r,a,b⟩=⟨b7 names np (fun z=>if z∈ys then sc z++[x]else sc z),r,a,b⟩
 |[],sc,_,_=>by simp
 |y::ys,sc,hnd,hin=>by
  rw[dm]at hnd;refine U lG (U (N1 (hin y (.head _))) (U (Ve nd (hin y (.head _))) (U (Kd nd ys _ hnd.2 fun z hz=>hin z (.tail _ hz)) ?_)));congr 1;refine qn (fun J J=>rfl) fun z J=>?_;unfold fm;by_cases q:z=y
  ·subst q;simp[hnd.1]
  ·simp[q]
noncomputable def gO (G:List (Str×Str)) (g:Str):List Str:=(G.map Prod.fst).filter fun one=>cF one g
theorem acu (pre) (p) (z):aS (pre++[p]) z=aS pre z++(if cF z p.2 then [p.1]else []):=by
 unfold aS;rw[List.filter_append,gK];congr 1;refine U je ?_;split<;>rfl
theorem PV (nd:(G.map Prod.fst).Nodup):∀(rest pre) (np:Str→Int),G=pre++rest→(∀q∈pre,np q.1=(gO G q.2).length)→(∀q∈rest,np q.1=0)→
 ∃vn:Str→Int,(∀q∈G,vn q.1=(gO G q.2).length)∧rest.foldl (fun s p=>fW s p.1 (gO G p.2)) ⟨b7 (G.map Prod.fst) np (aS pre),none,0,0⟩=⟨b7 (G.map Prod.fst) vn (aS G),none,0,0⟩
 |[],pre,np,e,h1,_=>by
  rw[fV]at e;subst e;exact⟨np,h1,rfl⟩
 |p::rest,pre,np,e,h1,h2=>by
  have hp:p.1∈G.map Prod.fst:=cA (by refine U e ?_;simp);have DT:∀y∈gO G p.2,y∈G.map Prod.fst:=fun y No=>(cE.mp No).1;have hnd:(gO G p.2).Nodup:=oq l0 nd;have hd:∀q∈pre++rest,q.1≠p.1:=by
   have h3:((pre++p::rest).map Prod.fst).Nodup:=e▸nd;rw[gK,aK,kq]at h3;refine b5 h3 fun i1 cR fk=>?_;rw[dm]at cR;intro q Ch;obtain Ch|Ch:=b_.mp Ch
   ·exact fk q.1 (cA Ch) p.1 (.head _)
   ·intro z;exact cR.1 (z▸cA Ch)
  have YI:fW ⟨b7 (G.map Prod.fst) np (aS pre),none,0,0⟩ p.1 (gO G p.2)=⟨b7 (G.map Prod.fst) (fm np p.1 (np p.1+(gO G p.2).length)) (aS (pre++[p])),none,0,0⟩:=by
   unfold fW;refine U (N1 hp) (U (Sd nd hp) (U (Kd nd _ _ hnd DT) ?_));congr 1;refine qn (fun J J=>rfl) fun z hz=>?_;rw[acu];have:(z∈gO G p.2)↔cF z p.2=true:=by
    unfold gO;rw[cE];exact⟨fun h=>h.2,fun h=>⟨hz,h⟩⟩
   by_cases q:cF z p.2=true
   ·exact U (ak (this.mpr q)) (U (ak q) rfl)
   ·rw[Tk (fun h=>q (this.mp h)),Tk q,fV]
  refine U lG (U YI ?_);refine PV nd rest (pre++[p]) _ (by refine U e ?_;simp) (fun q Ch=>?_) (fun q Ch=>?_)
  ·obtain Ch|Ch:=b_.mp Ch
   ·unfold fm;exact U (Tk (hd q (iX _ Ch))) (h1 q Ch)
   ·refine U (fG.mp Ch) ?_;unfold fm;refine U (ak rfl) (U (h2 p (.head _)) ?_);lia
  ·unfold fm;exact U (Tk (hd q (m5 _ Ch))) (h2 q (.tail _ Ch))
theorem ads (nd:(G.map Prod.fst).Nodup) (hw:∀p∈G,∀x∈G.map Prod.fst,((j4 ws p.2).getD []).contains x=cF x p.2):
 ∃np:Str→Int,(∀q∈G,np q.1=(gO G q.2).length)∧nN G ws=⟨b7 (G.map Prod.fst) np (aS G),none,0,0⟩:=by
 have Cy:∀p∈G,((G.map Prod.fst).filter fun one=>((j4 ws p.2).getD []).contains one)=gO G p.2:=fun p hp=>wh fun x hx=>hw p hp x hx;unfold nN;have h1:G.foldl (fun s p=>fW s p.1 []) u6=⟨b7 (G.map Prod.fst) (fun J=>0) (aS []),none,0,0⟩:=by
  have:=Om (G.map Prod.fst) [] (by simpa using nd);rw[List.foldl_map,oA]at this;exact this
 refine U h1 ?_;have h2:∀s:St,G.foldl (fun s p=>fW s p.1 ((G.map Prod.fst).filter fun one=>((j4 ws p.2).getD []).contains one)) s=G.foldl (fun s p=>fW s p.1 (gO G p.2)) s:=by
  have main:∀(l:List (Str×Str)),(∀p∈l,p∈G)→∀s:St,l.foldl (fun s p=>fW s p.1 ((G.map Prod.fst).filter fun one=>((j4 ws p.2).getD []).contains one)) s=l.foldl (fun s p=>fW s p.1 (gO G p.2)) s:=by
   intro l
   induction l with
   |nil=>intro _ s;rfl
   |cons p l ih=>
    intro hs s;refine U lG (U lG (U (Cy p (hs p (.head _))) ?_));exact ih (fun q Ch=>hs q (.tail _ Ch)) _
  exact main G fun J h=>h
 rw[h2];exact PV nd G [] (fun J=>0) rfl (fun q Ch=>nomatch Ch) fun q J=>rfl
noncomputable def er (G:List (Str×Str)) (s:Str):Str:=((G.find? fun p=>p.1=s).map Prod.snd).getD Str.empty
theorem n_:∀{G:List (Str×Str)} {p:Str×Str},(G.map Prod.fst).Nodup→p∈G→er G p.1=p.2
 |q::G,p,nd,h=>by
  rw[aK,dm]at nd;delta er;rw[rD];by_cases e:q.1=p.1
  ·refine U (show(decide (q.1=p.1))=true from w7 e) ?_;refine bD h ?_ fun h=>?_
   ·rfl
   ·exact absurd (e▸cA (f:=Prod.fst) h) nd.1
  ·exact U (show(decide (q.1=p.1))=false from decide_eq_false e) (n_ nd.2 ((a_.mp h).resolve_left fun z=>e (U z rfl)))
noncomputable def fu (G:List (Str×Str)) (D:List Str) (s:Str):Nat:=((gO G (er G s)).filter fun x=>!D.contains x).length
theorem tQ {G:List (Str×Str)} {D:List Str} {s:Str}:fu G D s=0↔∀x∈gO G (er G s),x∈D:=by
 delta fu;rw[GN,xB];exact⟨fun h x hx=>by simpa using h x hx,fun h x hx=>by simpa using h x hx⟩
theorem ET {G:List (Str×Str)} (nd:(G.map Prod.fst).Nodup) {D:List Str} {x s:Str} (hx:x∉D):fu G D s=fu G (D++[x]) s+(if x∈gO G (er G s)then 1 else 0):=by
 have hb:(gO G (er G s)).Nodup:=oq l0 nd;delta fu;generalize gO G (er G s)=l at hb⊢
 induction l with
 |nil=>simp
 |cons a l ih=>
  rw[dm]at hb;have ih:=ih hb.2;refine U je (U je ?_);by_cases q:a=x
  ·subst q;have h1:a∉l:=hb.1;have e1:(!D.contains a)=true:=by simpa using hx
   have e2:(!(D++[a]).contains a)=false:=by simp
   refine U (ak e1) (U e2 ?_);rw[Tk h1]at ih;simp only[j3,jA,a_,true_or,mC,bW];exact cQ Nat.succ ih
  ·have e2:(!(D++[x]).contains a)=(!D.contains a):=by simp[q]
   have e3:(x∈a::l)↔x∈l:=by simp[bS q]
   refine U e2 ?_;by_cases e1:(!D.contains a)=true
   ·refine U (ak e1) (U (ak e1) (U bW (U bW ?_)));by_cases m:x∈l
    ·rw[ak m]at ih;refine U (ak (e3.mpr m)) ?_;exact cQ Nat.succ ih
    ·rw[Tk m]at ih;refine U (Tk (fun h=>m (e3.mp h))) ?_;exact cQ Nat.succ ih
   ·refine U (Tk e1) (U (Tk e1) ?_);by_cases m:x∈l
    ·rw[ak m]at ih;refine U (ak (e3.mpr m)) ?_;assumption
    ·rw[Tk m]at ih;refine U (Tk (fun h=>m (e3.mp h))) ?_;assumption
theorem yJ (nd:(G.map Prod.fst).Nodup) (hx:x∈G.map Prod.fst):s∈aS G x↔s∈G.map Prod.fst∧x∈gO G (er G s):=by
 delta aS gO;constructor
 ·intro h;refine wS (ao.mp h) fun p hp s4=>?_;subst s4;obtain⟨h1,h2⟩:=cE.mp hp;refine⟨cA h1,cE.mpr ⟨hx,?_⟩⟩;exact U (n_ nd h1) h2
 ·intro Go;obtain⟨h1,h2⟩:=Go;refine wS (ao.mp h1) fun p hp s4=>?_;subst s4;have:=(cE.mp h2).2;rw[n_ nd hp]at this;exact cA (cE.mpr ⟨hp,this⟩)
theorem ES (G) (x):(aS G x).Sublist (G.map Prod.fst):=l0.map _
noncomputable def mR (G:List (Str×Str)):List Str→List Str→List Str
 |_,[]=>[]
 |D,x::xs=>((aS G x).filter fun s=>fu G D s==1)++mR G (D++[x]) xs
theorem Kp (G D):mR G D []=[]:=rfl
theorem yh (G D x xs):mR G D (x::xs)=((aS G x).filter fun s=>fu G D s==1)++mR G (D++[x]) xs:=rfl
theorem LK (nd:(G.map Prod.fst).Nodup):∀R D s,(∀x∈R,x∈G.map Prod.fst)→(∀x∈R,x∉D)→R.Nodup→(s∈mR G D R↔s∈G.map Prod.fst∧fu G (D++R) s=0∧0<fu G D s)
 |[],D,s,_,_,_=>by
  simp only[Kp,yh,fV,eF,false_iff];intro Go;obtain⟨_,h1,h2⟩:=Go;exact iE h2 h1
 |x::R,D,s,bE,fH,hnd=>by
  rw[dm]at hnd;have ih:=LK nd R (D++[x]) s (fun z hz=>bE z (.tail _ hz)) (fun z hz hm=>by
   obtain hm|hm:=b_.mp hm
   ·exact fH z (.tail _ hz) hm
   ·rw[fG.mp hm]at hz;exact hnd.1 hz) hnd.2
  have hc:=ET nd (s:=s) (fH x (.head _));have hx:=bE x (.head _);rw[yh,b_,cE,ih,yJ nd hx,j6,List.singleton_append];constructor
  ·rintro(⟨⟨h1,h2⟩,h3⟩|⟨h1,h2,h3⟩)
   ·refine⟨h1,?_,?_⟩
    ·rw[ak h2]at hc;have h3:fu G D s=1:=by simpa using h3
     have:fu G (D++[x]) s=0:=AY (hc.symm.trans h3);rw[tQ]at this⊢;intro z hz;have:=this z hz;obtain h|h:=b_.mp this
     ·exact iX _ h
     ·refine U (fG.mp h) ?_;simp
    ·have h3:fu G D s=1:=by simpa using h3
     exact yQ ‹_›
   ·exact⟨h1,h2,fU h3 (Ev (bX ..) (bT hc.symm))⟩
  ·intro Go;obtain⟨h1,h2,h3⟩:=Go;by_cases q:0<fu G (D++[x]) s
   ·exact .inr ⟨h1,h2,q⟩
   ·left;by_cases m:x∈gO G (er G s)
    ·rw[ak m]at hc;exact⟨⟨h1,m⟩,by simp;exact hc.trans (cQ Nat.succ (Nat.eq_zero_of_not_pos q))⟩
    ·rw[Tk m]at hc;exact absurd (lQ h3 hc) q
noncomputable def iZ (G:List (Str×Str)) (last:List Str) (s:Str):Int:=jD (-1) ((kB last (er G s)).map fun k:Nat=>(k:Int))
theorem MW:∀b l,b≤jD b l∧∀x∈l,x≤jD b l
 |b,[]=>⟨CS _,fun J h=>nomatch h⟩
 |b,d::r=>by
  rw[BU];refine Op (MW (if b<d then d else b) r) fun h1 h2=>?_;have h3:b≤(if b<d then d else b)∧d≤(if b<d then d else b):=by
   split
   ·exact iu ‹_›
   ·exact dT ‹_›
  refine⟨qx h3.1 h1,fun x hx=>?_⟩;refine bD hx ?_ fun hx=>?_
  ·exact qx h3.2 h1
  ·exact h2 x hx
theorem MX:∀b l,jD b l=b∨jD b l∈l
 |b,[]=>.inl rfl
 |b,d::r=>by
  rw[BU];obtain h|h:=MX (if b<d then d else b) r
  ·refine U h ?_;split
   ·exact .inr (.head _)
   ·exact .inl rfl
  ·exact .inr (.tail _ h)
theorem Yv {G:List (Str×Str)} (nd:(G.map Prod.fst).Nodup) {D pre xs:List Str} {x s:Str} (bE:∀z∈pre++x::xs,z∈G.map Prod.fst) (fH:∀z∈pre++x::xs,z∉D) (hnd:(pre++x::xs).Nodup) (hs:s∈aS G x) (hc:fu G (D++pre) s=1):iZ G (pre++x::xs) s=(pre.length:Int):=by
 have hx:x∈G.map Prod.fst:=bE x (by simp);refine Op ((yJ nd hx).mp hs) fun O8 DT=>?_;have GX:x∉D++pre:=fun hm=>by
  obtain hm|hm:=b_.mp hm
  ·exact fH x (by simp) hm
  ·exact(kq.mp hnd).2.2 x hm x (.head _) rfl
 have h0:fu G (D++pre++[x]) s=0:=by
  have:=ET nd (s:=s) GX;rw[ak DT]at this;exact AY (this.symm.trans hc)
 rw[tQ]at h0;have jG:(pre++x::xs).getD pre.length Str.empty=x:=by simp[iM]
 have hit:pre.length∈kB (pre++x::xs) (er G s):=by
  delta kB;refine cE.mpr ⟨ru.mpr (by simp),?_⟩;exact U jG ((cE.mp DT).2)
 delta iZ;refine Op (MW (-1) ((kB (pre++x::xs) (er G s)).map fun k:Nat=>(k:Int))) fun g1 g2=>?_;have g3:=g2 _ (cA (f:=fun k:Nat=>(k:Int)) hit);rcases MX (-1) ((kB (pre++x::xs) (er G s)).map fun k:Nat=>(k:Int))with h|h
 ·rw[h]at g3;exact absurd (qx (kG _) g3) (by decide)
 ·refine wS (ao.mp h) fun k hk e=>?_;rw[←e]at g3⊢;have hle:k≤pre.length:=by
   obtain q|q:=vG pre.length k
   ·exfalso;refine Op (cE.mp hk) fun hk1 Sa=>?_;have hk1:=ru.mp hk1;rw[iM,gh hk1,Bh]at Sa;have hm:(pre++x::xs)[k]∈pre++x::xs:=sd hk1;have hb:(pre++x::xs)[k]∈gO G (er G s):=cE.mpr ⟨bE _ hm,Sa⟩;have hin:=h0 _ hb;rw[j6]at hin;obtain hin|hin:=b_.mp hin
    ·exact fH _ hm hin
    ·obtain⟨i,hi,e⟩:=List.getElem_of_mem hin;have lE:i<pre.length+1:=by simpa using hi
     have e2:(pre++x::xs)[i]'(by simp;exact fU lE (jQ (gw (fz _)) _))=(pre++x::xs)[k]:=by
      refine ZB e ?_;have h1:(pre++x::xs)[i]?=(pre++[x])[i]?:=by
       rw[show pre++x::xs=pre++[x]++xs by simp,yF hi]
      have h2:(pre++x::xs)[i]?=some ((pre++x::xs)[i]'(by simp;exact fU lE (jQ (gw (fz _)) _))):=gh _;rw[h2,gh hi]at h1;exact bh h1
     have e3:=cQ (fun z=>List.idxOf z (pre++x::xs)) e2;simp only[Iz hnd]at e3;exact absurd (f9 (zX lE) q) (Nat.not_lt_of_le (bT e3.symm))
   ·exact q
  exact cQ Nat.cast (HK hle (uM.1 g3))
theorem K6 (nd:l.Nodup):∀{m:List Str},m.Sublist l→m.Pairwise fun a b=>l.idxOf a<l.idxOf b:=by
 have full:l.Pairwise fun a b=>l.idxOf a<l.idxOf b:=by
  rw[NG];intro i j hi ff Dm;rw[Iz nd,Iz nd];exact Dm
 intro m h;exact List.Pairwise.sublist h full
theorem L5 {G:List (Str×Str)} (nd:(G.map Prod.fst).Nodup) {D:List Str} {yj R:List Str} (iU:yj=(G.map Prod.fst).filter fun z=>!(D++R).contains z) (bE:∀z∈R,z∈G.map Prod.fst) (fH:∀z∈R,z∉D) (hnd:R.Nodup) (hw:∀x∈R,∀s∈aS G x,s∉D++R):
 ∀xs pre,R=pre++xs→(mR G (D++pre) xs).Pairwise (fun a b=>iY (iZ G R a,(yj.idxOf a:Nat)) (iZ G R b,(yj.idxOf b:Nat))=true)∧∀s∈mR G (D++pre) xs,(pre.length:Int)≤iZ G R s
 |[],pre,_=>⟨.nil,fun J h=>nomatch h⟩
 |x::xs,pre,e=>by
  refine Op (L5 nd iU bE fH hnd hw xs (pre++[x]) (by refine U e ?_;simp)) fun i1 cR=>?_;have hx:x∈R:=by refine U e ?_;simp
  have hk:∀s∈(aS G x).filter (fun s=>fu G (D++pre) s==1),iZ G R s=(pre.length:Int):=fun s hs=>by
   refine Op (cE.mp hs) fun h1 h2=>?_;have:=Yv nd (D:=D) (pre:=pre) (xs:=xs) (x:=x) (s:=s) (e▸bE) (e▸fH) (e▸hnd) h1 (by simpa using h2);exact U e this
  have hsub:((aS G x).filter (fun s=>fu G (D++pre) s==1)).Sublist yj:=by
   have h1:((aS G x).filter (fun s=>fu G (D++pre) s==1)).Sublist (G.map Prod.fst):=l0.trans (ES G x);have h2:=h1.filter fun z=>!(D++R).contains z;rw[←iU]at h2;rw[lz.mpr]at h2
   ·exact h2
   ·intro s hs;have:=hw x hx s (cE.mp hs).1;simpa using this
  have acI:yj.Nodup:=by refine U iU ?_;exact oq l0 nd
  rw[←j6]at i1 cR;rw[yh];refine⟨?_,fun s hs=>?_⟩
  ·rw[IQ];refine⟨?_,i1,fun a ha b hb=>?_⟩
   ·refine(K6 acI hsub).imp_of_mem fun{a b} ha hb r_=>?_;delta iY;refine U (hk a ha) (U (hk b hb) ?_);simp;assumption
   ·have h1:=hk a ha;have h2:=cR b hb;rw[dZ]at h2;simp only[bW,g6]at h2;delta iY;have:iZ G R a<iZ G R b:=Hj (Int.le_of_eq h1) (Int.lt_of_lt_of_le (GU.2 (jM _)) h2);simp[this]
  ·obtain hs|hs:=b_.mp hs
   ·exact U (hk s hs) (CS _)
   ·have:=cR s hs;rw[dZ]at this;simp only[bW,g6]at this;exact qx (uM.2 (b9 _)) this
section
section
variable {names:List Str} {f:Str→Int} {sc:Str→List Str} {r:List Str} {a b:Int}
theorem G2 (nd:names.Nodup) (h:x∈names):eo (b7 names f sc) x ⟨x,v,sc x⟩=b7 names (fm f x v) sc:=by
 refine U (DY nd) ?_;exact qn (fun J J=>rfl) fun z J=>by unfold fm;split<;>simp_all
theorem UJ (nd:names.Nodup) (h:x∈names):o4 (b7 names f sc) x v=b7 names (fm f x v) sc:=by
 unfold o4;exact U (qA h) (G2 nd h)
theorem RB (nd:names.Nodup):∀(R:List Str) (f:Str→Int),(∀x∈R,x∈names)→R.foldl (fun ns x=>o4 ns x (-1)) (b7 names f sc)=b7 names (fun z=>if z∈R then-1 else f z) sc
 |[],f,_=>by simp
 |x::R,f,h=>by
  refine U lG (U (UJ nd (h x (.head _))) (U (RB nd R _ fun z hz=>h z (.tail _ hz)) ?_));refine qn (fun z J=>?_) fun J J=>rfl;unfold fm;by_cases q:z=x
  ·subst q;simp
  ·simp[q]
theorem adm (nd:names.Nodup) (h:s∈names):nR ⟨b7 names f sc,some r,a,b⟩ s=⟨b7 names (fm f s (f s-1)) sc,some (r++if f s==1 then [s]else []),a,b⟩:=by
 unfold nR;dsimp only;refine U (qA h) ?_;dsimp only;refine U (G2 nd h) ?_;congr 2;by_cases q:f s=1
 ·exact U (ak (by lia)) (U (ak (by simpa using q)) rfl)
 ·rw[Tk (by lia),Tk (by simpa using q),fV]
theorem R6 (nd:names.Nodup):∀(ss:List Str) (f:Str→Int) (r:List Str),ss.Nodup→(∀s∈ss,s∈names)→ss.foldl nR ⟨b7 names f sc,some r,a,b⟩=⟨b7 names (fun z=>if z∈ss then f z-1 else f z) sc,some (r++ss.filter fun s=>f s==1),a,b⟩
 |[],f,r,_,_=>by simp
 |s::ss,f,r,hnd,h=>by
  rw[dm]at hnd;refine U lG (U (adm nd (h s (.head _))) (U (R6 nd ss _ _ hnd.2 fun z hz=>h z (.tail _ hz)) ?_));congr 1
  ·refine qn (fun z J=>?_) fun J J=>rfl;unfold fm;by_cases q:z=s
   ·subst q;simp[hnd.1]
   ·simp[q]
  ·congr 1;rw[j6];congr 1;refine U je ?_;have e:(ss.filter fun z=>fm f s (f s-1) z==1)=ss.filter fun z=>f z==1:=wh fun z hz=>by
    unfold fm;exact U (Tk (by rintro rfl;exact hnd.1 hz)) rfl
   refine U e ?_;split<;>rfl
theorem Y8 (nd:names.Nodup) (h:x∈names) (hs:(sc x).Nodup) (hin:∀s∈sc x,s∈names) (hx:x∉sc x):
 lS ⟨b7 names f sc,some r,a,b⟩ x=⟨b7 names (fun z=>if z∈sc x then f z-1 else if z=x then-2 else f z) sc,some (r++(sc x).filter fun s=>f s==1),a,b+1⟩:=by
 unfold lS;dsimp only;refine U (qA h) ?_;dsimp only;refine U (G2 nd h) (U (R6 nd _ _ _ hs hin) ?_);dsimp only;have e1:b7 names (fun z=>if z∈sc x then fm f x (-2) z-1 else fm f x (-2) z) sc=b7 names (fun z=>if z∈sc x then f z-1 else if z=x then-2 else f z) sc:=by
  refine qn (fun z J=>?_) fun J J=>rfl;unfold fm;by_cases q:z∈sc x
  ·exact U (ak q) (U (ak q) (U (Tk (by rintro rfl;exact hx q)) rfl))
  ·exact U (Tk q) (U (Tk q) rfl)
 have e2:((sc x).filter fun s=>fm f x (-2) s==1)=(sc x).filter fun s=>f s==1:=wh fun z hz=>by
  unfold fm;exact U (Tk (by rintro rfl;exact hx hz)) rfl
 exact U e1 (U e2 rfl)
end
theorem OC {G:List (Str×Str)} (nd:(G.map Prod.fst).Nodup) {D R:List Str} {a:Int} (hl:G.length≤500) (bE:∀z∈R,z∈G.map Prod.fst) (fH:∀z∈R,z∉D) (hnd:R.Nodup) (hw:∀x∈R,∀s∈aS G x,s∉D++R):
 ∀(xs pre) (f:Str→Int) (r) (b),R=pre++xs→(∀z∈xs,f z= -1)→(∀z∈G.map Prod.fst,z∉D++R→f z=fu G (D++pre) z)→
  z6 ⟨b7 (G.map Prod.fst) f (aS G),some r,a,b⟩ xs∧∃Dp:Str→Int,xs.foldl lS ⟨b7 (G.map Prod.fst) f (aS G),some r,a,b⟩=⟨b7 (G.map Prod.fst) Dp (aS G),some (r++mR G (D++pre) xs),a,b+xs.length⟩∧∀z∈G.map Prod.fst,z∉D++R→Dp z=fu G (D++R) z
 |[],pre,f,r,b,e,h1,h2=>by
  rw[fV]at e;subst e;exact⟨trivial,f,by simp[Kp,yh],h2⟩
 |x::xs,pre,f,r,b,e,h1,h2=>by
  have hx:x∈R:=by refine U e ?_;simp
  have hxn:=bE x hx;have afZ:(aS G x).Nodup:=oq (ES G x) nd;have E6:∀s∈aS G x,s∈G.map Prod.fst:=fun s hs=>vX hs;have R1:x∉aS G x:=fun hm=>hw x hx x hm (m5 _ hx);have GX:x∉D++pre:=fun hm=>by
   obtain hm|hm:=b_.mp hm
   ·exact fH x hx hm
   ·rw[e]at hnd;exact(kq.mp hnd).2.2 x hm x (.head _) rfl
  have B_:x∉xs:=by
   rw[e]at hnd;exact(dm.mp (kq.mp hnd).2.1).1
  have e1:=Y8 (f:=f) (sc:=aS G) (r:=r) (a:=a) (b:=b) nd hxn afZ E6 R1;have e2:((aS G x).filter fun s=>f s==1)=(aS G x).filter fun s=>fu G (D++pre) s==1:=wh fun s hs=>by
   refine U (h2 s (E6 s hs) (hw x hx s hs)) ?_;rw[qb];simp;exact⟨Int.ofNat.inj,cQ Nat.cast⟩
  rw[e2]at e1;obtain⟨i1,Dp,cR,fk⟩:=OC nd (a:=a) hl bE fH hnd hw xs (pre++[x]) (fun z=>if z∈aS G x then f z-1 else if z=x then-2 else f z) (r++(aS G x).filter fun s=>fu G (D++pre) s==1) (b+1) (by refine U e ?_;simp)
   (fun z hz=>by
    have aen:z∈R:=by refine U e ?_;simp[hz]
    refine U (Tk (fun hm=>hw x hx z hm (m5 _ aen))) (U (Tk (by rintro rfl;exact B_ hz)) ?_);exact h1 z (.tail _ hz))
   (fun z hz qU=>by
    have hc:=ET nd (s:=z) GX;have abm:z≠x:=by rintro rfl;exact qU (m5 _ hx)
    have hst:=yJ nd (s:=z) hxn;refine U (Tk abm) (U (h2 z hz qU) ?_);rw[←j6];by_cases q:z∈aS G x
    ·refine U (ak q) ?_;rw[ak (hst.mp q).2]at hc;exact dV hc
    ·refine U (Tk q) ?_;rw[Tk (fun hm=>q (hst.mpr ⟨hz,hm⟩))]at hc;exact cQ Nat.cast hc)
  refine⟨⟨⟨_,qA hxn,h1 x (.head _),?_,?_⟩,?_⟩,Dp,?_,fk⟩
  ·have:=(ES G x).length_le;rw[cj]at this;show(aS G x).length≤500;exact Ev ‹_› ‹_›
  ·intro s hs;rw[Fd];exact E6 s hs
  ·exact U e1 i1
  ·rw[lG,e1,cR,yh,j6,j6];congr 1;rw[bW];push_cast;lia
end
structure wW (G:List (Str×Str)):Prop where
 nd:(G.map Prod.fst).Nodup
 Rf:∀p∈G,∀q∈G,p≠q→cF p.2 q.2=false
 six:G.length≤6
 ok:∀x∈G,(PyData.strOk x.1=true∧PyData.strOk x.2=true)∧x.1.length≤1000∧x.2.length≤1000
structure sO (aA:List (Str×D)) (left:List (Str×Str)):Prop where
 a:∀x∈aA.map Prod.fst,x∈left.map Prod.fst∨∀p∈left,cF x p.2=false
 b:∀p∈left,p.1∈aA.map Prod.fst
 len:aA.length≤100
 ja:∀x∈aA,x.1.length≤1000
noncomputable def c7 (G:List (Str×Str)) (D:List Str):List (Str×Str):=G.filter fun p=>!D.contains p.1
theorem Js (G) (D):(c7 G D).map Prod.fst=(G.map Prod.fst).filter fun z=>!D.contains z:=by
 unfold c7;refine U Gm ?_;rfl
theorem tW {G:List (Str×Str)} {D:List Str} {s:Str}:s∈(c7 G D).map Prod.fst↔s∈G.map Prod.fst∧s∉D:=by
 rw[Js,cE];simp
theorem OU (nd:(G.map Prod.fst).Nodup) (ks last):∀l i,(∀p∈l,p∈G)→(l.map Prod.fst).Nodup→
 ir ks last i l=((l.map Prod.fst).filter fun s=>!ks.any fun x=>cF x (er G s)).map fun s=>(iZ G last s,((i+(l.map Prod.fst).idxOf s:Nat):Int))
 |[],_,_,_=>rfl
 |p::r,i,hs,hnd=>by
  rw[aK,dm]at hnd;have ih:=OU nd ks last r (i+1) (fun q Ch=>hs q (.tail _ Ch)) hnd.2;have hp:=hs p (.head _);have hg:=n_ nd hp;have adb:∀s∈(r.map Prod.fst).filter (fun s=>!ks.any fun x=>cF x (er G s)),i+1+(r.map Prod.fst).idxOf s=i+((p::r).map Prod.fst).idxOf s:=fun s hs=>by
   have h1:=(cE.mp hs).1;refine U aK (U E8 ?_);have:(p.1==s)=false:=by
    rw[FL];rintro rfl;exact hnd.1 h1
   refine U this ?_;simp;lia
  have oz:(((r.map Prod.fst).filter fun s=>!ks.any fun x=>cF x (er G s)).map fun s=>(iZ G last s,((i+1+(r.map Prod.fst).idxOf s:Nat):Int)))=((r.map Prod.fst).filter fun s=>!ks.any fun x=>cF x (er G s)).map fun s=>(iZ G last s,((i+((p::r).map Prod.fst).idxOf s:Nat):Int)):=ve fun s hs=>by exact U (adb s hs) rfl
  rw[xF,ih,oz,aK,je,hg];by_cases q:ks.any (fun x=>cF x p.2)=true
  ·refine U (ak q) (U q ?_);rfl
  ·refine U (Tk q) ?_;have:(!ks.any fun x=>cF x p.2)=true:=by simpa using q
   refine U this (U (ak rfl) (U aK ?_));congr 1;unfold iZ;refine U hg (U E8 ?_);simp
theorem XY {l m:List Str} (h1:l.Nodup) (h2:m.Nodup) (h:∀x,x∈l↔x∈m):l.Perm m:=by
 induction l generalizing m with
 |nil=>
  induction m with
  |nil=>exact .nil
  |cons a m=>have:=(h a).mpr (.head _);cases this
 |cons a l ih=>
  rw[dm]at h1;have ha:a∈m:=(h a).mp (.head _);refine List.Perm.trans (List.Perm.cons a (ih h1.2 (h2.erase a) fun x=>?_)) (List.perm_cons_erase ha).symm;rw[h2.mem_erase_iff];constructor
  ·intro hx;exact⟨by rintro rfl;exact h1.1 hx,(h x).mp (.tail _ hx)⟩
  ·intro Go;refine Op Go fun M2 hx=>?_;exact(a_.mp ((h x).mpr hx)).resolve_left M2
theorem Je (l) (x) (d) (z):z∈(fZ l x d).map Prod.fst↔z∈l.map Prod.fst∨z=x:=by
 unfold fZ;split
 ·rename_i h;have e:(l.map fun bR=>if bR.1=x then(bR.1,d)else bR).map Prod.fst=l.map Prod.fst:=by
   refine U cO ?_;exact ve fun bR J=>by show(if bR.1=x then(bR.1,d)else bR).1=bR.1;split<;>rfl
  refine U e ?_;refine⟨.inl,fun h'=>h'.elim id fun e=>?_⟩;refine wS (zJ.mp h) fun bR ri e'=>?_;refine U e (ZB (EX e') ?_);exact cA ri
 ·rw[gK,b_];simp
theorem My (l) (x z):z∈(gz l x).map Prod.fst↔z∈l.map Prod.fst∧z≠x:=by
 unfold gz;rw[ao,ao];constructor
 ·intro Go;obtain⟨bR,h,rfl⟩:=Go;obtain⟨h1,h2⟩:=cE.mp h;exact⟨⟨bR,h1,rfl⟩,EX h2⟩
 ·intro Go;obtain⟨⟨bR,h,rfl⟩,M2⟩:=Go;exact⟨bR,cE.mpr ⟨h,w7 M2⟩,rfl⟩
theorem PX:(fZ l x d).length≤l.length+1:=by
 unfold fZ;split
 ·rw[cj];exact bX _ _
 ·refine U dZ ?_;simp
theorem Pn (h:x∈l.map Prod.fst):(gz l x).length+1≤l.length:=by
 refine wS (ao.mp h) fun bR ri s4=>?_;subst s4
 induction l with
 |nil=>cases ri
 |cons a l ih=>
  unfold gz;refine U je ?_;obtain rfl|ri:=a_.mp ri
  ·refine U (Tk (by simp)) (U bW ?_);have:=iD (fun q:Str×D=>decide (q.1≠bR.1)) l;exact gw ‹_›
  ·have:=ih ri (cA ri);unfold gz at this;split
   ·refine U bW (U bW ?_);exact gw ‹_›
   ·exact U bW (pC ‹_›)
theorem Q6:∀af aA,(af.map Prod.fst).Nodup→(∀p∈af,p.1∈aA.map Prod.fst)→
 BA aA af∧(∀z∈(af.foldl jb aA).map Prod.fst,(z∈aA.map Prod.fst∧z∉af.map Prod.fst)∨z∈af.map Prod.snd)∧(∀z∈aA.map Prod.fst,z∉af.map Prod.fst→z∈(af.foldl jb aA).map Prod.fst)∧(af.foldl jb aA).length≤aA.length
 |[],aA,_,_=>⟨trivial,fun z hz=>.inl ⟨hz,fun h=>nomatch h⟩,fun z hz J=>hz,aI _⟩
 |p::af,aA,nd,h=>by
  rw[aK,dm]at nd;have hp:=h p (.head _);have wY:(cN aA p.1).isSome=true:=by refine U A3 ?_;exact w7 hp
  refine aP (xO.mp wY) fun v s5=>?_;have hm:jb aA p=fZ (gz aA p.1) p.2 v:=by unfold jb;exact U s5 rfl
  have hk:∀z,z∈(jb aA p).map Prod.fst↔(z∈aA.map Prod.fst∧z≠p.1)∨z=p.2:=fun z=>by rw[hm,Je,My]
  obtain⟨i1,cR,fk,uK⟩:=Q6 af (jb aA p) nd.2 fun q Ch=>(hk q.1).mpr (.inl ⟨h q (.tail _ Ch),by intro e;exact nd.1 (e▸cA Ch)⟩);refine sJ ⟨wY,i1⟩ (fun z hz=>?_) (fun z hz M2=>?_) ?_
  ·rw[lG]at hz;rcases cR z hz with⟨h1,h2⟩|h1
   ·rcases(hk z).mp h1 with⟨h3,h4⟩|h3
    ·exact .inl ⟨h3,fun hm=>(a_.mp hm).elim h4 h2⟩
    ·right;refine U h3 ?_;exact .head _
   ·exact .inr (.tail _ h1)
  ·exact U lG (fk z ((hk z).mpr (.inl ⟨hz,fun e=>M2 (e▸ .head _)⟩)) fun hm=>M2 (.tail _ hm))
  ·refine U lG ?_;have h1:=PX (l:=gz aA p.1) (x:=p.2) (d:=v);have h2:=Pn hp;rw[←hm]at h1;exact Ev ‹_› (Ev h1 h2)
theorem SD (nd:(G.map Prod.fst).Nodup) (D R):((c7 G D).filter fun p=>!(R.map fun s=>(s,er G s)).contains p)=c7 G (D++R):=by
 unfold c7;refine U List.filter_filter ?_;refine wh fun p hp=>?_;have:(R.map fun s=>(s,er G s)).contains p=R.contains p.1:=by
  rw[qb,ze,ze,ao];constructor
  ·rintro⟨s,hs,rfl⟩;exact hs
  ·intro h;exact⟨p.1,h,by exact U (n_ nd hp) rfl⟩
 refine U this ?_;rw[qb];simp[and_comm]
theorem TA {G:List (Str×Str)} (e7:wW G) {aA:List (Str×Internal.D)} {D last:List Str} (hd:sO aA (c7 G D)) (hl:∀x∈last,x∈G.map Prod.fst) (M2:last.Nodup):LA aA (c7 G D) last:=by
 refine⟨Ev (iD _ _) e7.six,fun x hx=>e7.ok x (cE.mp hx).1,hd.len,hd.ja,?_,fun x hx=>?_⟩
 ·have:=uo M2 hl;rw[cj]at this;have:=e7.six;exact f7 ‹_› ‹_› (by decide)
 ·refine wS (ao.mp (hl x hx)) fun p hp s4=>?_;subst s4;exact(e7.ok p hp).2.1
theorem MY {G:List (Str×Str)} (e7:wW G) {aA:List (Str×Internal.D)} {D:List Str} (hd:sO aA (c7 G D)) {s:Str} (hs:s∈(c7 G D).map Prod.fst):(!(aA.map Prod.fst).any fun x=>cF x (er G s))=true↔fu G D s=0:=by
 refine wS (ao.mp hs) fun p hp s4=>?_;subst s4;have hpl:=(cE.mp hp).1;rw[tQ,Bo,List.any_eq_false,n_ e7.nd hpl];constructor
 ·intro h x hx;refine Op (cE.mp hx) fun h1 h2=>?_;by_cases q:x∈D
  ·exact q
  ·exfalso;have:x∈(c7 G D).map Prod.fst:=tW.mpr ⟨h1,q⟩;refine wS (ao.mp this) fun c_ eK s4=>?_;subst s4;exact h _ (hd.b c_ eK) h2
 ·intro h x hx hm;obtain q|q:=hd.a x hx
  ·refine Op (tW.mp q) fun h1 h2=>?_;exact h2 (h x (cE.mpr ⟨h1,hm⟩))
  ·rw[q p hp]at hm;injection hm
structure J1 (G:List (Str×Str)) (D R last:List Str) (aA:List (Str×Internal.D)) (np:Str→Int):Prop where
 adT:∀z∈D,z∈G.map Prod.fst
 ER:∀s∈D,∀x∈gO G (er G s),x∈D
 vD:R.Nodup
 oR:∀s,s∈R↔s∈G.map Prod.fst∧s∉D∧fu G D s=0
 ZD:R.Pairwise fun a b=>iY (iZ G last a,((((c7 G D).map Prod.fst).idxOf a:Nat):Int)) (iZ G last b,((((c7 G D).map Prod.fst).idxOf b:Nat):Int))=true
 abu:∀x∈last,x∈G.map Prod.fst
 aa1:last.Nodup
 aA:sO aA (c7 G D)
 np:∀z∈G.map Prod.fst,z∉D→np z=(fu G D z:Int)
theorem aa9 {G:List (Str×Str)} (nd:(G.map Prod.fst).Nodup) {D:List Str} {s:Str} (hs:s∈(c7 G D).map Prod.fst):(c7 G D)[((c7 G D).map Prod.fst).idxOf s]?=some (s,er G s):=by
 have hi:=JS hs;have h1:((c7 G D).map Prod.fst)[((c7 G D).map Prod.fst).idxOf s]?=some s:=by
  rw[gh hi,GL]
 rw[kF,J0]at h1;refine wS h1 fun p hp e=>?_;refine U hp ?_;have hm:p∈c7 G D:=uy hp;have hpl:=(cE.mp hm).1;exact ZB e (U (n_ nd hpl) rfl)
theorem KN (e7:wW G):∀(n) (D R last) (aA:List (Str×Internal.D)) (np:Str→Int) (k),(c7 G D).length<n→J1 G D R last aA np→
 ∃(qf:List Str) (K:List (Str×Internal.D)),vU n ⟨b7 (G.map Prod.fst) np (aS G),some R,k,k⟩ aA (c7 G D) last (c7 G qf) K∧sO K (c7 G qf)∧K.length≤aA.length∧
  ∀C:List Str,(∀s∈C,∃x∈C,x∈gO G (er G s))→(∀s∈C,s∉D)→∀s∈C,s∉qf
 |0,_,_,_,_,_,_,h,_=>by lia
 |n+1,D,R,last,aA,np,k,M2,bu=>by
  have nd:=e7.nd;have RA:((c7 G D).map Prod.fst).Nodup:=by rw[Js];exact oq l0 nd
  have qm:∀s∈R,s∈(c7 G D).map Prod.fst:=fun s hs=>tW.mpr ⟨((bu.oR s).mp hs).1,((bu.oR s).mp hs).2.1⟩;have qd:∀s∈R,s∈G.map Prod.fst:=fun s hs=>((bu.oR s).mp hs).1;have yk:∀s∈R,s∉D:=fun s hs=>((bu.oR s).mp hs).2.1;have wX:(R.map fun s=>(s,er G s)).map Prod.fst=R:=by refine U cO ?_;exact Bj _
  have abd:=OU nd (aA.map Prod.fst) last (c7 G D) 0 (fun p hp=>(cE.mp hp).1) RA;have s_:(R.map fun s=>(iZ G last s,((((c7 G D).map Prod.fst).idxOf s:Nat):Int))).map (fun p=>(c7 G D)[p.2.toNat]?)=(R.map fun s=>(s,er G s)).map some:=by
   refine U cO (U cO ?_);refine ve fun s hs=>?_;show(c7 G D)[((((c7 G D).map Prod.fst).idxOf s:Nat):Int).toNat]?=some (s,er G s);rw[qB];exact aa9 nd (qm s hs)
  have xS:(R.map fun s=>(iZ G last s,((((c7 G D).map Prod.fst).idxOf s:Nat):Int))).Perm (ir (aA.map Prod.fst) last 0 (c7 G D)):=by
   refine U abd ?_;simp only[BE];refine List.Perm.map _ (XY bu.vD (oq l0 RA) fun s=>?_);rw[cE];constructor
   ·intro hs;exact⟨qm s hs,(MY e7 bu.aA (qm s hs)).mpr ((bu.oR s).mp hs).2.2⟩
   ·intro Go;refine Op Go fun h1 h2=>?_;exact(bu.oR s).mpr ⟨(tW.mp h1).1,(tW.mp h1).2,(MY e7 bu.aA h1).mp h2⟩
  have Ec:(R.map fun s=>(iZ G last s,((((c7 G D).map Prod.fst).idxOf s:Nat):Int))).Pairwise (fun x y=>iY x y=true):=by
   rw[Fj];exact bu.ZD
  have KC:=TA e7 bu.aA bu.abu bu.aa1;by_cases bE:R=[]
  ·subst bE;refine ju D aA ⟨KC,_,[],xS,Ec,s_,rfl,fun x (hx:x∈([]:List Str))=>(nomatch hx),by simp,fun J=>⟨rfl,rfl⟩,fun h=>absurd rfl h⟩ bu.aA (aI _) (fun C J h=>h)
  ·have hw:∀x∈R,∀s∈aS G x,s∉D++R:=fun x hx s hs hm=>by
    have hb:=((yJ nd (qd x hx)).mp hs).2;obtain hm|hm:=b_.mp hm
    ·exact yk x hx (bu.ER s hm x hb)
    ·exact yk x hx (tQ.mp ((bu.oR s).mp hm).2.2 x hb)
   obtain⟨afK,Ir,MF,Rn⟩:=Q6 (R.map fun s=>(s,er G s)) aA (by refine U wX ?_;exact bu.vD) (fun p hp=>by
    refine wS (ao.mp hp) fun s hs s4=>?_;subst s4;refine wS (ao.mp (qm s hs)) fun p hp e=>?_;have:=bu.aA.b p hp;rw[e]at this;exact this)
   rw[wX]at Ir MF;have hout:sA ⟨b7 (G.map Prod.fst) np (aS G),some R,k,k⟩ R=⟨b7 (G.map Prod.fst) (fun z=>if z∈R then-1 else np z) (aS G),some [],k+(R.length:Nat),k⟩:=by
    unfold sA;exact U (RB nd R np qd) rfl
   obtain⟨pX,vn,mO,C2⟩:=OC nd (D:=D) (R:=R) (a:=k+(R.length:Nat)) (by have:=e7.six;exact Ev ‹_› (by decide)) qd yk bu.vD hw R [] (fun z=>if z∈R then-1 else np z) [] k rfl (fun z hz=>by exact U (ak hz) rfl) (fun z hz qU=>by
    rw[Tk (fun hm=>qU (m5 _ hm)),fV];exact bu.np z hz fun hm=>qU (iX _ hm))
   rw[fV,oA]at mO;have adK:=fun s=>LK nd R D s qd yk bu.vD;have RE:=L5 nd (D:=D) (R:=R) rfl qd yk bu.vD hw R [] rfl;rw[fV]at RE;have hnext:=SD nd D R;have aau:∀s,s∈mR G D R↔s∈G.map Prod.fst∧s∉D++R∧fu G (D++R) s=0:=fun s=>by
    rw[adK];constructor
    ·intro Go;refine b5 Go fun h1 h2 h3=>?_;refine⟨h1,fun hm=>?_,h2⟩;have h0:fu G D s≠0:=by exact iE ‹_›
     obtain hm|hm:=b_.mp hm
     ·exact h0 (tQ.mpr (bu.ER s hm))
     ·exact h0 ((bu.oR s).mp hm).2.2
    ·intro Go;refine b5 Go fun h1 h2 h3=>?_;refine⟨h1,h3,?_⟩;rcases Nat.eq_zero_or_pos (fu G D s)with q|q
     ·exact absurd (m5 _ ((bu.oR s).mpr ⟨h1,fun hm=>h2 (iX _ hm),q⟩)) h2
     ·exact q
   have Cy:(mR G D R).Pairwise fun a b=>iY (iZ G R a,((((c7 G (D++R)).map Prod.fst).idxOf a:Nat):Int)) (iZ G R b,((((c7 G (D++R)).map Prod.fst).idxOf b:Nat):Int))=true:=by
    rw[Js];exact RE.1
   have aep:(mR G D R).Nodup:=Cy.imp fun{a b} h e=>by
    subst e;rw[IC]at h;injection h
   have JL:sO ((R.map fun s=>(s,er G s)).foldl jb aA) (c7 G (D++R)):=by
    refine⟨fun x hx=>?_,fun p hp=>?_,Ev Rn bu.aA.len,fun x hx=>?_⟩
    ·rcases Ir x hx with⟨h1,h2⟩|h1
     ·obtain q|q:=bu.aA.a x h1
      ·left;rw[tW]at q⊢;exact⟨q.1,fun hm=>(b_.mp hm).elim q.2 h2⟩
      ·right;intro p hp;refine Op (cE.mp hp) fun um nX=>?_;refine q p (cE.mpr ⟨um,?_⟩);simp at nX⊢;exact nX.1
     ·right;intro p hp;refine Op (cE.mp hp) fun um nX=>?_;rw[cO]at h1;refine wS (ao.mp h1) fun s hs s4=>?_;subst s4;refine wS (ao.mp (qd s hs)) fun q Ch s4=>?_;subst s4;show cF (er G q.1) p.2=false;refine U (n_ nd Ch) ?_;refine e7.Rf q Ch p um ?_;rintro rfl;simp at nX;exact nX.2 hs
    ·refine Op (cE.mp hp) fun um nX=>?_;simp at nX;refine MF p.1 (bu.aA.b p (cE.mpr ⟨um,by simpa using nX.1⟩)) nX.2
    ·rcases Ir x.1 (cA hx)with⟨h1,h2⟩|h1
     ·refine wS (ao.mp h1) fun y No e=>?_;exact ZB e (bu.aA.ja y No)
     ·rw[cO]at h1;refine wS (ao.mp h1) fun s hs e=>?_;refine wS (ao.mp (qd s hs)) fun q Ch s4=>?_;subst s4;refine ZB e ?_;show(er G q.1).length≤1000;exact U (n_ nd Ch) ((e7.ok q Ch).2.2)
   have WI:J1 G (D++R) (mR G D R) R ((R.map fun s=>(s,er G s)).foldl jb aA) vn:=by
    refine⟨fun z hz=>?_,fun s hs x hx=>?_,aep,aau,Cy,qd,bu.vD,JL,fun z hz qU=>C2 z hz qU⟩
    ·obtain hz|hz:=b_.mp hz
     ·exact bu.adT z hz
     ·exact qd z hz
    ·obtain hs|hs:=b_.mp hs
     ·exact iX _ (bu.ER s hs x hx)
     ·exact iX _ (tQ.mp ((bu.oR s).mp hs).2.2 x hx)
   have adQ:(c7 G (D++R)).length<n:=by
    refine aP (List.exists_mem_of_ne_nil R bE) fun s hs=>?_;have h1:(c7 G (D++R)).length<(c7 G D).length:=by
     refine ZB hnext ?_;refine wS (ao.mp (qm s hs)) fun p hp e=>?_;refine CZ (iD _ _) fun e'=>?_;have:=l0.eq_of_length e';rw[←this]at hp;have h2:=(cE.mp hp).2;have h3:p=(s,er G s):=by
      obtain⟨g4,mE⟩:=p;have hpl:=(cE.mp (this▸hp:(g4,mE)∈c7 G D)).1;have:=n_ nd hpl;dsimp only at e this;exact ZB e (U this rfl)
     rw[h3]at h2;simp at h2;exact h2 s hs rfl rfl
    lia
   refine jJ (KN e7 n (D++R) (mR G D R) R ((R.map fun s=>(s,er G s)).foldl jb aA) vn (k+(R.length:Nat)) adQ WI) fun qf K i1 cR fk uK=>?_;refine ju qf K ⟨KC,_,R.map fun s=>(s,er G s),xS,Ec,s_,by exact U wX rfl,fun x hx=>by rw[wX]at hx;rw[Fd];exact qd x hx,by simp,fun h=>absurd (by simpa using h) bE,fun J=>⟨by refine U wX (U hout ?_);exact pX,afK,?_⟩⟩ cR (Ev fk Rn) (fun C h1 h2=>uK C h1 fun s hs hm=>?_)
   ·refine U wX (U hout (U mO (U hnext ?_)));exact i1
   ·obtain hm|hm:=b_.mp hm
    ·exact h2 s hs hm
    ·refine wS (h1 s hs) fun x hx hb=>?_;exact h2 x hx (tQ.mp ((bu.oR s).mp hm).2.2 x hb)
structure Fp (base goals:List Str) (ws:List (Str×List Str)):Prop where
 new:∀t,t≤7→dY t∉base
 inj:∀t t',t≤7→t'≤7→dY t=dY t'→t=t'
 ok:∀t,t≤7→PyData.strOk (dY t)=true∧(dY t).length≤1000
 meets:∀t,t≤7→∀g∈goals,cF (dY t) g=false
 ws:∀g∈goals,∃l,j4 ws g=some l∧l.length≤1000∧(∀y∈l,PyData.strOk y=true)∧(∀x∈base,l.contains x=cF x g)∧∀t,t≤7→l.contains (dY t)=false
structure PG (base goals:List Str) (n turn:Nat) (aA:List (Str×D)) (G:List (Str×Str)):Prop where
 e7:wW G
 aA:sO aA G
 goals:∀p∈G,p.2∈goals
 cls:∀p∈G,p.1∈base∨∃t,t<turn∧p.1=dY t
 LR:(G.filter fun p=>base.contains p.1).length<n
 VQ:turn+n≤7
theorem z_ (G):c7 G []=G:=lz.mpr fun J J=>by simp
theorem ZI {α:Type} {P:α→Bool} {f:α→α}:∀{L:List α},(∃p∈L,P p=true∧P (f p)=false)→(∀q∈L,P (f q)=true→P q=true)→((L.map f).filter P).length+1≤(L.filter P).length:=by
 have le:∀{L:List α},(∀q∈L,P (f q)=true→P q=true)→((L.map f).filter P).length≤(L.filter P).length:=by
  intro L
  induction L with
  |nil=>intro _;exact aI _
  |cons a L ih=>
   intro h;have ih:=ih fun q Ch=>h q (.tail _ Ch);have ha:=h a (.head _);refine U aK (U je (U je ?_));rcases q:P (f a)with _|_
   ·refine U (Tk (by simp)) ?_;split
    ·exact U bW (pC ‹_›)
    ·exact ih
   ·refine U (ha q) ?_;simp;assumption
 intro L
 induction L with
 |nil=>rintro⟨p,hp,_⟩;cases hp
 |cons a L ih=>
  intro Go h;refine aU Go fun p hp h1 h2=>?_;have ha:=h a (.head _);refine U aK (U je (U je ?_));obtain rfl|hp:=a_.mp hp
  ·refine U h1 (U h2 ?_);have:=le (L:=L) fun q Ch=>h q (.tail _ Ch);simp;assumption
  ·have ih:=ih ⟨p,hp,h1,h2⟩ fun q Ch=>h q (.tail _ Ch);rcases q:P (f a)with _|_
   ·refine U (Tk (by simp)) ?_;split
    ·exact U bW (pC ‹_›)
    ·exact ih
   ·refine U (ha q) ?_;simp;assumption
theorem aar {base goals:List Str} {ws:List (Str×List Str)} (ef:Fp base goals ws) {n turn:Nat} {G L:List (Str×Str)} {K:List (Str×D)} {bZ:Str} {v:D} (e7:wW G) (aW:L.Sublist G) (adx:∀p∈G,p.2∈goals) (hcls:∀p∈G,p.1∈base∨∃t,t<turn∧p.1=dY t) (ua:(G.filter fun p=>base.contains p.1).length<n+1) (hup:turn+(n+1)≤7)
 (iB:sO K L) (uB:bZ∈L.map Prod.fst) (hb:bZ∈base):PG base goals n (turn+1) (fZ (gz K bZ) (dY turn) v) (pF bZ (dY turn) L):=by
 have hsub:∀p∈L,p∈G:=fun p hp=>aW.subset hp;have xJ:∀p∈L,p.1≠dY turn:=fun p hp e=>by
  rcases hcls p (hsub p hp)with h|⟨t,FS,h⟩
  ·rw[e]at h;exact ef.new turn (by exact f7 (bX ..) ‹_› (by decide)) h
  ·rw[e]at h;have:=ef.inj turn t (by exact f7 (bX ..) ‹_› (by decide)) (Ev (fN FS) (Ev (bX ..) hup)) h;exact iE FS this
 have S_:(L.map Prod.fst).Nodup:=oq (aW.map _) e7.nd;have hmem:∀c_∈pF bZ (dY turn) L,∃p∈L,c_=(if p.1=bZ then dY turn else p.1,p.2):=fun c_ eK=>by
  refine wS (ao.mp eK) fun p hp e=>?_;exact⟨p,hp,e.symm⟩
 have xE:(pF bZ (dY turn) L).map Prod.fst=(L.map Prod.fst).map fun s=>if s=bZ then dY turn else s:=by
  delta pF;refine U cO (U cO ?_);rfl
 have hk:∀z,z∈(fZ (gz K bZ) (dY turn) v).map Prod.fst↔(z∈K.map Prod.fst∧z≠bZ)∨z=dY turn:=fun z=>by rw[Je,My]
 refine wS (ao.mp uB) fun AQ hp0 i6=>?_;have Uv:bZ∈K.map Prod.fst:=by refine ZB i6 ?_;exact iB.b AQ hp0
 refine⟨⟨?_,?_,?_,?_⟩,⟨?_,?_,?_,?_⟩,?_,?_,?_,?_⟩
 ·refine U xE ?_;delta List.Nodup;rw[Fj];refine S_.imp_of_mem fun{a b} ha dQ r_=>?_;refine wS (ao.mp ha) fun jP Yn i9=>?_;refine wS (ao.mp dQ) fun mP WA zF=>?_;have na:=xJ jP Yn;have nb:=xJ mP WA;rw[i9]at na;rw[zF]at nb;by_cases pL:a=bZ
  ·refine U (ak pL) (U (Tk (by rintro rfl;exact r_ pL)) ?_);exact fun e=>nb e.symm
  ·refine U (Tk pL) ?_;by_cases Kc:b=bZ
   ·exact U (ak Kc) na
   ·exact U (Tk Kc) r_
 ·intro c_ eK q' aah bg;refine wS (hmem c_ eK) fun p hp s4=>?_;subst s4;refine wS (hmem q' aah) fun q Ch s4=>?_;subst s4;exact e7.Rf p (hsub p hp) q (hsub q Ch) (by rintro rfl;exact bg rfl)
 ·delta pF;rw[cj];exact Ev aW.length_le e7.six
 ·intro c_ eK;refine wS (hmem c_ eK) fun p hp s4=>?_;subst s4;have h1:=e7.ok p (hsub p hp);have h2:=ef.ok turn (by exact f7 (bX ..) ‹_› (by decide));dsimp only;split
  ·exact⟨⟨h2.1,h1.1.2⟩,h2.2,h1.2.2⟩
  ·exact h1
 ·intro z hz;rcases(hk z).mp hz with⟨h1,h2⟩|h1
  ·obtain q|q:=iB.a z h1
   ·left;exact U xE (ao.mpr ⟨z,q,Tk h2⟩)
   ·right;intro c_ eK;refine wS (hmem c_ eK) fun p hp s4=>?_;subst s4;exact q p hp
  ·left;refine U xE (U h1 ?_);exact ao.mpr ⟨bZ,uB,ak rfl⟩
 ·intro c_ eK;refine wS (hmem c_ eK) fun p hp s4=>?_;subst s4;rw[hk];dsimp only;by_cases q:p.1=bZ
  ·exact U (ak q) (.inr rfl)
  ·exact U (Tk q) (.inl ⟨iB.b p hp,q⟩)
 ·have h1:=PX (l:=gz K bZ) (x:=dY turn) (d:=v);have h2:=Pn Uv;have:=iB.len;exact Ev h1 (Ev h2 this)
 ·intro x hx;rcases(hk x.1).mp (cA hx)with⟨h1,_⟩|h1
  ·refine wS (ao.mp h1) fun y No e=>?_;exact ZB e (iB.ja y No)
  ·exact U h1 ((ef.ok turn (by exact f7 (bX ..) ‹_› (by decide))).2)
 ·intro c_ eK;refine wS (hmem c_ eK) fun p hp s4=>?_;subst s4;exact adx p (hsub p hp)
 ·intro c_ eK;refine wS (hmem c_ eK) fun p hp s4=>?_;subst s4;dsimp only;split
  ·exact .inr ⟨turn,jM _,rfl⟩
  ·rcases hcls p (hsub p hp)with h|⟨t,FS,h⟩
   ·exact .inl h
   ·exact .inr ⟨t,by exact pC ‹_›,h⟩
 ·have h1:(((L.map fun p=>(if p.1=bZ then dY turn else p.1,p.2))).filter fun p=>base.contains p.1).length+1≤(L.filter fun p=>base.contains p.1).length:=by
   refine ZI ⟨AQ,hp0,by refine U i6 ?_;simpa using hb,?_⟩ fun q Ch hc=>?_
   ·dsimp only;refine U (ak i6) ?_;simpa using ef.new turn (by exact f7 (bX ..) ‹_› (by decide))
   ·dsimp only at hc;split at hc
    ·exact absurd (by simpa using hc) (ef.new turn (by exact f7 (bX ..) ‹_› (by decide)))
    ·exact hc
  have h2:=(aW.filter fun p=>base.contains p.1).length_le;delta pF;exact Nat.lt_of_succ_lt_succ (f9 (Ev ‹_› h2) ua)
 ·exact oZ ‹_›
theorem Nb (ef:Fp base goals ws):∀n turn aA G,PG base goals n turn aA G→xR ws n turn aA G
 |0,_,_,_,bu=>absurd bu.LR (Nat.not_lt_zero _)
 |n+1,turn,aA,G,bu=>by
  have e7:=bu.e7;have nd:=e7.nd;have hup:=bu.VQ;have NI:∀p∈G,∃l,j4 ws p.2=some l∧l.length≤1000∧(∀y∈l,PyData.strOk y=true)∧∀x∈G.map Prod.fst,l.contains x=cF x p.2:=fun p hp=>by
   refine Gl (ef.ws p.2 (bu.goals p hp)) fun l h1 h2 h3 h4 h5=>?_;refine tG l h1 h2 h3 (fun x hx=>?_);refine wS (ao.mp hx) fun q Ch s4=>?_;subst s4;obtain h|⟨t,FS,h⟩:=bu.cls q Ch
   ·exact h4 _ h
   ·exact U h (U (h5 t (by lia)) (U (ef.meets t (by lia) p.2 (bu.goals p hp)) rfl))
  obtain⟨np,GS,zR⟩:=ads nd (ws:=ws) fun p hp x hx=>by
   refine d9 (NI p hp) fun l h1 J J h4=>?_;exact U h1 (h4 x hx)
  have hS:∀x∈G.map Prod.fst,ji (b7 (G.map Prod.fst) np (aS G)) x=aS G x:=fun x hx=>by
   delta ji;exact U (qA hx) rfl
  refine aU (Xe nd hS) fun b wZ aH C0=>?_;refine aP aH fun dK aaI=>?_;have hnames:=Fd (G.map Prod.fst) np (aS G);have cM:(b7 (G.map Prod.fst) np (aS G)).length=G.length:=by
   have:=cQ List.length hnames;simpa using this
  have Fe:∀z∈G.map Prod.fst,np z=(fu G [] z:Int):=fun z hz=>by
   refine wS (ao.mp hz) fun q Ch s4=>?_;subst s4;refine U (GS q Ch) ?_;delta fu;exact U (n_ nd Ch) (U (lz.mpr (fun J J=>by simp)) rfl)
  have ZO:k6 (b7 (G.map Prod.fst) np (aS G))=(G.map Prod.fst).filter fun z=>np z==0:=by
   delta k6 b7;refine U Gm (U cO ?_);exact Bj _
  have afd:J1 G [] ((G.map Prod.fst).filter fun z=>np z==0) [] aA np:=by
   have jm:((G.map Prod.fst).filter fun z=>np z==0).Sublist ((c7 G []).map Prod.fst):=by rw[z_];exact l0
   refine⟨fun z hz=>(nomatch hz),fun s hs=>(nomatch hs),oq l0 nd,fun s=>?_,?_,fun x hx=>(nomatch hx),.nil,by rw[z_];exact bu.aA,fun z hz J=>Fe z hz⟩
   ·rw[cE];constructor
    ·intro Go;refine Op Go fun h1 h2=>?_;refine⟨h1,by simp,?_⟩;rw[Fe s h1]at h2;have:((fu G [] s:Nat):Int)=0:=by simpa using h2
     lia
    ·intro Go;refine b5 Go fun h1 J h2=>?_;refine⟨h1,?_⟩;refine U (Fe s h1) (U h2 ?_);rfl
   ·refine(K6 (by rw[z_];exact nd) jm).imp fun{a b} r_=>?_;delta iY iZ kB;simp[BU,SW];assumption
  refine jJ (KN e7 (G.length+1) [] _ [] aA np 0 (by rw[z_];lia) afd) fun qf K bE iB agb jw=>?_;rw[z_]at bE;refine aaY b (G.length+1) (c7 G qf) K ⟨e7.six,e7.ok,fun p hp=>?_,nd,wZ,⟨dK,?_⟩,?_,?_,?_,?_⟩ ?_ ?_
  ·refine d9 (NI p hp) fun l h1 h2 h3 J=>?_;exact gg l h1 h2 h3
  ·refine U zR ?_;dsimp only;exact U hnames aaI
  ·refine U zR ?_;dsimp only;refine U cM ?_;have:=e7.six;exact Ev ‹_› (by decide)
  ·refine U zR ?_;dsimp only;refine U hnames ?_;intro nn zf x hx;refine wS (ao.mp zf) fun z hz s4=>?_;subst s4;exact vX hx
  ·exact U zR rfl
  ·intro l e x hx;refine fJ (C0 l e) fun bZ rest s4 h1 J=>?_;subst s4;refine wS (ao.mp (h1 x hx)) fun p hp s4=>?_;subst s4;exact(e7.ok p hp).1.1
  ·refine U zR ?_;delta lZ;dsimp only;exact U ZO bE
  ·intro ring e;refine jJ (C0 ring e) fun bZ rest s4 h1 h2 h3=>?_;subst s4;have aeO:=jw (bZ::rest) (fun s hs=>by
    refine wS (h2 s hs) fun t FS h=>?_;exact⟨t,FS,((yJ nd (h1 t FS)).mp h).2⟩) (fun s J hm=>(nomatch hm))
   have uB:bZ∈(c7 G qf).map Prod.fst:=tW.mpr ⟨h1 bZ (.head _),aeO bZ (.head _)⟩;refine wS (ao.mp uB) fun AQ hp0 i6=>?_;have hkey:=iB.b AQ hp0;rw[i6]at hkey;have wY:(cN K bZ).isSome=true:=by refine U A3 ?_;exact w7 hkey
   refine aP (xO.mp wY) fun v s5=>?_;have fO:bZ∈base:=by
    refine wS (ao.mp (h1 bZ (.head _))) fun q0 TF e1=>?_;obtain h|⟨t,FS,h⟩:=bu.cls q0 TF
    ·exact ZB e1 h
    ·exfalso;apply h3;delta aS;rw[List.map_eq_nil_iff,xB];intro p hp;refine ZB e1 (U h (U (ef.meets t (by lia) p.2 (bu.goals p hp)) ?_));simp
   refine F9 bZ rest v rfl (Ev (iD _ _) e7.six) (by have:=iB.len;exact Ev ‹_› (by decide)) s5 (Nb ef n (turn+1) _ _ (aar ef e7 l0 bu.goals bu.cls bu.LR hup iB uB fO))
theorem NJ:∀places pool n j,pool.Nodup→places.length≤pool.length→
 (nE places pool n j).map Prod.fst=places∧((nE places pool n j).map (fun x=>x.2.1)).Nodup∧(∀g∈(nE places pool n j).map (fun x=>x.2.1),g∈pool)∧∀m∈nE places pool n j,∃q q':Int,m.2.2.1=kg m.1 q∧m.2.2.2=kg m.2.1 q'
 |[],pool,n,j,_,_=>⟨rfl,.nil,fun J h=>(nomatch h),fun J h=>(nomatch h)⟩
 |x::places,pool,n,j,nd,hl=>by
  have bg:pool≠[]:=by rintro rfl;simp at hl
  have hg:=Pz (n:=n) bg;have hf:=RH nd hg;rw[bW]at hl;refine mz (NJ places (pool.filter (fun x=>x !=kC pool n)) (n.fdiv pool.length) (j+1) (oq l0 nd) (D5 (Ev hl (bT hf.symm)))) fun i1 cR fk uK=>?_;rw[Gw,aK,aK];refine sJ (by exact U i1 rfl) ?_ (fun g hg'=>?_) (fun m hm=>?_)
  ·rw[dm];refine⟨fun hm=>?_,cR⟩;have:=(cE.mp (fk _ hm)).2;simp at this
  ·refine bD hg' ?_ fun hg'=>?_
   ·exact hg
   ·exact(cE.mp (fk g hg')).1
  ·refine bD hm ?_ fun hm=>?_
   ·exact pB _ _ rfl rfl
   ·exact uK m hm
theorem CC (n):∀s∈gX n,∃p∈BZ n,s=cH p∧0<p.length∧p.length≤5:=fun s hs=>by
 rw[RZ]at hs;refine wS (ao.mp hs) fun p hp s4=>?_;subst s4;obtain⟨h1,h2⟩:=ado n p hp;exact tG p hp rfl h1 h2
theorem Q2 {α:Type} {R:α→α→Prop} (hs:∀a b,R a b→R b a):∀{l:List α},l.Pairwise R→∀a∈l,∀b∈l,a≠b→R a b
 |[],_,a,ha,_,_,_=>nomatch ha
 |x::l,h,a,ha,b,hb,bg=>by
  rw[yS]at h;rcases a_.mp ha with h1|h1<;>obtain h2|h2:=a_.mp hb
  ·exact absurd (h1.trans h2.symm) bg
  ·exact U h1 (h.1 b h2)
  ·exact U h2 (hs _ _ (h.1 a h1))
  ·exact Q2 hs h.2 a h1 b h2 bg
theorem Tn (n):∀g∈gX n,∀qg∈gX n,g≠qg→cF g qg=false:=fun g hg qg hg' bg=>by
 refine aU (CC n g hg) fun p hp s4 J=>?_;subst s4;refine aU (CC n qg hg') fun q Ch s4 J=>?_;subst s4;exact T4 (Q2 (fun a b h=>jq.symm h) (Mz n) p hp q Ch (by rintro rfl;exact bg rfl))
theorem U1 {l:List (Str×Str)} (nd:(l.map Prod.snd).Nodup):∀p∈l,∀q∈l,p.2=q.2→p=q:=by
 induction l with
 |nil=>intro p hp;cases hp
 |cons a l ih=>
  rw[aK,dm]at nd;intro p hp q Ch e;rcases a_.mp hp with h1|h1<;>obtain h2|h2:=a_.mp Ch
  ·exact U h1 (U h2 rfl)
  ·exfalso;apply nd.1;refine ZB h1 (U e ?_);exact cA h2
  ·exfalso;apply nd.1;refine ZB h2 (ZB e ?_);exact cA h1
  ·exact ih nd.2 p h1 q h2 e
theorem KJ (F:Str→List Str):∀(l:List (Str×Str)) (g:Str),g∈l.map Prod.snd→j4 (l.map fun x=>(x.2,F x.2)) g=some (F g)
 |[],_,h=>nomatch h
 |p::l,g,h=>by
  unfold j4;rw[aK,rD];by_cases e:p.2=g
  ·subst e;simp
  ·simp only[e,tP];rw[aK]at h;exact KJ F l g ((a_.mp h).resolve_left fun z=>e z.symm)
theorem Yl {α:Type} (kf:α→Str) (gp:α→D) (xs:List α) (z):z∈(lI kf gp xs).map Prod.fst↔∃a∈xs,kf a=z:=by
 have main:∀(xs:List α) (l:List (Str×D)),z∈(xs.foldl (fun l a=>fZ l (kf a) (gp a)) l).map Prod.fst↔z∈l.map Prod.fst∨∃a∈xs,kf a=z:=by
  intro xs
  induction xs with
  |nil=>intro l;simp
  |cons a xs ih=>
   intro l;rw[lG,ih,Je];constructor
   ·rintro((h|h)|⟨b,hb,e⟩)
    ·exact .inl h
    ·exact .inr ⟨a,.head _,h.symm⟩
    ·exact .inr ⟨b,.tail _ hb,e⟩
   ·rintro(h|⟨b,hb,e⟩)
    ·exact .inl (.inl h)
    ·obtain rfl|hb:=a_.mp hb
     ·exact .inl (.inr e.symm)
     ·exact .inr ⟨b,hb,e⟩
 unfold lI;rw[main];simp
theorem Vp (xs):A8 u5 (ng xs):=by
 unfold ng;generalize 37+(nj xs (some 0) none (some 3)).sum=n1;generalize 101+(nj xs (some 1) none (some 3)).sum=b6;generalize 5000+(nj xs (some 2) none (some 3)).sum=dS;refine mz (NJ (gX n1) (gX b6) dS 0 (Gu b6) (by refine U ((yg n1).1) (U ((yg b6).1) ?_);decide)) fun f1 f2 f3 f4=>?_;generalize nE (gX n1) (gX b6) dS 0=ms at f1 f2 f3 f4;have hs:(cg ms).map Prod.fst=gX n1:=by unfold cg;refine U cO ?_;exact f1
 have hg:(cg ms).map Prod.snd=ms.map (fun x=>x.2.1):=by unfold cg;refine U cO ?_;rfl
 rw[←hg]at f2 f3;have cM:ms.length=6:=by
  have:=cQ List.length f1;rw[cj,(yg n1).1]at this;exact this
 have oz:(cg ms).length=6:=by unfold cg;rw[cj];exact cM
 have dI:∀p∈cg ms,u5 p.1∧u5 p.2:=fun p hp=>by
  have h1:p.1∈gX n1:=by refine ZB hs ?_;exact cA hp
  have h2:=f3 p.2 (cA hp);refine d9 (CC n1 _ h1) fun a J e1 a1 a2=>?_;refine d9 (CC b6 _ h2) fun b J e2 b1 fC=>?_;exact⟨⟨a,a1,a2,e1⟩,b,b1,fC,e2⟩
 have rT:∀s,u5 s→PyData.strOk s=true∧s.length≤1000:=fun s Tv=>aU Tv fun p J h2 e=>by
  subst e;exact⟨aek p,by rw[zO];exact Ev (vo 2 h2) (by decide)⟩
 have bM:∀p∈iV (cg ms),p∈cg ms:=fun p hp=>(cE.mp hp).1;have hsub:(iV (cg ms)).Sublist (cg ms):=l0;have Oa:∀p∈cg ms,∀q∈cg ms,p≠q→cF p.2 q.2=false:=fun p hp q Ch bg=>
  Tn b6 _ (f3 _ (cA hp)) _ (f3 _ (cA Ch)) fun e=>bg (U1 f2 p hp q Ch e)
 have afr:((cg ms).map Prod.fst).Nodup:=by refine U hs ?_;exact Gu n1
 have e7:wW (iV (cg ms)):=by
  refine⟨oq (hsub.map _) afr,fun p hp q Ch bg=>Oa p (bM p hp) q (bM q Ch) bg,by have:=hsub.length_le;exact Ev ‹_› (bT ‹_›),fun p hp=>?_⟩;refine Op (dI p (bM p hp)) fun h1 h2=>?_;exact⟨⟨(rT _ h1).1,(rT _ h2).1⟩,(rT _ h1).2,(rT _ h2).2⟩
 have hkeys:∀z,z∈(vF (cg ms)).map Prod.fst↔z∈(cg ms).map Prod.fst:=fun z=>by
  unfold vF;rw[Yl];constructor
  ·intro Go;refine wS Go fun i hi e=>?_;have hi:=ru.mp hi;rw[←e,iM,gh (by exact lQ ‹_› (uw ‹_›))];exact cA (sd _)
  ·intro h;refine wS (ao.mp h) fun p hp s4=>?_;subst s4;obtain⟨i,hi,e⟩:=List.getElem_of_mem hp;refine⟨i,ru.mpr (by exact lQ ‹_› ‹_›),?_⟩;rw[iM,gh hi,e];rfl
 have aga:(vF (cg ms)).length≤6:=by
  unfold vF;have:=KY (kf:=fun i:Nat=>((cg ms).getD i (Str.empty,Str.empty)).1) (gp:=fun i:Nat=>D.int (i:Int)) (List.range 6);simpa using this
 have JL:sO (vF (cg ms)) (iV (cg ms)):=by
  refine⟨fun x hx=>?_,fun p hp=>(hkeys _).mpr (cA (bM p hp)),by exact Ev ‹_› (by decide),fun x hx=>?_⟩
  ·refine wS (ao.mp ((hkeys x).mp hx)) fun p hp s4=>?_;subst s4;by_cases e:p.1=p.2
   ·right;intro q Ch;refine U e ?_;refine Oa p hp q (bM q Ch) ?_;rintro rfl;have:=(cE.mp Ch).2;rw[e]at this;simp at this
   ·left;exact cA (cE.mpr ⟨hp,zS.mpr e⟩)
  ·refine wS (ao.mp ((hkeys x.1).mp (cA hx))) fun p hp e=>?_;exact ZB e ((rT _ (dI p hp).1).2)
 have ef:Fp ((iV (cg ms)).map Prod.fst) ((iV (cg ms)).map Prod.snd) (lg (iV (cg ms))):=by
  refine⟨fun t FS hm=>?_,fun t t' h1 h2=>WG h1 h2,fun t FS=>?_,fun t FS g hg=>?_,fun g hg=>?_⟩
  ·refine wS (ao.mp hm) fun p hp e=>?_;refine aU ((dI p (bM p hp)).1) fun a J J e1=>?_;exact Qn FS a (ZB e (U e1 rfl))
  ·have:=w_ ⟨t,by exact f9 ‹_› (by decide)⟩;exact⟨this.2.1,by refine U this.2.2.1 ?_;decide⟩
  ·refine wS (ao.mp hg) fun p hp s4=>?_;subst s4;refine aU ((dI p (bM p hp)).2) fun a h1 J e1=>?_;exact U e1 (aaP FS h1)
  ·have hw:=KJ (fun g=>((iV (cg ms)).map Prod.fst).filter fun one=>cF one g) (iV (cg ms)) g hg;refine B6 _ hw ?_ (fun y No=>?_) (fun x hx=>?_) (fun t FS=>?_)
   ·have h1:=iD (fun one=>cF one g) ((iV (cg ms)).map Prod.fst);rw[cj]at h1;have:=hsub.length_le;exact f7 h1 this (Ev (bT ‹_›) (by decide))
   ·refine wS (ao.mp (cE.mp No).1) fun p hp s4=>?_;subst s4;exact(rT _ (dI p (bM p hp)).1).1
   ·rw[qb,ze,cE];exact⟨fun h=>h.2,fun h=>⟨hx,h⟩⟩
   ·rw[←BR,ze,cE];intro Go;refine Op Go fun h1 J=>?_;refine wS (ao.mp h1) fun p hp e=>?_;refine aU ((dI p (bM p hp)).1) fun a J J e1=>?_;exact Qn FS a (ZB e (U e1 rfl))
 refine⟨cM,fun m hm=>?_,fun p hp=>⟨(rT _ (dI p hp).1).1,(rT _ (dI p hp).2).1⟩,YH,fun p hp=>dI p (bM p hp),oq (hsub.map _) f2,?_⟩
 ·refine eO (f4 m hm) fun q q' e1 e2=>?_;have afM:(m.1,m.2.1)∈cg ms:=cA (f:=fun m:nS=>(m.1,m.2.1)) hm;refine Op (dI _ afM) fun Wh WN=>aU WN fun b b1 fC fY=>?_;obtain⟨a,a1,a2,e3⟩:=Wh;dsimp only at e3 fY;refine U e1 (U e2 (U e3 (U fY ?_)));exact⟨Qd a1 a2 q,Qd b1 fC q'⟩
 ·refine Nb ef 7 0 _ _ ⟨e7,JL,fun p hp=>cA hp,fun p hp=>.inl (cA hp),?_,by decide⟩;have:=iD (fun p:Str×Str=>((iV (cg ms)).map Prod.fst).contains p.1) (iV (cg ms));have:=hsub.length_le;exact I4 (Ev (Ev ‹_› this) (bT ‹_›))
theorem holds:PySem.Challenge.rw_pd0029_01.Holds:=holds_law fun xs J=>⟨u5,Vp xs⟩
end Mine.Internal
theorem PySem.Challenge.cw_pd0029_01_holds : PySem.Challenge.rw_pd0029_01.Holds :=
  Mine.Internal.holds
