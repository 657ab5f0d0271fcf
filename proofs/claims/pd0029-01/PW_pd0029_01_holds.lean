import PyProof.Rows.All
import Wide.All
import OpenK.AllK
import Wide.FinOn
import PySem.Challenge.RW_pd0029_01
set_option Elab.async false
set_option maxRecDepth 100000
set_option maxHeartbeats 1000000
set_option linter.all false
set_option tactic.hygienic false
set_option compiler.extract_closed false
set_option bootstrap.genMatcherCode false
namespace Mine.Internal
open PySem PyProof.Rows
abbrev u8:=@PySem.wpAny_bind
abbrev Ev:=@Nat.le_trans
abbrev On:=@PySem.wpAny_pure
abbrev ao:=@List.mem_map
abbrev aJ:=@List.map_cons
abbrev bX:=@PySem.Heap.get?_push_of_some
abbrev bf:=@Option.some.inj
abbrev aH:=@Nat.le_refl
abbrev aY:=@List.mem_cons
abbrev cz:=@List.mem_map_of_mem
abbrev bV:=@Nat.le_add_right
abbrev bU:=@List.length_cons
abbrev Tk:=@if_neg
abbrev b5:=@List.mem_append
abbrev b8:=@List.length_map
abbrev cB:=@List.mem_filter
abbrev bW:=@PySem.wpAny_holding
abbrev bT:=@Nat.le_of_eq
abbrev dN:=@PySem.Heap.get?_push_size
abbrev fV:=@List.getElem?_eq_getElem
abbrev dR:=@List.length_append
abbrev ak:=@if_pos
abbrev dg:=@List.nodup_cons
abbrev b7:=@Nat.le_succ
abbrev cE:=@PySem.Heap.lt_size
abbrev iw:=@List.getD_eq_getElem?_getD
abbrev d_:=@List.not_mem_nil
abbrev cJ:=@List.map_map
abbrev fq:=@List.mem_singleton
abbrev fk:=@PySem.wpAny_loadPart'
abbrev fP:=@Nat.lt_of_lt_of_le
abbrev fU:=@Nat.lt_of_le_of_lt
abbrev cQ:=@PySem.sizeLine_eq
abbrev ir:=@List.length_filter_le
abbrev gB:=@Array.length_toList
abbrev eS:=@PySem.Heap.size_push
abbrev fQ:=@List.append_nil
abbrev iK:=@List.mem_append_left
abbrev gr:=@Nat.succ_le_succ
abbrev lq:=@List.getElem?_eq_some_iff
abbrev gZ:=@Nat.le_of_succ_le
abbrev lP:=@List.getElem?_eq_none_iff
abbrev bQ:=@Ne.symm
abbrev gA:=@List.map_append
abbrev jl:=@Nat.add_le_add_left
abbrev kD:=@PySem.Heap.get?_update_self
abbrev iL:=@PySem.wpAny_newObj_type
abbrev fm:=@Nat.ne_of_lt
abbrev gU:=@List.length_nil
abbrev f6:=@PySem.wpAny_standAt
abbrev dQ:=@PySem.wpAny_mono
abbrev fz:=@Nat.le_of_lt
abbrev cN:=@congrArg
abbrev lE:=@List.cons_prefix_cons
abbrev e_:=@Nat.zero_le
abbrev eB:=@Nat.not_lt
abbrev j7:=@Bool.false_eq_true
abbrev jv:=@List.size_toArray
abbrev iV:=@List.filter_cons
abbrev nZ:=@Option.ne_none_iff_exists'
abbrev kr:=@Int.natCast_nonneg
abbrev jU:=@List.append_assoc
abbrev jY:=@List.nodup_append
abbrev kW:=@List.filter_eq_self
abbrev j_:=@List.flatMap_cons
abbrev jy:=@Nat.lt_succ_self
abbrev mz:=@List.mem_append_right
abbrev k7:=@Nat.lt_of_lt_of_eq
abbrev kI:=@List.getElem?_map
abbrev jQ:=@List.all_eq_true
abbrev lW:=@List.filter_sublist
abbrev mD:=@Nat.add_le_add_right
abbrev kJ:=@Bool.and_eq_true
abbrev mK:=@PySem.Heap.SameBut.update
abbrev g_:=@Nat.ne_of_gt
abbrev gz:=@PySem.wpAny_field
abbrev nG:=@PySem.Around.under_plainId
abbrev kT:=@List.lookup_cons
abbrev jd:=@List.cons.inj
abbrev nW:=@PySem.builtinLookup_eq_fast
abbrev l5:=@PySem.wpAny_call_entry
abbrev kQ:=@List.foldl_cons
abbrev sy:=@List.drop_eq_getElem_cons
abbrev oA:=@Bool.false_ne_true
abbrev oj:=@List.Nodup.sublist
abbrev mX:=@PySem.codeAny_builtin
abbrev lK:=@Nat.add_le_add
abbrev m9:=@List.cons_append
abbrev lS:=@PySem.isSubtype_type
abbrev rM:=@PySem.wpAny_callSpecial?_slot
abbrev oY:=@List.zip_cons_cons
abbrev rP:=@PySem.Heap.get?_update_other
abbrev p7:=@decide_eq_true_iff
abbrev r7:=@PyProof.Rows.tail_any
abbrev oW:=@Nat.le_succ_of_le
abbrev nc:=@PySem.wpAny_seqItems
abbrev oB:=@Bool.or_eq_true
abbrev nR:=@PySem.typeLookup_type
abbrev oM:=@List.nil_append
abbrev pC:=@PySem.wpAny_askSetting
abbrev gO:=@or_false
abbrev qQ:=@Int.toNat_natCast
abbrev wV:=@Nat.succ_add_eq_add_succ
abbrev xe:=@Option.isSome_iff_exists
abbrev o5:=@Bool.eq_iff_iff
abbrev pH:=@List.forIn_cons
abbrev rq:=@PySem.wpAny_Call_Name_kw
abbrev rO:=@PySem.wpAny_setField_rec
abbrev s_:=@List.mem_of_getElem?
abbrev kR:=@PySem.wpAny_load
abbrev kX:=@beq_iff_eq
abbrev rQ:=@decide_eq_true_eq
abbrev vJ:=@List.take_of_length_le
abbrev wW:=@List.filter_eq_nil_iff
abbrev s9:=@Nat.mul_le_mul_left
abbrev sP:=@List.map_congr_left
abbrev qu:=@List.find?_cons
abbrev qi:=@List.nil_prefix
abbrev zc:=@List.getElem?_append_left
abbrev vX:=@Array.getElem?_toList
abbrev rm:=@beq_self_eq_true
abbrev rF:=@List.getElem_mem
abbrev xZ:=@Nat.exists_eq_add_of_le'
abbrev jE:=@if_false
abbrev qy:=@List.mem_range
abbrev ya:=@PySem.wpAny_Call_method_lateS
abbrev AR:=@PySem.wpAny_nextOf_list_item
abbrev yx:=@PySem.Heap.size_after_update
abbrev zD:=@PyProof.noPylong_small
abbrev qK:=@PySem.wpAny_attempt
abbrev qG:=@PySem.plainId_quiet
abbrev qe:=@PySem.W.Looks.of_pure
abbrev uq:=@List.mem_reverse
abbrev uV:=@List.flatMap_nil
abbrev wO:=@PySem.Calls.spliced_cons
abbrev sA:=@PySem.Obj.putName_eq
abbrev zM:=@List.contains_iff_mem
abbrev DT:=@PySem.F.plain_extend_loop
abbrev tN:=@PySem.wpAny_updateSeq
abbrev tS:=@PySem.F.slot_zip_next
abbrev x9:=@Nat.mul_le_mul_right
abbrev qk:=@Int.le_trans
abbrev wK:=@PySem.Calls.spliced_nil
abbrev xV:=@Array.toArray_toList
abbrev zx:=@PySem.Calls.evalArgs_plain
abbrev w6:=@PySem.wpAny_assign_Name
abbrev wJ:=@PySem.wpAny_pyIter_list
abbrev v_:=@Nat.lt_succ_of_lt
abbrev z6:=@PySem.F.called_tuple
abbrev zA:=@PySem.codeAny_call_builtin
abbrev wD:=@List.filter_congr
abbrev oO:=@PySem.wpAny_call
abbrev Bs:=@PySem.wpAny_getItem_str_slice
abbrev vF:=@List.length_drop
abbrev B9:=@PySem.F.plainAttrs_dict
abbrev qR:=@PySem.wpAny_of_eq
abbrev Hr:=@PyProof.Rows.len_partsBetween
abbrev qV:=@PySem.W.plainGet_of
abbrev Dd:=@PySem.wpAny_pyNext_list_item
abbrev pD:=@PySem.wpAny_rule
abbrev su:=@List.map_nil
abbrev Cr:=@PySem.F.slot_bool_hash
abbrev x7:=@List.pairwise_cons
abbrev A_:=@Nat.le_of_succ_le_succ
abbrev u_:=@PySem.pushCells_keeps
abbrev xm:=@PySem.wpAny_specialOf
abbrev w4:=@List.cons.injEq
abbrev HH:=@PySem.SeqAt.canLay_of_shaped
abbrev tT:=@Bool.or_false
abbrev Al:=@PySem.wpAny_truthy_bool
abbrev zR:=@PySem.wpAny_Assign_Name
abbrev lH:=@if_true
abbrev JK:=@List.idxOf_lt_length_of_mem
abbrev yL:=@Nat.le_of_lt_succ
abbrev CD:=@List.mem_of_mem_drop
abbrev vQ:=@PySem.wpAny_newTuple
abbrev vB:=@decide_eq_true
abbrev wA:=@PySem.wpAny_setField
abbrev AB:=@List.dropLast_concat
abbrev uy:=@Nat.add_comm
abbrev tD:=@Int.ofNat_le
abbrev Bl:=@Option.getD_some
abbrev zL:=@PySem.size_glued
abbrev uL:=@decide_false
abbrev yt:=@PySem.entryFor_of_tree
abbrev zX:=@List.any_eq_true
abbrev yd:=@List.length_take
abbrev zT:=@List.mem_flatMap
abbrev HV:=@Int.le_add_of_nonneg_left
abbrev C5:=@List.filterMap_cons
abbrev DB:=@List.flatMap_append
abbrev vM:=@Bool.and_true
abbrev Qo:=@PySem.W.Fast.te14364793385576792824
abbrev Iu:=@List.Nodup.idxOf_getElem
abbrev BP:=@Option.map_some
abbrev zo:=@PySem.Heap.dictOf_iff
abbrev D0:=@List.mem_cons_self
abbrev Cd:=@PyProof.Rows.assignInOrder_cons
abbrev AS:=@PySem.Obj.data_mapFields
abbrev Ec:=@Nat.lt_of_le_of_ne
abbrev G5:=@List.length_eq_zero_iff
abbrev Cv:=@Bool.not_eq_true'
abbrev Dk:=@PySem.slot_list_getitem
abbrev zw:=@List.drop_zero
abbrev yG:=@List.nodup_nil
abbrev AO:=@PySem.F.plainAttrs_list
abbrev Fb:=@List.drop_eq_nil_of_le
abbrev vW:=@Nat.lt_or_ge
abbrev Cp:=@List.take_add_one
abbrev DX:=@List.reverse_cons
abbrev GQ:=@Option.map_eq_some_iff
abbrev Ba:=@PySem.Heap.get?_push_ne
abbrev Ex:=@PySem.wpAny_isTrue_Compare1
abbrev Gp:=@PySem.wpAny_pyNext_list_end
abbrev IP:=@PySem.F.slot_dict_pop
abbrev Em:=@Nat.le_of_sub_eq_zero
abbrev Gb:=@PySem.F.slot_set_iter
abbrev DN:=@Nat.min_le_right
abbrev A7:=@PySem.F.plainAttrs_str
abbrev AK:=@PySem.wpAny_execs_cons
abbrev AX:=@PySem.F.slot_str_split
abbrev DK:=@Bool.not_eq_true
abbrev Dj:=@List.isEmpty_map
abbrev Ed:=@List.isEmpty_iff
abbrev Dq:=@List.prefix_refl
abbrev yy:=@Nat.lt_irrefl
abbrev IG:=@List.drop_eq_nil_iff
abbrev Eg:=@List.mem_of_mem_take
abbrev w9:=@PySem.wpAny_letGo
abbrev JN:=@Nat.not_succ_le_self
abbrev Hy:=@List.idxOf_le_length
abbrev Gq:=@List.getLastD_concat
abbrev IJ:=@List.pairwise_append
abbrev AU:=@Nat.min_eq_left
abbrev BI:=@List.of_mem_zip
abbrev D5:=@PySem.post_val_or_str
abbrev Cg:=@List.head?_drop
abbrev C9:=@PyProof.Rows.get?_update_seq
abbrev DU:=@Nat.le_add_left
abbrev Ij:=@Array.toList_append
abbrev Gn:=@ne_true_of_eq_false
abbrev HA:=@beq_eq_false_iff_ne
abbrev Gl:=@PySem.plainId_quiet
abbrev x8:=@PySem.Txt.slice_le
abbrev KR:=@PySem.wpAny_nextOf_list_end
abbrev PL:=@PySem.SeqAt.depth_of_shaped
abbrev Gg:=@Int.lt_of_le_of_lt
abbrev xd:=@Exists.imp
abbrev FJ:=@PySem.Calls.Constant_str
abbrev wH:=@PySem.typeIs_str
abbrev A0:=@List.forIn_nil
abbrev Jl:=@PySem.W.isNs_of_in
abbrev xA:=@PySem.call_meets
abbrev Jt:=@PySem.F.args_str_split_2
abbrev MB:=@PySem.F.args_object_init_3
abbrev KP:=@PySem.F.args_object_init_2
abbrev Dt:=@PySem.wpAny_tryCatch
abbrev Dw:=@List.tail_drop
abbrev F6:=@PySem.Code.quiet_builtin
abbrev Rt:=@Array.getElem?_eq_some_iff
abbrev Pb:=@PySem.F.excBase_ValueError
abbrev Jo:=@List.getElem_idxOf
abbrev RT:=@List.takeWhile_cons_of_pos
abbrev KW:=@PySem.F.slot_dict_delitem
abbrev Ll:=@PySem.F.entry_extend_loop
abbrev KC:=@List.pairwise_iff_getElem
abbrev yJ:=@PySem.wpAny_point
abbrev EZ:=@PySem.wpAny_truthy_list
abbrev E7:=@PySem.wpAny_Return_some
abbrev Ia:=@Array.toList_push
abbrev Ho:=@PySem.F.entry_str_split
abbrev Jq:=@PySem.wpAny_pyIter_slot
abbrev Ek:=@PySem.F.args_zip_next_1
abbrev EA:=@of_decide_eq_true
abbrev Iv:=@PySem.wpAny_loadPart_at
abbrev I_:=@List.length_range
abbrev E0:=@Nat.lt_succ_of_le
abbrev G_:=@bne_self_eq_false
abbrev Jj:=@List.pairwise_map
abbrev DR:=@Nat.add_assoc
abbrev Lw:=@List.length_erase_of_mem
abbrev NX:=@PySem.W.nsMap_none_of_in
abbrev N7:=@PySem.F.typeCall_tuple_1
abbrev KG:=@Nat.sub_lt_sub_iff_right
abbrev Rq:=@PySem.SeqAt.EqAt.str_str
abbrev Dy:=@List.map_take
abbrev Nv:=@PySem.F.slot_dict_values
abbrev CW:=@List.map_drop
abbrev CS:=@PyProof.Rows.listUpdate_at
abbrev AF:=@PySem.wpAny_newList
abbrev LY:=@List.filterMap_cons_none
abbrev LG:=@List.length_filterMap_le
abbrev Qn:=@List.filterMap_cons_some
abbrev F_:=@Array.toList_inj
abbrev Ju:=@PySem.F.entry_zip_next
abbrev Il:=@PySem.wpAny_isInstance
abbrev PW:=@Nat.lt_add_of_pos_right
abbrev OY:=@PySem.F.plain_list_iadd
abbrev N1:=@PySem.F.entry_tuple_new
abbrev MN:=@PySem.F.newCall_tuple_1
abbrev Qx:=@PySem.F.slot_list_index
abbrev Ng:=@Int.fmod_nonneg_of_pos
abbrev DQ:=@Nat.mul_succ
abbrev Nh:=@List.length_pos_of_mem
abbrev AJ:=@PySem.name_of_addr
abbrev pY:=@not_or
abbrev yv:=@bne_iff_ne
abbrev AM:=@PySem.callType_new
abbrev AP:=@PySem.call_meetsIn
abbrev DI:=@Nat.zero_add
abbrev Bb:=@Nat.succ.inj
abbrev Ik:=@PySem.codeAny_of_tree
abbrev EI:=@List.idxOf_cons
abbrev JU:=@Option.map_none
abbrev EC:=@List.filter_map
abbrev JL:=@Nat.le_antisymm
abbrev P4:=@List.eq_nil_or_concat
abbrev KS:=@PySem.F.entry_zip_new
abbrev MD:=@PySem.F.slot_dict_get
abbrev Oh:=@Nat.le_of_ble_eq_true
abbrev Qk:=@PySem.F.type_dict_pop
abbrev Og:=@List.take_append_drop
abbrev AG:=@Int.le_refl
abbrev JF:=@Bool.and_false
abbrev DA:=@PySem.W.looks_field
abbrev Bu:=@List.map_id
abbrev sX:=@Eq.symm
abbrev Ew:=@List.any_cons
abbrev Cz:=@Nat.sub_le
abbrev Iw:=@Int.ofNat_lt
abbrev AY:=@And.intro

theorem Op {Uf UF:Prop} {P:Prop} (h:Uf∧UF) (k:Uf→UF→P):P:=k h.1 h.2
theorem b4 {Uf UF aj:Prop} {P:Prop} (h:Uf∧UF∧aj) (k:Uf→UF→aj→P):P:=Op h fun h0 h1=>k h0 h1.1 h1.2
theorem lN {Uf UF aj aB:Prop} {P:Prop} (h:Uf∧UF∧aj∧aB) (k:Uf→UF→aj→aB→P):P:=b4 h fun h0 h1 h2=>k h0 h1 h2.1 h2.2
theorem oX {Uf UF aj aB aR:Prop} {P:Prop} (h:Uf∧UF∧aj∧aB∧aR) (k:Uf→UF→aj→aB→aR→P):P:=lN h fun h0 h1 h2 h3=>k h0 h1 h2 h3.1 h3.2
theorem KI {Uf UF aj aB aR cC:Prop} {P:Prop} (h:Uf∧UF∧aj∧aB∧aR∧cC) (k:Uf→UF→aj→aB→aR→cC→P):P:=oX h fun h0 h1 h2 h3 h4=>k h0 h1 h2 h3 h4.1 h4.2
theorem uv {Uf UF aj aB aR cC dM:Prop} {P:Prop} (h:Uf∧UF∧aj∧aB∧aR∧cC∧dM) (k:Uf→UF→aj→aB→aR→cC→dM→P):P:=KI h fun h0 h1 h2 h3 h4 h5=>k h0 h1 h2 h3 h4 h5.1 h5.2
theorem abV {Uf UF aj aB aR cC dM jS:Prop} {P:Prop} (h:Uf∧UF∧aj∧aB∧aR∧cC∧dM∧jS) (k:Uf→UF→aj→aB→aR→cC→dM→jS→P):P:=uv h fun h0 h1 h2 h3 h4 h5 h6=>k h0 h1 h2 h3 h4 h5 h6.1 h6.2
theorem aO {T0:Sort _} {Uf:T0→Prop} {P:Prop} (h:∃a,Uf a) (k:∀a,Uf a→P):P:=h.elim k
theorem wS {T0:Sort _} {Uf UF:T0→Prop} {P:Prop} (h:∃a,Uf a∧UF a) (k:∀a,Uf a→UF a→P):P:=h.elim fun a h=>Op h (k a)
theorem aS {T0:Sort _} {Uf UF aj:T0→Prop} {P:Prop} (h:∃a,Uf a∧UF a∧aj a) (k:∀a,Uf a→UF a→aj a→P):P:=h.elim fun a h=>b4 h (k a)
theorem d9 {T0:Sort _} {Uf UF aj aB:T0→Prop} {P:Prop} (h:∃a,Uf a∧UF a∧aj a∧aB a) (k:∀a,Uf a→UF a→aj a→aB a→P):P:=h.elim fun a h=>lN h (k a)
theorem G7 {T0:Sort _} {Uf UF aj aB aR:T0→Prop} {P:Prop} (h:∃a,Uf a∧UF a∧aj a∧aB a∧aR a) (k:∀a,Uf a→UF a→aj a→aB a→aR a→P):P:=h.elim fun a h=>oX h (k a)
theorem Xv {T0:Sort _} {Uf UF aj aB aR cC:T0→Prop} {P:Prop} (h:∃a,Uf a∧UF a∧aj a∧aB a∧aR a∧cC a) (k:∀a,Uf a→UF a→aj a→aB a→aR a→cC a→P):P:=h.elim fun a h=>KI h (k a)
theorem adj {T0:Sort _} {Uf UF aj aB aR cC dM:T0→Prop} {P:Prop} (h:∃a,Uf a∧UF a∧aj a∧aB a∧aR a∧cC a∧dM a) (k:∀a,Uf a→UF a→aj a→aB a→aR a→cC a→dM a→P):P:=h.elim fun a h=>uv h (k a)
theorem TG {T0:Sort _} {Uf UF aj aB aR cC dM jS:T0→Prop} {P:Prop} (h:∃a,Uf a∧UF a∧aj a∧aB a∧aR a∧cC a∧dM a∧jS a) (k:∀a,Uf a→UF a→aj a→aB a→aR a→cC a→dM a→jS a→P):P:=h.elim fun a h=>abV h (k a)
theorem fE {T0:Sort _} {aW:Sort _} {Uf:T0→aW→Prop} {P:Prop} (h:∃a b,Uf a b) (k:∀a b,Uf a b→P):P:=h.elim fun a h=>aO h (k a)
theorem eG {T0:Sort _} {aW:Sort _} {Uf UF:T0→aW→Prop} {P:Prop} (h:∃a b,Uf a b∧UF a b) (k:∀a b,Uf a b→UF a b→P):P:=h.elim fun a h=>wS h (k a)
theorem fB {T0:Sort _} {aW:Sort _} {Uf UF aj:T0→aW→Prop} {P:Prop} (h:∃a b,Uf a b∧UF a b∧aj a b) (k:∀a b,Uf a b→UF a b→aj a b→P):P:=h.elim fun a h=>aS h (k a)
theorem jJ {T0:Sort _} {aW:Sort _} {Uf UF aj aB:T0→aW→Prop} {P:Prop} (h:∃a b,Uf a b∧UF a b∧aj a b∧aB a b) (k:∀a b,Uf a b→UF a b→aj a b→aB a b→P):P:=h.elim fun a h=>d9 h (k a)
theorem wh {T0:Sort _} {aW:Sort _} {Uf UF aj aB aR:T0→aW→Prop} {P:Prop} (h:∃a b,Uf a b∧UF a b∧aj a b∧aB a b∧aR a b) (k:∀a b,Uf a b→UF a b→aj a b→aB a b→aR a b→P):P:=h.elim fun a h=>G7 h (k a)
theorem IL {T0:Sort _} {aW:Sort _} {Uf UF aj aB aR cC:T0→aW→Prop} {P:Prop} (h:∃a b,Uf a b∧UF a b∧aj a b∧aB a b∧aR a b∧cC a b) (k:∀a b,Uf a b→UF a b→aj a b→aB a b→aR a b→cC a b→P):P:=h.elim fun a h=>Xv h (k a)
theorem Vm {T0:Sort _} {aW:Sort _} {Uf UF aj aB aR cC dM:T0→aW→Prop} {P:Prop} (h:∃a b,Uf a b∧UF a b∧aj a b∧aB a b∧aR a b∧cC a b∧dM a b) (k:∀a b,Uf a b→UF a b→aj a b→aB a b→aR a b→cC a b→dM a b→P):P:=h.elim fun a h=>adj h (k a)
theorem Rr {T0:Sort _} {aW:Sort _} {Uf UF aj aB aR cC dM jS:T0→aW→Prop} {P:Prop} (h:∃a b,Uf a b∧UF a b∧aj a b∧aB a b∧aR a b∧cC a b∧dM a b∧jS a b) (k:∀a b,Uf a b→UF a b→aj a b→aB a b→aR a b→cC a b→dM a b→jS a b→P):P:=h.elim fun a h=>TG h (k a)
theorem uS {T0:Sort _} {aW:Sort _} {cj:Sort _} {Uf:T0→aW→cj→Prop} {P:Prop} (h:∃a b c,Uf a b c) (k:∀a b c,Uf a b c→P):P:=h.elim fun a h=>fE h (k a)
theorem DE {T0:Sort _} {aW:Sort _} {cj:Sort _} {Uf UF:T0→aW→cj→Prop} {P:Prop} (h:∃a b c,Uf a b c∧UF a b c) (k:∀a b c,Uf a b c→UF a b c→P):P:=h.elim fun a h=>eG h (k a)
theorem dS {T0:Sort _} {aW:Sort _} {cj:Sort _} {Uf UF aj:T0→aW→cj→Prop} {P:Prop} (h:∃a b c,Uf a b c∧UF a b c∧aj a b c) (k:∀a b c,Uf a b c→UF a b c→aj a b c→P):P:=h.elim fun a h=>fB h (k a)
theorem uh {T0:Sort _} {aW:Sort _} {cj:Sort _} {Uf UF aj aB:T0→aW→cj→Prop} {P:Prop} (h:∃a b c,Uf a b c∧UF a b c∧aj a b c∧aB a b c) (k:∀a b c,Uf a b c→UF a b c→aj a b c→aB a b c→P):P:=h.elim fun a h=>jJ h (k a)
theorem yK {T0:Sort _} {aW:Sort _} {cj:Sort _} {Uf UF aj aB aR:T0→aW→cj→Prop} {P:Prop} (h:∃a b c,Uf a b c∧UF a b c∧aj a b c∧aB a b c∧aR a b c) (k:∀a b c,Uf a b c→UF a b c→aj a b c→aB a b c→aR a b c→P):P:=h.elim fun a h=>wh h (k a)
theorem N_ {T0:Sort _} {aW:Sort _} {cj:Sort _} {Uf UF aj aB aR cC dM:T0→aW→cj→Prop} {P:Prop} (h:∃a b c,Uf a b c∧UF a b c∧aj a b c∧aB a b c∧aR a b c∧cC a b c∧dM a b c) (k:∀a b c,Uf a b c→UF a b c→aj a b c→aB a b c→aR a b c→cC a b c→dM a b c→P):P:=h.elim fun a h=>Vm h (k a)
theorem T5 {T0:Sort _} {aW:Sort _} {cj:Sort _} {Uf UF aj aB aR cC dM jS:T0→aW→cj→Prop} {P:Prop} (h:∃a b c,Uf a b c∧UF a b c∧aj a b c∧aB a b c∧aR a b c∧cC a b c∧dM a b c∧jS a b c) (k:∀a b c,Uf a b c→UF a b c→aj a b c→aB a b c→aR a b c→cC a b c→dM a b c→jS a b c→P):P:=h.elim fun a h=>Rr h (k a)
theorem DJ {T0:Sort _} {aW:Sort _} {cj:Sort _} {fC:Sort _} {Uf UF:T0→aW→cj→fC→Prop} {P:Prop} (h:∃a b c d,Uf a b c d∧UF a b c d) (k:∀a b c d,Uf a b c d→UF a b c d→P):P:=h.elim fun a h=>DE h (k a)
theorem abX {T0:Sort _} {aW:Sort _} {cj:Sort _} {fC:Sort _} {Uf UF aj:T0→aW→cj→fC→Prop} {P:Prop} (h:∃a b c d,Uf a b c d∧UF a b c d∧aj a b c d) (k:∀a b c d,Uf a b c d→UF a b c d→aj a b c d→P):P:=h.elim fun a h=>dS h (k a)
theorem ZJ {T0:Sort _} {aW:Sort _} {cj:Sort _} {fC:Sort _} {Uf UF aj aB:T0→aW→cj→fC→Prop} {P:Prop} (h:∃a b c d,Uf a b c d∧UF a b c d∧aj a b c d∧aB a b c d) (k:∀a b c d,Uf a b c d→UF a b c d→aj a b c d→aB a b c d→P):P:=h.elim fun a h=>uh h (k a)
theorem NT {T0:Sort _} {aW:Sort _} {cj:Sort _} {fC:Sort _} {Uf UF aj aB aR:T0→aW→cj→fC→Prop} {P:Prop} (h:∃a b c d,Uf a b c d∧UF a b c d∧aj a b c d∧aB a b c d∧aR a b c d) (k:∀a b c d,Uf a b c d→UF a b c d→aj a b c d→aB a b c d→aR a b c d→P):P:=h.elim fun a h=>yK h (k a)
theorem acv {T0:Sort _} {aW:Sort _} {cj:Sort _} {fC:Sort _} {Uf UF aj aB aR cC dM:T0→aW→cj→fC→Prop} {P:Prop} (h:∃a b c d,Uf a b c d∧UF a b c d∧aj a b c d∧aB a b c d∧aR a b c d∧cC a b c d∧dM a b c d) (k:∀a b c d,Uf a b c d→UF a b c d→aj a b c d→aB a b c d→aR a b c d→cC a b c d→dM a b c d→P):P:=h.elim fun a h=>N_ h (k a)
theorem vm {T0:Sort _} {aW:Sort _} {cj:Sort _} {fC:Sort _} {Uf UF aj aB aR cC dM jS:T0→aW→cj→fC→Prop} {P:Prop} (h:∃a b c d,Uf a b c d∧UF a b c d∧aj a b c d∧aB a b c d∧aR a b c d∧cC a b c d∧dM a b c d∧jS a b c d) (k:∀a b c d,Uf a b c d→UF a b c d→aj a b c d→aB a b c d→aR a b c d→cC a b c d→dM a b c d→jS a b c d→P):P:=h.elim fun a h=>T5 h (k a)
theorem VW {T0:Sort _} {aW:Sort _} {cj:Sort _} {fC:Sort _} {oi:Sort _} {Uf UF aj aB aR:T0→aW→cj→fC→oi→Prop} {P:Prop} (h:∃a b c d e,Uf a b c d e∧UF a b c d e∧aj a b c d e∧aB a b c d e∧aR a b c d e) (k:∀a b c d e,Uf a b c d e→UF a b c d e→aj a b c d e→aB a b c d e→aR a b c d e→P):P:=h.elim fun a h=>NT h (k a)
theorem acS {T0:Sort _} {aW:Sort _} {cj:Sort _} {fC:Sort _} {oi:Sort _} {Uf UF aj aB aR cC dM:T0→aW→cj→fC→oi→Prop} {P:Prop} (h:∃a b c d e,Uf a b c d e∧UF a b c d e∧aj a b c d e∧aB a b c d e∧aR a b c d e∧cC a b c d e∧dM a b c d e) (k:∀a b c d e,Uf a b c d e→UF a b c d e→aj a b c d e→aB a b c d e→aR a b c d e→cC a b c d e→dM a b c d e→P):P:=h.elim fun a h=>acv h (k a)
theorem X5 {T0:Sort _} {aW:Sort _} {cj:Sort _} {fC:Sort _} {oi:Sort _} {Uf UF aj aB aR cC dM jS:T0→aW→cj→fC→oi→Prop} {P:Prop} (h:∃a b c d e,Uf a b c d e∧UF a b c d e∧aj a b c d e∧aB a b c d e∧aR a b c d e∧cC a b c d e∧dM a b c d e∧jS a b c d e) (k:∀a b c d e,Uf a b c d e→UF a b c d e→aj a b c d e→aB a b c d e→aR a b c d e→cC a b c d e→dM a b c d e→jS a b c d e→P):P:=h.elim fun a h=>vm h (k a)
theorem WG {T0:Sort _} {aW:Sort _} {cj:Sort _} {fC:Sort _} {oi:Sort _} {Ad:Sort _} {Uf UF aj aB aR:T0→aW→cj→fC→oi→Ad→Prop} {P:Prop} (h:∃a b c d e f,Uf a b c d e f∧UF a b c d e f∧aj a b c d e f∧aB a b c d e f∧aR a b c d e f) (k:∀a b c d e f,Uf a b c d e f→UF a b c d e f→aj a b c d e f→aB a b c d e f→aR a b c d e f→P):P:=h.elim fun a h=>VW h (k a)
theorem afn {T0:Sort _} {aW:Sort _} {cj:Sort _} {fC:Sort _} {oi:Sort _} {Ad:Sort _} {IU:Sort _} {Uf UF aj aB aR:T0→aW→cj→fC→oi→Ad→IU→Prop} {P:Prop} (h:∃a b c d e f g,Uf a b c d e f g∧UF a b c d e f g∧aj a b c d e f g∧aB a b c d e f g∧aR a b c d e f g) (k:∀a b c d e f g,Uf a b c d e f g→UF a b c d e f g→aj a b c d e f g→aB a b c d e f g→aR a b c d e f g→P):P:=h.elim fun a h=>WG h (k a)
theorem acw {T0:Sort _} {aW:Sort _} {cj:Sort _} {fC:Sort _} {oi:Sort _} {Ad:Sort _} {IU:Sort _} {aaj:Sort _} {Uf UF aj aB aR:T0→aW→cj→fC→oi→Ad→IU→aaj→Prop} {P:Prop} (h:∃a b c d e f g h,Uf a b c d e f g h∧UF a b c d e f g h∧aj a b c d e f g h∧aB a b c d e f g h∧aR a b c d e f g h) (k:∀a b c d e f g h,Uf a b c d e f g h→UF a b c d e f g h→aj a b c d e f g h→aB a b c d e f g h→aR a b c d e f g h→P):P:=h.elim fun a h=>afn h (k a)
noncomputable abbrev sE:Program:=PySem.Challenge.pw_pd0029_01
noncomputable def bF (i:Nat):Stmt:=sE.main.body.getD i (.Pass ⟨0,0,0,0⟩)
noncomputable def gJ:Stmt→List Stmt
 | .FunctionDef _ _ b _ _ _ _ _ _ _=>b
 | .ClassDef _ _ _ b _ _ _ _ _ _ _=>b
 |_=>[]
noncomputable def d7 (i j:Nat):Stmt:=(gJ (bF i)).getD j (.Pass ⟨0,0,0,0⟩)
noncomputable def sF:Stmt→Scope
 | .FunctionDef _ _ _ _ _ _ s _ _ _=>s
 |_=>default
noncomputable def adv:Stmt→Arguments
 | .FunctionDef _ a _ _ _ _ _ _ _ _=>a
 |_=>⟨[],[],none,[],[],none,[]⟩
noncomputable def acG:Stmt→Str
 | .FunctionDef n _ _ _ _ _ _ _ _ _=>n
 |_=>Str.empty
noncomputable def fdOf (st:Stmt) (qual:Str) (dV pm cd:Value):FuncData:=
 {name:=acG st,qualname:=qual,params:=adv st,body:=.stmts (gJ st),scope:=sF st,globals:=mainGlobals,closure:=[],defaults:=dV,kwdefaults:=.none,doc:=.none,pyModule:=pm,annotations:=none,code:=cd,closureTuple:=.none,builtins:=builtinsNs}
noncomputable def KF (P:Params):PySem.W.Frag:=[
 (1,{cls:=(.type "dict"),dict:=none,data:=(.dict #[⟨PyData.keyHash P "builtins",(.str "builtins" 162),(.ref 4)⟩,⟨PyData.keyHash P "__main__",(.str "__main__" 163),(.ref 5)⟩] 2),slots:=#[]}),
 (2,{cls:=.none,dict:=none,data:=(.dict #[] 0),slots:=#[]}),
 (3,{cls:=(.type "dict"),dict:=none,data:=(.dict #[⟨PyData.keyHash P "__name__",(.str "__name__" 165),(.str "law_pd0029_01" 520)⟩,⟨PyData.keyHash P "__doc__",(.str "__doc__" 166),.none⟩,⟨PyData.keyHash P "__package__",(.str "__package__" 167),.none⟩,⟨PyData.keyHash P "__loader__",(.str "__loader__" 168),(.builtin "__main__.__loader__#opaque")⟩,⟨PyData.keyHash P "__spec__",(.str "__spec__" 169),.none⟩,⟨PyData.keyHash P "__annotations__",(.str "__annotations__" 170),(.ref 6)⟩,⟨PyData.keyHash P "__builtins__",(.str "__builtins__" 171),(.ref 4)⟩,⟨PyData.keyHash P "__file__",(.str "__file__" 173),(.str "/claim/cut.py" 172)⟩,⟨PyData.keyHash P "__cached__",(.str "__cached__" 174),.none⟩,⟨PyData.keyHash P "_wall",(.str "_wall" 193),(.ref 21)⟩,⟨PyData.keyHash P "_NODE_OUT",(.str "_NODE_OUT" 198),(.int (-1) 197)⟩,⟨PyData.keyHash P "_NODE_DONE",(.str "_NODE_DONE" 201),(.int (-2) 200)⟩,⟨PyData.keyHash P "_NodeInfo",(.str "_NodeInfo" 238),(.ref 40)⟩,⟨PyData.keyHash P "CycleError",(.str "CycleError" 256),(.ref 55)⟩,⟨PyData.keyHash P "TopologicalSorter",(.str "TopologicalSorter" 375),(.ref 137)⟩,⟨PyData.keyHash P "_plain_name",(.str "_plain_name" 386),(.ref 148)⟩,⟨PyData.keyHash P "ABCMeta",(.str "ABCMeta" 412),(.ref 165)⟩,⟨PyData.keyHash P "_ABCLike",(.str "_ABCLike" 455),(.ref 198)⟩,⟨PyData.keyHash P "_abc_plain_meta",(.str "_abc_plain_meta" 462),(.ref 207)⟩,⟨PyData.keyHash P "fspath",(.str "fspath" 474),(.ref 214)⟩,⟨PyData.keyHash P "_check_arg_types",(.str "_check_arg_types" 487),(.ref 221)⟩,⟨PyData.keyHash P "splitroot",(.str "splitroot" 498),(.ref 228)⟩,⟨PyData.keyHash P "normpath",(.str "normpath" 513),(.ref 235)⟩,⟨PyData.keyHash P "commonpath",(.str "commonpath" 519),(.ref 240)⟩,⟨PyData.keyHash P "_law_ends",(.str "_law_ends" 531),(.ref 247)⟩,⟨PyData.keyHash P "_law_spelled",(.str "_law_spelled" 541),(.ref 254)⟩,⟨PyData.keyHash P "_law_moves",(.str "_law_moves" 547),(.ref 259)⟩,⟨PyData.keyHash P "_law_meets",(.str "_law_meets" 555),(.ref 266)⟩,⟨PyData.keyHash P "_law_shared",(.str "_law_shared" 561),(.ref 271)⟩,⟨PyData.keyHash P "_law_ways",(.str "_law_ways" 576),(.ref 278)⟩,⟨PyData.keyHash P "_law_told",(.str "_law_told" 582),(.ref 283)⟩,⟨PyData.keyHash P "_law_ring",(.str "_law_ring" 588),(.ref 288)⟩,⟨PyData.keyHash P "_law_prepared",(.str "_law_prepared" 595),(.ref 295)⟩,⟨PyData.keyHash P "_law_rounds",(.str "_law_rounds" 601),(.ref 300)⟩,⟨PyData.keyHash P "_law_moved",(.str "_law_moved" 607),(.ref 305)⟩,⟨PyData.keyHash P "law",(.str "law" 613),(.ref 310)⟩] 36),slots:=#[]}),
 (35,{cls:=(.type "code"),dict:=none,data:=(.fields #[(.str "__init__" 218),(.str "_NodeInfo.__init__" 219),(.str "/claim/cut.py" 220),(.int (10) 0),(.int (2) 0),(.int (0) 0),(.int (0) 0),(.int (3) 0),(.ref 30),(.bool true),(.int (181) 0),(.ref 31),.none,(.ref 32),(.ref 33),(.ref 34),(.int (223) 0),(.int (10) 0),(.str "/claim/cut.py" 224)]),slots:=#[]}),
 (36,{cls:=(.type "function"),dict:=none,data:=(.func (fdOf (d7 4 1) "_NodeInfo.__init__" .none (.str "cpy313.graphlib" 194) (.ref 35))),slots:=#[]}),
 (39,{cls:=(.type "dict"),dict:=none,data:=(.dict #[⟨PyData.keyHash P "__module__",(.str "__module__" 209),(.str "cpy313.graphlib" 194)⟩,⟨PyData.keyHash P "__firstlineno__",(.str "__firstlineno__" 213),(.int (7) 212)⟩,⟨PyData.keyHash P "__slots__",(.str "__slots__" 217),(.ref 29)⟩,⟨PyData.keyHash P "__init__",(.str "__init__" 225),(.ref 36)⟩,⟨PyData.keyHash P "__static_attributes__",(.str "__static_attributes__" 229),(.ref 37)⟩,⟨PyData.keyHash P "node",(.str "node" 231),(.ref 41)⟩,⟨PyData.keyHash P "npredecessors",(.str "npredecessors" 233),(.ref 42)⟩,⟨PyData.keyHash P "successors",(.str "successors" 235),(.ref 43)⟩,⟨PyData.keyHash P "__doc__",(.str "__doc__" 236),.none⟩] 5),slots:=#[]}),
 (40,{cls:=(.type "type"),dict:=none,data:=(.cls {name:="_NodeInfo",bases:=[(.type "object")],mro:=[(.ref 40),(.type "object")],ns:=39,qualname:="_NodeInfo",hasDict:=false,slotNames:=["node","npredecessors","successors"]}),slots:=#[none,none,some (.str "_NodeInfo" 202),some (.str "_NodeInfo" 210),some (.builtin "object.__new__"),some (.bool false)]}),
 (41,{cls:=(.type "member_descriptor"),dict:=none,data:=(.fields #[(.str "node" 230),(.ref 40),(.builtin "proto.slot"),(.builtin "proto.slot#set"),(.int (2) 0)]),slots:=#[]}),
 (42,{cls:=(.type "member_descriptor"),dict:=none,data:=(.fields #[(.str "npredecessors" 232),(.ref 40),(.builtin "proto.slot"),(.builtin "proto.slot#set"),(.int (1) 0)]),slots:=#[]}),
 (43,{cls:=(.type "member_descriptor"),dict:=none,data:=(.fields #[(.str "successors" 234),(.ref 40),(.builtin "proto.slot"),(.builtin "proto.slot#set"),(.int (0) 0)]),slots:=#[]}),
 (54,{cls:=(.type "dict"),dict:=none,data:=(.dict #[⟨PyData.keyHash P "__module__",(.str "__module__" 246),(.str "cpy313.graphlib" 194)⟩,⟨PyData.keyHash P "__firstlineno__",(.str "__firstlineno__" 250),(.int (14) 249)⟩,⟨PyData.keyHash P "__static_attributes__",(.str "__static_attributes__" 251),(.ref 53)⟩,⟨PyData.keyHash P "__weakref__",(.str "__weakref__" 253),(.ref 56)⟩,⟨PyData.keyHash P "__doc__",(.str "__doc__" 254),.none⟩] 3),slots:=#[]}),
 (55,{cls:=(.type "type"),dict:=none,data:=(.cls {name:="CycleError",bases:=[(.type "ValueError")],mro:=[(.ref 55),(.type "ValueError"),(.type "Exception"),(.type "BaseException"),(.type "object")],ns:=54,qualname:="CycleError",hasDict:=true,slotNames:=[]}),slots:=#[some (.ref 46),none,some (.str "CycleError" 239),some (.str "CycleError" 247),some (.builtin "ValueError.__new__"),some (.bool true)]}),
 (66,{cls:=(.type "tuple"),dict:=none,data:=(.seq #[.none] 0),slots:=#[]}),
 (72,{cls:=(.type "code"),dict:=none,data:=(.fields #[(.str "__init__" 269),(.str "TopologicalSorter.__init__" 270),(.str "/claim/cut.py" 271),(.int (18) 0),(.int (2) 0),(.int (0) 0),(.int (0) 0),(.int (3) 0),(.ref 67),(.bool true),(.int (181) 0),(.ref 68),.none,(.ref 69),(.ref 70),(.ref 71),(.int (276) 0),(.int (18) 0),(.str "/claim/cut.py" 277)]),slots:=#[]}),
 (73,{cls:=(.type "function"),dict:=none,data:=(.func (fdOf (d7 6 0) "TopologicalSorter.__init__" (.ref 66) (.str "cpy313.graphlib" 194) (.ref 72))),slots:=#[]}),
 (79,{cls:=(.type "code"),dict:=none,data:=(.fields #[(.str "_get_nodeinfo" 279),(.str "TopologicalSorter._get_nodeinfo" 280),(.str "/claim/cut.py" 281),(.int (27) 0),(.int (2) 0),(.int (0) 0),(.int (0) 0),(.int (3) 0),(.ref 74),(.bool true),(.int (181) 0),(.ref 75),.none,(.ref 76),(.ref 77),(.ref 78),(.int (285) 0),(.int (27) 0),(.str "/claim/cut.py" 286)]),slots:=#[]}),
 (80,{cls:=(.type "function"),dict:=none,data:=(.func (fdOf (d7 6 1) "TopologicalSorter._get_nodeinfo" .none (.str "cpy313.graphlib" 194) (.ref 79))),slots:=#[]}),
 (86,{cls:=(.type "code"),dict:=none,data:=(.fields #[(.str "add" 288),(.str "TopologicalSorter.add" 289),(.str "/claim/cut.py" 290),(.int (32) 0),(.int (2) 0),(.int (0) 0),(.int (0) 0),(.int (7) 0),(.ref 81),(.bool true),(.int (181) 0),(.ref 82),.none,(.ref 83),(.ref 84),(.ref 85),(.int (297) 0),(.int (32) 0),(.str "/claim/cut.py" 298)]),slots:=#[]}),
 (87,{cls:=(.type "function"),dict:=none,data:=(.func (fdOf (d7 6 2) "TopologicalSorter.add" .none (.str "cpy313.graphlib" 194) (.ref 86))),slots:=#[]}),
 (91,{cls:=(.type "code"),dict:=none,data:=(.fields #[(.str "prepare" 300),(.str "TopologicalSorter.prepare" 301),(.str "/claim/cut.py" 302),(.int (41) 0),(.int (1) 0),(.int (0) 0),(.int (0) 0),(.int (3) 0),(.ref 88),(.bool true),(.int (181) 0),(.ref 89),.none,.none,.none,(.ref 90),(.int (303) 0),(.int (41) 0),(.str "/claim/cut.py" 304)]),slots:=#[]}),
 (92,{cls:=(.type "function"),dict:=none,data:=(.func (fdOf (d7 6 3) "TopologicalSorter.prepare" .none (.str "cpy313.graphlib" 194) (.ref 91))),slots:=#[]}),
 (98,{cls:=(.type "code"),dict:=none,data:=(.fields #[(.str "get_ready" 306),(.str "TopologicalSorter.get_ready" 307),(.str "/claim/cut.py" 308),(.int (49) 0),(.int (1) 0),(.int (0) 0),(.int (0) 0),(.int (3) 0),(.ref 93),(.bool true),(.int (181) 0),(.ref 94),.none,(.ref 95),(.ref 96),(.ref 97),(.int (313) 0),(.int (49) 0),(.str "/claim/cut.py" 314)]),slots:=#[]}),
 (99,{cls:=(.type "function"),dict:=none,data:=(.func (fdOf (d7 6 4) "TopologicalSorter.get_ready" .none (.str "cpy313.graphlib" 194) (.ref 98))),slots:=#[]}),
 (105,{cls:=(.type "code"),dict:=none,data:=(.fields #[(.str "is_active" 316),(.str "TopologicalSorter.is_active" 317),(.str "/claim/cut.py" 318),(.int (60) 0),(.int (1) 0),(.int (0) 0),(.int (0) 0),(.int (3) 0),(.ref 100),(.bool true),(.int (181) 0),(.ref 101),.none,(.ref 102),(.ref 103),(.ref 104),(.int (320) 0),(.int (60) 0),(.str "/claim/cut.py" 321)]),slots:=#[]}),
 (106,{cls:=(.type "function"),dict:=none,data:=(.func (fdOf (d7 6 5) "TopologicalSorter.is_active" .none (.str "cpy313.graphlib" 194) (.ref 105))),slots:=#[]}),
 (112,{cls:=(.type "code"),dict:=none,data:=(.fields #[(.str "__bool__" 323),(.str "TopologicalSorter.__bool__" 324),(.str "/claim/cut.py" 325),(.int (65) 0),(.int (1) 0),(.int (0) 0),(.int (0) 0),(.int (3) 0),(.ref 107),(.bool true),(.int (181) 0),(.ref 108),.none,(.ref 109),(.ref 110),(.ref 111),(.int (327) 0),(.int (65) 0),(.str "/claim/cut.py" 328)]),slots:=#[]}),
 (113,{cls:=(.type "function"),dict:=none,data:=(.func (fdOf (d7 6 6) "TopologicalSorter.__bool__" .none (.str "cpy313.graphlib" 194) (.ref 112))),slots:=#[]}),
 (119,{cls:=(.type "code"),dict:=none,data:=(.fields #[(.str "done" 330),(.str "TopologicalSorter.done" 331),(.str "/claim/cut.py" 332),(.int (68) 0),(.int (1) 0),(.int (0) 0),(.int (0) 0),(.int (7) 0),(.ref 114),(.bool true),(.int (181) 0),(.ref 115),.none,(.ref 116),(.ref 117),(.ref 118),(.int (341) 0),(.int (68) 0),(.str "/claim/cut.py" 342)]),slots:=#[]}),
 (120,{cls:=(.type "function"),dict:=none,data:=(.func (fdOf (d7 6 7) "TopologicalSorter.done" .none (.str "cpy313.graphlib" 194) (.ref 119))),slots:=#[]}),
 (126,{cls:=(.type "code"),dict:=none,data:=(.fields #[(.str "_find_cycle" 344),(.str "TopologicalSorter._find_cycle" 345),(.str "/claim/cut.py" 346),(.int (91) 0),(.int (1) 0),(.int (0) 0),(.int (0) 0),(.int (3) 0),(.ref 121),(.bool true),(.int (181) 0),(.ref 122),.none,(.ref 123),(.ref 124),(.ref 125),(.int (354) 0),(.int (91) 0),(.str "/claim/cut.py" 355)]),slots:=#[]}),
 (127,{cls:=(.type "function"),dict:=none,data:=(.func (fdOf (d7 6 8) "TopologicalSorter._find_cycle" .none (.str "cpy313.graphlib" 194) (.ref 126))),slots:=#[]}),
 (133,{cls:=(.type "code"),dict:=none,data:=(.fields #[(.str "static_order" 357),(.str "TopologicalSorter.static_order" 358),(.str "/claim/cut.py" 359),(.int (120) 0),(.int (1) 0),(.int (0) 0),(.int (0) 0),(.int (3) 0),(.ref 128),(.bool true),(.int (181) 0),(.ref 129),.none,(.ref 130),(.ref 131),(.ref 132),(.int (361) 0),(.int (120) 0),(.str "/claim/cut.py" 362)]),slots:=#[]}),
 (134,{cls:=(.type "function"),dict:=none,data:=(.func (fdOf (d7 6 9) "TopologicalSorter.static_order" .none (.str "cpy313.graphlib" 194) (.ref 133))),slots:=#[]}),
 (136,{cls:=(.type "dict"),dict:=none,data:=(.dict #[⟨PyData.keyHash P "__module__",(.str "__module__" 264),(.str "cpy313.graphlib" 194)⟩,⟨PyData.keyHash P "__firstlineno__",(.str "__firstlineno__" 268),(.int (16) 267)⟩,⟨PyData.keyHash P "__init__",(.str "__init__" 278),(.ref 73)⟩,⟨PyData.keyHash P "_get_nodeinfo",(.str "_get_nodeinfo" 287),(.ref 80)⟩,⟨PyData.keyHash P "add",(.str "add" 299),(.ref 87)⟩,⟨PyData.keyHash P "prepare",(.str "prepare" 305),(.ref 92)⟩,⟨PyData.keyHash P "get_ready",(.str "get_ready" 315),(.ref 99)⟩,⟨PyData.keyHash P "is_active",(.str "is_active" 322),(.ref 106)⟩,⟨PyData.keyHash P "__bool__",(.str "__bool__" 329),(.ref 113)⟩,⟨PyData.keyHash P "done",(.str "done" 343),(.ref 120)⟩,⟨PyData.keyHash P "_find_cycle",(.str "_find_cycle" 356),(.ref 127)⟩,⟨PyData.keyHash P "static_order",(.str "static_order" 363),(.ref 134)⟩,⟨PyData.keyHash P "__static_attributes__",(.str "__static_attributes__" 368),(.ref 135)⟩,⟨PyData.keyHash P "__dict__",(.str "__dict__" 370),(.ref 138)⟩,⟨PyData.keyHash P "__weakref__",(.str "__weakref__" 372),(.ref 139)⟩,⟨PyData.keyHash P "__doc__",(.str "__doc__" 373),.none⟩] 4),slots:=#[]}),
 (137,{cls:=(.type "type"),dict:=none,data:=(.cls {name:="TopologicalSorter",bases:=[(.type "object")],mro:=[(.ref 137),(.type "object")],ns:=136,qualname:="TopologicalSorter",hasDict:=true,slotNames:=[]}),slots:=#[none,none,some (.str "TopologicalSorter" 257),some (.str "TopologicalSorter" 265),some (.builtin "object.__new__"),some (.bool true)]}),
 (138,{cls:=(.type "getset_descriptor"),dict:=none,data:=(.fields #[(.str "__dict__" 369),(.ref 137),(.builtin "function.__dict__"),(.builtin "function.__dict__#set")]),slots:=#[]}),
 (139,{cls:=(.type "getset_descriptor"),dict:=none,data:=(.fields #[(.str "__weakref__" 371),(.ref 137),(.builtin "ExceptionGroup.__weakref__"),.none]),slots:=#[]}),
 (213,{cls:=(.type "code"),dict:=none,data:=(.fields #[(.str "fspath" 465),(.str "fspath" 466),(.str "/claim/cut.py" 467),(.int (153) 0),(.int (1) 0),(.int (0) 0),(.int (0) 0),(.int (3) 0),(.ref 208),(.bool true),(.int (181) 0),(.ref 209),.none,(.ref 210),(.ref 211),(.ref 212),(.int (472) 0),(.int (153) 0),(.str "/claim/cut.py" 473)]),slots:=#[]}),
 (214,{cls:=(.type "function"),dict:=none,data:=(.func (fdOf (bF 15) "fspath" .none (.str "os" 463) (.ref 213))),slots:=#[]}),
 (227,{cls:=(.type "code"),dict:=none,data:=(.fields #[(.str "splitroot" 490),(.str "splitroot" 491),(.str "/claim/cut.py" 492),(.int (182) 0),(.int (1) 0),(.int (0) 0),(.int (0) 0),(.int (3) 0),(.ref 222),(.bool true),(.int (181) 0),(.ref 223),.none,(.ref 224),(.ref 225),(.ref 226),(.int (496) 0),(.int (182) 0),(.str "/claim/cut.py" 497)]),slots:=#[]}),
 (228,{cls:=(.type "function"),dict:=none,data:=(.func (fdOf (bF 19) "splitroot" .none (.str "cpy313.posixpath" 488) (.ref 227))),slots:=#[]}),
 (234,{cls:=(.type "code"),dict:=none,data:=(.fields #[(.str "normpath" 499),(.str "normpath" 500),(.str "/claim/cut.py" 501),(.int (196) 0),(.int (1) 0),(.int (0) 0),(.int (0) 0),(.int (3) 0),(.ref 229),(.bool true),(.int (181) 0),(.ref 230),.none,(.ref 231),(.ref 232),(.ref 233),(.int (511) 0),(.int (196) 0),(.str "/claim/cut.py" 512)]),slots:=#[]}),
 (235,{cls:=(.type "function"),dict:=none,data:=(.func (fdOf (bF 20) "normpath" .none (.str "cpy313.posixpath" 488) (.ref 234))),slots:=#[]}),
 (239,{cls:=(.type "code"),dict:=none,data:=(.fields #[(.str "commonpath" 514),(.str "commonpath" 515),(.str "/claim/cut.py" 516),(.int (221) 0),(.int (1) 0),(.int (0) 0),(.int (0) 0),(.int (3) 0),(.ref 236),(.bool true),(.int (181) 0),(.ref 237),.none,.none,.none,(.ref 238),(.int (517) 0),(.int (221) 0),(.str "/claim/cut.py" 518)]),slots:=#[]}),
 (240,{cls:=(.type "function"),dict:=none,data:=(.func (fdOf (bF 21) "commonpath" .none (.str "cpy313.posixpath" 488) (.ref 239))),slots:=#[]}),
 (246,{cls:=(.type "code"),dict:=none,data:=(.fields #[(.str "_law_ends" 522),(.str "_law_ends" 523),(.str "/claim/cut.py" 524),(.int (251) 0),(.int (1) 0),(.int (0) 0),(.int (0) 0),(.int (3) 0),(.ref 241),(.bool true),(.int (181) 0),(.ref 242),.none,(.ref 243),(.ref 244),(.ref 245),(.int (529) 0),(.int (251) 0),(.str "/claim/cut.py" 530)]),slots:=#[]}),
 (247,{cls:=(.type "function"),dict:=none,data:=(.func (fdOf (bF 23) "_law_ends" .none (.str "law_pd0029_01" 520) (.ref 246))),slots:=#[]}),
 (253,{cls:=(.type "code"),dict:=none,data:=(.fields #[(.str "_law_spelled" 532),(.str "_law_spelled" 533),(.str "/claim/cut.py" 534),(.int (258) 0),(.int (2) 0),(.int (0) 0),(.int (0) 0),(.int (3) 0),(.ref 248),(.bool true),(.int (181) 0),(.ref 249),.none,(.ref 250),(.ref 251),(.ref 252),(.int (539) 0),(.int (258) 0),(.str "/claim/cut.py" 540)]),slots:=#[]}),
 (254,{cls:=(.type "function"),dict:=none,data:=(.func (fdOf (bF 24) "_law_spelled" .none (.str "law_pd0029_01" 520) (.ref 253))),slots:=#[]}),
 (258,{cls:=(.type "code"),dict:=none,data:=(.fields #[(.str "_law_moves" 542),(.str "_law_moves" 543),(.str "/claim/cut.py" 544),(.int (262) 0),(.int (1) 0),(.int (0) 0),(.int (0) 0),(.int (3) 0),(.ref 255),(.bool true),(.int (181) 0),(.ref 256),.none,.none,.none,(.ref 257),(.int (545) 0),(.int (262) 0),(.str "/claim/cut.py" 546)]),slots:=#[]}),
 (259,{cls:=(.type "function"),dict:=none,data:=(.func (fdOf (bF 25) "_law_moves" .none (.str "law_pd0029_01" 520) (.ref 258))),slots:=#[]}),
 (265,{cls:=(.type "code"),dict:=none,data:=(.fields #[(.str "_law_meets" 548),(.str "_law_meets" 549),(.str "/claim/cut.py" 550),(.int (271) 0),(.int (2) 0),(.int (0) 0),(.int (0) 0),(.int (3) 0),(.ref 260),(.bool true),(.int (181) 0),(.ref 261),.none,(.ref 262),(.ref 263),(.ref 264),(.int (553) 0),(.int (271) 0),(.str "/claim/cut.py" 554)]),slots:=#[]}),
 (266,{cls:=(.type "function"),dict:=none,data:=(.func (fdOf (bF 26) "_law_meets" .none (.str "law_pd0029_01" 520) (.ref 265))),slots:=#[]}),
 (270,{cls:=(.type "code"),dict:=none,data:=(.fields #[(.str "_law_shared" 556),(.str "_law_shared" 557),(.str "/claim/cut.py" 558),(.int (273) 0),(.int (1) 0),(.int (0) 0),(.int (0) 0),(.int (3) 0),(.ref 267),(.bool true),(.int (181) 0),(.ref 268),.none,.none,.none,(.ref 269),(.int (559) 0),(.int (273) 0),(.str "/claim/cut.py" 560)]),slots:=#[]}),
 (271,{cls:=(.type "function"),dict:=none,data:=(.func (fdOf (bF 27) "_law_shared" .none (.str "law_pd0029_01" 520) (.ref 270))),slots:=#[]}),
 (277,{cls:=(.type "code"),dict:=none,data:=(.fields #[(.str "_law_ways" 562),(.str "_law_ways" 563),(.str "/claim/cut.py" 564),(.int (280) 0),(.int (1) 0),(.int (0) 0),(.int (0) 0),(.int (3) 0),(.ref 272),(.bool true),(.int (181) 0),(.ref 273),.none,(.ref 274),(.ref 275),(.ref 276),(.int (574) 0),(.int (280) 0),(.str "/claim/cut.py" 575)]),slots:=#[]}),
 (278,{cls:=(.type "function"),dict:=none,data:=(.func (fdOf (bF 28) "_law_ways" .none (.str "law_pd0029_01" 520) (.ref 277))),slots:=#[]}),
 (282,{cls:=(.type "code"),dict:=none,data:=(.fields #[(.str "_law_told" 577),(.str "_law_told" 578),(.str "/claim/cut.py" 579),(.int (295) 0),(.int (2) 0),(.int (0) 0),(.int (0) 0),(.int (3) 0),(.ref 279),(.bool true),(.int (181) 0),(.ref 280),.none,.none,.none,(.ref 281),(.int (580) 0),(.int (295) 0),(.str "/claim/cut.py" 581)]),slots:=#[]}),
 (283,{cls:=(.type "function"),dict:=none,data:=(.func (fdOf (bF 29) "_law_told" .none (.str "law_pd0029_01" 520) (.ref 282))),slots:=#[]}),
 (287,{cls:=(.type "code"),dict:=none,data:=(.fields #[(.str "_law_ring" 583),(.str "_law_ring" 584),(.str "/claim/cut.py" 585),(.int (302) 0),(.int (1) 0),(.int (0) 0),(.int (0) 0),(.int (3) 0),(.ref 284),(.bool true),(.int (181) 0),(.ref 285),.none,.none,.none,(.ref 286),(.int (586) 0),(.int (302) 0),(.str "/claim/cut.py" 587)]),slots:=#[]}),
 (288,{cls:=(.type "function"),dict:=none,data:=(.func (fdOf (bF 30) "_law_ring" .none (.str "law_pd0029_01" 520) (.ref 287))),slots:=#[]}),
 (294,{cls:=(.type "code"),dict:=none,data:=(.fields #[(.str "_law_prepared" 589),(.str "_law_prepared" 590),(.str "/claim/cut.py" 591),(.int (315) 0),(.int (1) 0),(.int (0) 0),(.int (0) 0),(.int (3) 0),(.ref 289),(.bool true),(.int (181) 0),(.ref 290),.none,(.ref 291),(.ref 292),(.ref 293),(.int (593) 0),(.int (315) 0),(.str "/claim/cut.py" 594)]),slots:=#[]}),
 (295,{cls:=(.type "function"),dict:=none,data:=(.func (fdOf (bF 31) "_law_prepared" .none (.str "law_pd0029_01" 520) (.ref 294))),slots:=#[]}),
 (299,{cls:=(.type "code"),dict:=none,data:=(.fields #[(.str "_law_rounds" 596),(.str "_law_rounds" 597),(.str "/claim/cut.py" 598),(.int (320) 0),(.int (3) 0),(.int (0) 0),(.int (0) 0),(.int (3) 0),(.ref 296),(.bool true),(.int (181) 0),(.ref 297),.none,.none,.none,(.ref 298),(.int (599) 0),(.int (320) 0),(.str "/claim/cut.py" 600)]),slots:=#[]}),
 (300,{cls:=(.type "function"),dict:=none,data:=(.func (fdOf (bF 32) "_law_rounds" .none (.str "law_pd0029_01" 520) (.ref 299))),slots:=#[]}),
 (304,{cls:=(.type "code"),dict:=none,data:=(.fields #[(.str "_law_moved" 602),(.str "_law_moved" 603),(.str "/claim/cut.py" 604),(.int (339) 0),(.int (2) 0),(.int (0) 0),(.int (0) 0),(.int (3) 0),(.ref 301),(.bool true),(.int (181) 0),(.ref 302),.none,.none,.none,(.ref 303),(.int (605) 0),(.int (339) 0),(.str "/claim/cut.py" 606)]),slots:=#[]}),
 (305,{cls:=(.type "function"),dict:=none,data:=(.func (fdOf (bF 33) "_law_moved" .none (.str "law_pd0029_01" 520) (.ref 304))),slots:=#[]}),
 (309,{cls:=(.type "code"),dict:=none,data:=(.fields #[(.str "law" 608),(.str "law" 609),(.str "/claim/cut.py" 610),(.int (356) 0),(.int (1) 0),(.int (0) 0),(.int (0) 0),(.int (3) 0),(.ref 306),(.bool true),(.int (181) 0),(.ref 307),.none,.none,.none,(.ref 308),(.int (611) 0),(.int (356) 0),(.str "/claim/cut.py" 612)]),slots:=#[]}),
 (310,{cls:=(.type "function"),dict:=none,data:=(.func (fdOf (bF 34) "law" .none (.str "law_pd0029_01" 520) (.ref 309))),slots:=#[]})]
@[elab_as_elim] theorem U {α:Sort _} {a b:α} {P:α→Prop} (h:a=b) (k:P b):P a:=h▸k
@[elab_as_elim] theorem ZB {α:Sort _} {a b:α} {P:α→Prop} (h:b=a) (k:P b):P a:=h▸k
section
section
variable {a b c d e f n:Nat}{x y z:Int}
theorem ER (h:a<b):min a b+(0+1+1)+(b-(a+1))=b+1:=by
 rw[AU (fz h)];exact(Nat.succ_add (a+1) _).trans (cN Nat.succ (Nat.add_sub_cancel' h))
theorem NL (h:a≤2+2*b):a≤2+2*(b+1):=Ev h (bV (2+2*b) 2)
theorem RA (h:a≤2+2*b) (e:c=2):a+c≤2+2*(b+1):=by subst e;exact mD h 2
theorem Tt (h:a≤4):2+2*a≤10:=jl (s9 2 h) 2
theorem ql (h:a=2+b):0<a:=h▸Nat.add_pos_left (by decide) b
theorem PR (h:0<a):(0:Int)<a:=Int.natCast_pos.2 h
theorem Fy (h:0<a):x.fmod a<a:=Int.fmod_lt_of_pos _ (PR h)
theorem D3 (h:0<a):0≤x.fmod a:=Ng _ (PR h)
theorem Kg (h:x<a) (e:x=b):b<a:=Iw.1 (e▸h)
theorem rI (h:0<a):(x.fmod a).toNat<a:=Kg (Fy h) (Int.toNat_of_nonneg (D3 h)).symm
theorem wR (h:0<a):¬(a:Int)=0:=fun e=>g_ h (Int.natCast_eq_zero.1 e)
theorem Up (h:a=2+b) (g:b≤4):a≤1000:=h▸Ev (jl g 2) (by decide)
theorem P6 (h:a≤1000000):(a:Int).natAbs<1073741824:=fU h (by decide)
theorem QO (h:a≤10) (e:b=2):a+b≤1000000:=e▸Ev (mD h 2) (by decide)
theorem ab6 (h:b≤1000):min a b+(0+1+1)≤1000000:=Ev (mD (Ev (DN a b) h) _) (by decide)
theorem T3 (h:a<b) (g:b≤1000):min a b+(0+1+1)+(b-(a+1))≤1000000:=Ev (bT (ER h)) (Ev (gr g) (by decide))
theorem yH (h:a-b=c+1):b<a:=Nat.lt_of_sub_eq_succ h
theorem Lz (h:a<b):b-a=b-a-1+1:=(Nat.sub_add_cancel (Nat.sub_pos_of_lt h)).symm
theorem B7 (h:a+60*(b+1)<9000) (g:c≤60):a+c+60*b<9000:=fU (Ev (mD (jl g a) _) (bT (by rw[DQ,DR,uy 60]))) h
theorem aaL (h:a+60*c<9000) (g:b≤c):a+60*b<9000:=fU (jl (s9 60 g) a) h
theorem Zp (h:a+c<d) (g:b≤c):a+b<d:=fU (jl g a) h
theorem Dl (h:a+60*b<9000) (g:c≤900):a+c<9900:=Nat.add_lt_add_of_lt_of_le (fU (bV ..) h) g
theorem Yl (h:a+(b+1)=c):a+1+b=c:=(wV a b).trans h
theorem oH (h:a+(b+1)≤c):a+1+b≤c:=Ev (bT (wV a b)) h
theorem IX (h:a≤300) (g:b≤a*1000):b+(a-1)*1≤700000:=Ev (lK (Ev g (x9 _ h)) (Ev (bT (Nat.mul_one _)) (Ev (Cz ..) h))) (by decide)
theorem E3 (h:a≤300) (g:b≤a*1000):b+a*1≤1000000:=Ev (lK (Ev g (x9 _ h)) (Ev (bT (Nat.mul_one _)) h)) (by decide)
theorem Mf (h:a≤700000) (e:b=1):b+a≤1000000:=e▸Ev (jl h 1) (by decide)
theorem UL (h:a≤b) (g:b≤1000):a≤1000000:=Ev (Ev h g) (by decide)
theorem Ic:((-1:Int)+((a+(0+1):Nat):Int)).toNat=a:=by lia
theorem Xc (h:x≤1000001) (g: -1000001≤x): -(2^63:Int)≤x∧x<2^63:=⟨qk (by decide) g,Gg h (by decide)⟩
theorem pn (h:a≤1000000):(a:Int)<2^63:=Gg (tD.2 h) (by decide)
theorem Ro (h0:0≤x) (h:x.toNat<a):x<a:=(Int.toNat_lt h0).1 h
theorem Pj (h0:0≤x) (g:a≤1000000) (h:x.toNat<a):x<2^63:=Int.lt_trans (Ro h0 h) (pn g)
theorem Wt (h: -(a:Int)≤x) (g:a≤1000000): -(2^63:Int)≤x:=qk (Int.neg_le_neg (Int.le_of_lt (pn g))) h
theorem Sb (h:a≤b) (g:b≤300) (k:c≤a*1000):c+(a-1)*1≤700000:=IX (Ev h g) k
theorem WM (h:a≤b) (g:b≤300) (k:c≤a*1000):c+a*1≤1000000:=E3 (Ev h g) k
theorem ME (h:a≤b-1) (g:0<b):a+1≤b:=Nat.add_le_of_le_sub g h
theorem L_ (h:0<a∧a≤1+b):0<a+(0+1)∧a+(0+1)≤1+(b+1):=⟨Nat.succ_pos a,gr h.2⟩
theorem MH (h:0<a∧a≤1+b):0<a∧a≤1+(b+1):=⟨h.1,oW h.2⟩
theorem jX (h:a=b) (g:b≤c) (k:c≤d):a≤d:=h▸Ev g k
theorem fS (h:a≤b) (g:b≤c) (k:c≤d):a≤d:=Ev h (Ev g k)
theorem Tq (h:a+(d+1)≤b+1+c) (g:b+c≤900):a≤1000:=Ev (bV a (d+1)) (Ev h (Ev (bT (Nat.succ_add b c)) (Ev (gr g) (by decide))))
theorem YL (h:a≤500+(b-c)) (g:b≤100):a≤600:=Ev h (jl (Ev (Cz ..) g) 500)
theorem JI (h:a≤e+1) (g:e+(b+1)≤c):a+b≤c:=Ev (mD h b) (oH g)
theorem T7 (h:b+1≤a):500+(a-(b+1))+1≤500+(a-b):=jl (bT (Nat.sub_add_cancel (Nat.sub_pos_of_lt h))) 500
theorem OX (i:a≤d+c) (e:d=f) (g:f≤b+1):a≤b+(c+1):=by
 subst e;exact Ev i (Ev (mD g c) (bT (wV b c)))
theorem Vo (h:a≤b):a+b*11≤b*12:=Ev (mD h _) (bT (by rw[uy,←DQ]))
theorem acN (h:a+c≤d*12) (g:d≤10) (k:b≤10):a+b≤900:=Ev (lK (Ev (bV a c) (Ev h (x9 12 g))) k) (by decide)
theorem ae5 (h:d+(b+1)*11≤c) (g:a≤d+1+e) (k:e≤10):a+b*11≤c:=by
 refine Ev (mD (Ev g (jl k _)) _) ?_;show d+11+b*11≤c;rw[DR,uy 11,←Nat.succ_mul];exact h
theorem abR (h:a+(c+1)*10≤d) (k:b≤10):a+b+c*10≤d:=by
 refine Ev (mD (jl k a) _) ?_;rw[DR,uy 10,←Nat.succ_mul];exact h
theorem Us (h:a<b) (g:b≤1000000):(a:Int)<2^63-1:=Int.lt_of_lt_of_le (Iw.2 (fP h g)) (by decide)
theorem El: -((a+1:Nat):Int)≤-1:=Int.neg_le_neg (tD.2 (gr (e_ a)))
theorem dL (h:a<b) (g:b≤1000):(a:Int)<2^63:=pn (Ev (fz h) (Ev g (by decide)))
theorem R6:a≤(((a+1:Nat):Int)-1).toNat:=by rw[Int.natCast_succ,Int.add_sub_cancel];exact aH _
theorem J5 (h:a≤3) (g:b≤3*c):a+b≤3*(c+1):=by rw[DQ,uy];exact lK g h
theorem P8 (h:e+f≤c+n) (k:n≤500) (g:c+500*(d+1)≤500+500*b):e+f+500*d≤500+500*b:=by
 refine Ev (mD (Ev h (jl k c)) _) ?_;rw[DR,uy 500 (500*d),←DQ];exact g
theorem W2 (h:e+f≤c+n) (k:n≤500) (g:c+500*(d+1)≤500+500*b) (i:b≤100):e≤1000000:=fS (Ev (bV ..) (bV ..)) (P8 h k g) (Ev (jl (s9 500 i) 500) (by decide))
theorem Rw (h:c≤64) (g:a+60*d<9000):a+1+min b c<9900:=fU (jl (Ev (DN b c) h) _) (Dl (c:=65) g (by decide))
theorem h_:x<y→x≤y∧y≤y:=fun h=>⟨Int.le_of_lt h,AG _⟩
theorem ZC (h:¬x<y):x≤x∧y≤x:=⟨AG _,Int.le_of_not_gt h⟩
theorem dV (h:a=b+1):(a:Int)-1=b:=by rw[h,Int.natCast_succ,Int.add_sub_cancel]
theorem LB {α} [BEq α] [LawfulBEq α]:∀{l m:List α},l.Nodup→(∀x∈l,x∈m)→l.length≤m.length
 |[],m,_,_=>e_ _
 |a::l,m,h,hs=>by
  rw[dg]at h;have ha:=hs a (.head _);have:=LB (m:=m.erase a) h.2 fun x hx=>(List.mem_erase_of_ne (fun q=>h.1 (by subst q;exact hx))).mpr (hs x (.tail _ hx));rw[Lw ha]at this;exact ME this (Nh ha)
end
end
theorem rR {Uf UF aj aB:Prop} (h0:Uf) (h1:UF) (h2:aj) (h3:aB):Uf∧UF∧aj∧aB:=⟨h0,h1,h2,h3⟩
theorem AA {Uf UF aj aB aR:Prop} (h0:Uf) (h1:UF) (h2:aj) (h3:aB) (h4:aR):Uf∧UF∧aj∧aB∧aR:=⟨h0,h1,h2,h3,h4⟩
theorem M3 {Uf UF aj aB aR cC dM:Prop} (h0:Uf) (h1:UF) (h2:aj) (h3:aB) (h4:aR) (h5:cC) (h6:dM):Uf∧UF∧aj∧aB∧aR∧cC∧dM:=⟨h0,h1,h2,h3,h4,h5,h6⟩
theorem fW {T0:Sort _} {Uf UF aj:T0→Prop} (a:T0) (h0:Uf a) (h1:UF a) (h2:aj a):∃a,Uf a∧UF a∧aj a:=⟨a,h0,h1,h2⟩
theorem ur {T0:Sort _} {Uf UF aj aB:T0→Prop} (a:T0) (h0:Uf a) (h1:UF a) (h2:aj a) (h3:aB a):∃a,Uf a∧UF a∧aj a∧aB a:=⟨a,h0,h1,h2,h3⟩
theorem As {T0:Sort _} {Uf UF aj aB aR:T0→Prop} (a:T0) (h0:Uf a) (h1:UF a) (h2:aj a) (h3:aB a) (h4:aR a):∃a,Uf a∧UF a∧aj a∧aB a∧aR a:=⟨a,h0,h1,h2,h3,h4⟩
theorem pS {T0:Sort _} {aW:Sort _} {Uf UF:T0→aW→Prop} (a:T0) (b:aW) (h0:Uf a b) (h1:UF a b):∃a b,Uf a b∧UF a b:=⟨a,b,h0,h1⟩
theorem r9 {T0:Sort _} {aW:Sort _} {Uf UF aj:T0→aW→Prop} (a:T0) (b:aW) (h0:Uf a b) (h1:UF a b) (h2:aj a b):∃a b,Uf a b∧UF a b∧aj a b:=⟨a,b,h0,h1,h2⟩
theorem jz {T0:Sort _} {aW:Sort _} {Uf UF aj aB:T0→aW→Prop} (a:T0) (b:aW) (h0:Uf a b) (h1:UF a b) (h2:aj a b) (h3:aB a b):∃a b,Uf a b∧UF a b∧aj a b∧aB a b:=⟨a,b,h0,h1,h2,h3⟩
theorem yb {T0:Sort _} {aW:Sort _} {Uf UF aj aB aR:T0→aW→Prop} (a:T0) (b:aW) (h0:Uf a b) (h1:UF a b) (h2:aj a b) (h3:aB a b) (h4:aR a b):∃a b,Uf a b∧UF a b∧aj a b∧aB a b∧aR a b:=⟨a,b,h0,h1,h2,h3,h4⟩
theorem z3 {T0:Sort _} {aW:Sort _} {Uf UF aj aB aR cC:T0→aW→Prop} (a:T0) (b:aW) (h0:Uf a b) (h1:UF a b) (h2:aj a b) (h3:aB a b) (h4:aR a b) (h5:cC a b):∃a b,Uf a b∧UF a b∧aj a b∧aB a b∧aR a b∧cC a b:=⟨a,b,h0,h1,h2,h3,h4,h5⟩
theorem uc {T0:Sort _} {aW:Sort _} {cj:Sort _} {Uf UF aj:T0→aW→cj→Prop} (a:T0) (b:aW) (c:cj) (h0:Uf a b c) (h1:UF a b c) (h2:aj a b c):∃a b c,Uf a b c∧UF a b c∧aj a b c:=⟨a,b,c,h0,h1,h2⟩
theorem Fe {T0:Sort _} {aW:Sort _} {cj:Sort _} {Uf UF aj aB:T0→aW→cj→Prop} (a:T0) (b:aW) (c:cj) (h0:Uf a b c) (h1:UF a b c) (h2:aj a b c) (h3:aB a b c):∃a b c,Uf a b c∧UF a b c∧aj a b c∧aB a b c:=⟨a,b,c,h0,h1,h2,h3⟩
theorem Hq {T0:Sort _} {aW:Sort _} {cj:Sort _} {Uf UF aj aB aR:T0→aW→cj→Prop} (a:T0) (b:aW) (c:cj) (h0:Uf a b c) (h1:UF a b c) (h2:aj a b c) (h3:aB a b c) (h4:aR a b c):∃a b c,Uf a b c∧UF a b c∧aj a b c∧aB a b c∧aR a b c:=⟨a,b,c,h0,h1,h2,h3,h4⟩
theorem LP {T0:Sort _} {aW:Sort _} {cj:Sort _} {Uf UF aj aB aR cC:T0→aW→cj→Prop} (a:T0) (b:aW) (c:cj) (h0:Uf a b c) (h1:UF a b c) (h2:aj a b c) (h3:aB a b c) (h4:aR a b c) (h5:cC a b c):∃a b c,Uf a b c∧UF a b c∧aj a b c∧aB a b c∧aR a b c∧cC a b c:=⟨a,b,c,h0,h1,h2,h3,h4,h5⟩
theorem KV {T0:Sort _} {aW:Sort _} {cj:Sort _} {fC:Sort _} {Uf UF:T0→aW→cj→fC→Prop} (a:T0) (b:aW) (c:cj) (d:fC) (h0:Uf a b c d) (h1:UF a b c d):∃a b c d,Uf a b c d∧UF a b c d:=⟨a,b,c,d,h0,h1⟩
theorem WE {T0:Sort _} {aW:Sort _} {cj:Sort _} {fC:Sort _} {Uf UF aj:T0→aW→cj→fC→Prop} (a:T0) (b:aW) (c:cj) (d:fC) (h0:Uf a b c d) (h1:UF a b c d) (h2:aj a b c d):∃a b c d,Uf a b c d∧UF a b c d∧aj a b c d:=⟨a,b,c,d,h0,h1,h2⟩
noncomputable abbrev TW:=Addr→Option Obj
inductive D where
 |val (v:Value)
 |int (i:Int)
 |str (s:Str)
 |list (l:List D)
 |tup (l:List D)
mutual
inductive Tells (Z:TW):Value→D→Prop
 |val (v:Value):Tells Z v (.val v)
 |int (i:Int) (t:Tok):Tells Z (.int i t) (.int i)
 |str (s:Str) (t:Tok):Tells Z (.str s t) (.str s)
 |list {a:Addr} {H:Array Value} {n:Nat} {l:List D}:Z a=some {cls:=.type "list",data:=.seq H n}→au Z H.toList l→Tells Z (.ref a) (.list l)
 |tup {a:Addr} {H:Array Value} {n:Nat} {l:List D}:Z a=some {cls:=.type "tuple",data:=.seq H n}→au Z H.toList l→Tells Z (.ref a) (.tup l)
inductive au (Z:TW):List Value→List D→Prop
 |nil:au Z [] []
 |cons {v:Value} {d:D} {H:List Value} {ds:List D}:Tells Z v d→au Z H ds→au Z (v::H) (d::ds)
end
theorem XE (h:Tells Z v (.val w)):w=v:=by cases h;rfl
theorem I9 (h:au Z v []):v=[]:=by cases h;rfl
@[elab_as_elim] theorem Tells.v {Z:TW} {v w:Value} {P:Value→Prop} (h:Tells Z v (.val w)) (k:P w):P v:=XE h▸k
@[elab_as_elim] theorem Tells.i {Z:TW} {v:Value} {i:Int} {P:Value→Prop} (h:Tells Z v (.int i)) (k:∀t,P (.int i t)):P v:=by cases h;exact k _
@[elab_as_elim] theorem Tells.s {Z:TW} {v:Value} {x:Str} {P:Value→Prop} (h:Tells Z v (.str x)) (k:∀t,P (.str x t)):P v:=by cases h;exact k _
@[elab_as_elim] theorem Tells.l {Z:TW} {v:Value} {l:List D} {P:Value→Prop} (h:Tells Z v (.list l)) (k:∀{a:Addr} {H:Array Value} {n:Nat},Z a=some {cls:=.type "list",data:=.seq H n}→au Z H.toList l→P (.ref a)):P v:=by cases h;exact k ‹_› ‹_›
@[elab_as_elim] theorem Tells.t {Z:TW} {v:Value} {l:List D} {P:Value→Prop} (h:Tells Z v (.tup l)) (k:∀{a:Addr} {H:Array Value} {n:Nat},Z a=some {cls:=.type "tuple",data:=.seq H n}→au Z H.toList l→P (.ref a)):P v:=by cases h;exact k ‹_› ‹_›
@[elab_as_elim] theorem au.n {P:List Value→Prop} (h:au Z v []) (k:P []):P v:=I9 h▸k
@[elab_as_elim] theorem au.c {P:List Value→Prop} (h:au Z v (d::l)) (k:∀{a:Value} {b:List Value},Tells Z a d→au Z b l→P (a::b)):P v:=by cases h;exact k ‹_› ‹_›
theorem au.x {P:Prop} (h:au Z [] (d::l)):P:=nomatch h
noncomputable def fK (Z Z':TW):Prop:=∀a o,Z a=some o→Z' a=some o
theorem fK.refl (Z):fK Z Z:=fun J J h=>h
theorem fK.trans (x:fK Z Z') (y:fK Z' eH):fK Z eH:=fun a o h=>y a o (x a o h)
theorem Tells.mono {Z Z':TW} (le:fK Z Z') {v:Value} {d:D} (h:Tells Z v d):Tells Z' v d:=
 Tells.rec (motive_1:=fun v d J=>Tells Z' v d) (motive_2:=fun v d J=>au Z' v d) .val .int .str (fun h J i=>.list (le _ _ h) i) (fun h J i=>.tup (le _ _ h) i) .nil (fun J J a b=>.cons a b) h
theorem au.ind {P:List Value→List D→Prop} (h0:P [] []) (h1:∀{v d H ds},Tells Z v d→au Z H ds→P H ds→P (v::H) (d::ds)) (h:au Z H ds):P H ds:=
 au.rec (motive_1:=fun J J J=>True) (motive_2:=fun v d J=>P v d) (fun J=>⟨⟩) (fun J J=>⟨⟩) (fun J J=>⟨⟩) (fun J J J=>⟨⟩) (fun J J J=>⟨⟩) h0 (fun a b J c=>h1 a b c) h
theorem au.mono (le:fK Z Z') (h:au Z H ds):au Z' H ds:=
 h.ind .nil fun a J b=>.cons (a.mono le) b
theorem au.length (h:au Z H ds):H.length=ds.length:=
 h.ind (P:=fun H ds=>H.length=ds.length) rfl fun J J b=>cN (fun x=>x+1) b
theorem au.append (h:au Z H ds) (h':au Z nS C0):au Z (H++nS) (ds++C0):=
 h.ind (P:=fun H ds=>au Z (H++nS) (ds++C0)) h' fun a J b=>.cons a b
theorem au.get (h:au Z H ds):∀{i:Nat} {d:D},ds[i]?=some d→∃v,H[i]?=some v∧Tells Z v d:=by
 refine h.ind (P:=fun H ds=>∀{i:Nat} {d:D},ds[i]?=some d→∃v,H[i]?=some v∧Tells Z v d) ?_ ?_
 ·intro i d h;simp at h
 ·intro v ck H ds s5 _ ih i d h;rcases i with _|i
  ·simp at h;exact⟨_,rfl,h▸s5⟩
  ·exact ih (i:=i) h
noncomputable def Sub (Z:TW) (h:Heap):Prop:=∀a o,Z a=some o→h.get? a=some o∧o.cls≠ .type "frame"
theorem Sub.get (x:Sub Z h) (e:Z a=some o):h.get? a=some o:=(x a o e).1
noncomputable def i7 (o o':Obj):Prop:=o'=o∨(o.cls= .type "frame"∧∃bS,o'={o with slots:=bS})
theorem i7.refl (o):i7 o o:=.inl rfl
theorem i7.data (x:i7 o o'):o'.data=o.data:=by
 rcases x with rfl|⟨_,bS,rfl⟩<;>rfl
theorem i7.cls (x:i7 o o'):o'.cls=o.cls:=by
 rcases x with rfl|⟨_,bS,rfl⟩<;>rfl
theorem i7.eq (x:i7 o o') (h:o.cls≠ .type "frame"):o'=o:=by
 rcases x with rfl|⟨e,_⟩
 ·rfl
 ·exact absurd e h
theorem i7.trans (x:i7 o o') (y:i7 o' pT):i7 o pT:=by
 rcases x with rfl|⟨e,bS,rfl⟩
 ·exact y
 ·rcases y with rfl|⟨_,R0,rfl⟩
  ·exact .inr ⟨e,bS,rfl⟩
  ·exact .inr ⟨e,R0,rfl⟩
noncomputable def j0 (o:Obj):Prop:=(∃es ep,o.data= .dict es ep)∧o.cls= .type "frame"
theorem j0.qX (h:j0 o) (H):o.data≠ .fields H:=by
 refine Op h fun aG J=>?_;refine fE aG fun es ep e=>?_;refine U e ?_;simp
theorem i7.AV (q:i7 o o') (h:j0 o):j0 o':=by
 refine Op h fun aG hc=>?_;refine fE aG fun es ep e=>?_;exact⟨⟨es,ep,q.data.trans e⟩,q.cls.trans hc⟩
noncomputable def A3 (h:Heap) (l:List Env):Prop:=∀b∈l.filterMap (fun x=>x.frame),∃o,h.get? b=some o∧j0 o
noncomputable def gk (h h':Heap):Prop:=h.objs.size≤h'.objs.size∧∀a o,h.get? a=some o→∃o',h'.get? a=some o'∧i7 o o'
theorem gk.refl (h):gk h h:=⟨aH _,fun J o e=>⟨o,e,.refl o⟩⟩
theorem gk.trans (x:gk h h') (y:gk h' h''):gk h h'':=
 ⟨Ev x.1 y.1,fun a o e=>wS (x.2 a o e) fun o' e' s=>wS (y.2 a o' e') fun pT yX s'=>⟨pT,yX,s.trans s'⟩⟩
theorem gk.push (h) (o):gk h (h.push o):=⟨by rw[eS];exact bV _ _,fun a o' e=>⟨o',bX o e,.refl _⟩⟩
theorem gk.sub (x:gk h h') (y:Sub Z h):Sub Z h':=fun a o e=>by
 refine Op (y a o e) fun e1 e2=>?_;refine wS (x.2 a o e1) fun o' e' s=>?_;rw[s.eq e2]at e';exact⟨e',e2⟩
theorem gk.ns (x:gk h h') (y:h.Ns a m):h'.Ns a m:=by
 refine dS y fun o es ep xz hd r=>?_;refine wS (x.2 a o xz) fun o' e' s=>?_;exact uc o' es ep e' (s.data.trans hd) r
theorem gk.cell (x:gk h h') (y:h.IsCell a v):h'.IsCell a v:=by
 refine wS y fun o xz hd=>?_;refine wS (x.2 a o xz) fun o' e' s=>?_;exact⟨o',e',s.data.trans hd⟩
theorem gk.frames (x:gk h h') (y:h.FunFrames base l):h'.FunFrames base l:=
 y.of_keeps fun b o e J=>wS (x.2 b o e) fun o' e' s=>⟨o',e',s.data⟩
noncomputable def qP (h:Heap) (Z Z':TW):Prop:=fK Z Z'∧∀a o,Z' a=some o→Z a=some o∨h.objs.size≤a
theorem qP.refl (h) (Z):qP h Z Z:=⟨.refl Z,fun J J e=>.inl e⟩
theorem qP.trans (x:qP h Z Z') (g:h.objs.size≤h'.objs.size) (y:qP h' Z' eH):qP h Z eH:=
 ⟨x.1.trans y.1,fun a o e=>by
  rcases y.2 a o e with e|e
  ·exact x.2 a o e
  ·exact .inr (Ev g e)⟩
structure ah where
 p:Program
 w:World
 H0:Heap
 hd:Bool:=false
 T:Nat:=0
 fr:Option Addr:=none
noncomputable abbrev ah.M (c:ah):Model:=model c.p c.w
structure Step (c:ah) (s:Shared) (Z:TW) (s':Shared) (Z':TW):Prop where
 grow:gk s.heap s'.heap
 top:c.H0.StaysIn s'.heap
 ext:qP s.heap Z Z'
 sub:Sub Z' s'.heap
 tok:s.toks≤s'.toks
 rest:∃h t,s'={s with heap:=h,toks:=t}
theorem Step.le (x:Step c s Z s' Z'):fK Z Z':=x.ext.1
theorem Step.refl (top:c.H0.StaysIn s.heap) (sub:Sub Z s.heap):Step c s Z s Z:=⟨.refl _,top,.refl ..,sub,aH _,⟨s.heap,s.toks,rfl⟩⟩
theorem Step.trans (x:Step c s Z s' Z') (y:Step c s' Z' s'' eH):Step c s Z s'' eH:=by
 refine⟨x.grow.trans y.grow,y.top,x.ext.trans x.grow.1 y.ext,y.sub,Ev x.tok y.tok,?_⟩;refine fE (x.rest) fun h t s4=>?_;subst s4;refine fE (y.rest) fun h' t' s4=>?_;subst s4;exact⟨h',t',rfl⟩
theorem Step.toks (x:Step c s Z s' Z') (FS:s'.toks≤t):Step c s Z {s' with toks:=t} Z':=by
 refine⟨x.grow,x.top,x.ext,x.sub,Ev x.tok FS,?_⟩;refine fE (x.rest) fun h t' s4=>?_;subst s4;exact⟨h,t,rfl⟩
noncomputable def TW.put (Z:TW) (a:Addr) (o:Obj):TW:=fun b=>if b=a then some o else Z b
theorem Step.push (top:c.H0.StaysIn s.heap) (sub:Sub Z s.heap) (o) (hf:o.isFreed=false) (hc:o.cls≠ .type "frame"):
 Step c s Z {s with heap:=s.heap.push o} (Z.put s.heap.objs.size o):=by
 have new:Z s.heap.objs.size=none:=by
  induction q:Z s.heap.objs.size with
  |none=>rfl
  |some o'=>exact absurd (cE (sub.get q)) (yy _)
 refine⟨.push ..,fun a o' e=>bX _ (top a o' e),⟨fun a o' e=>?_,fun a o' e=>?_⟩,fun a o' e=>?_,aH _,⟨_,_,rfl⟩⟩
 ·unfold TW.put;by_cases h:a=s.heap.objs.size
  ·subst h;rw[new]at e;cases e
  ·exact U (Tk h) e
 ·unfold TW.put at e;by_cases h:a=s.heap.objs.size
  ·exact .inr (bT h.symm)
  ·rw[Tk h]at e;exact .inl e
 ·unfold TW.put at e;by_cases h:a=s.heap.objs.size
  ·subst h;rw[ak rfl]at e;cases e;exact⟨dN _ hf,hc⟩
  ·rw[Tk h]at e;exact⟨bX _ (sub.get e),(sub a o' e).2⟩
theorem TW.ai (Z:TW) (a:Addr) (o:Obj):Z.put a o a=some o:=ak rfl
inductive cZ|loc|aL|gn|bw
 deriving DecidableEq
structure iu where
 name:Str
 kind:cZ
 val:Option D
noncomputable abbrev XV:=List iu
noncomputable def gv (h:Heap) (n:Str) (x:Value):Prop:=∃vD lQ,h.Ns mainGlobals vD∧h.Ns builtinsNs lQ∧(vD n=some x∨(vD n=none∧lQ n=some x))
noncomputable def jV (c:ah) (h:Heap) (V:Env) (n:Str) (x:Value):cZ→Prop
 | .loc=>V.kindOf n=some .local∧∃m,h.Ns V.locals m∧m n=some x
 | .aL| .gn=>V.kindOf n=some .cell∧∃a,V.cells.lookup n=some a∧h.IsCell a (some x)
 | .bw=>V.kindOf n=some .globalImplicit∧V.globals=mainGlobals∧V.builtins=builtinsNs∧gv c.H0 n x
theorem jV.grow (g:gk h h') (bL:jV c h V n x k):jV c h' V n x k:=by
 rcases k with _|_|_|_
 ·exact⟨bL.1,bL.2.imp fun J y=>⟨g.ns y.1,y.2⟩⟩
 ·exact⟨bL.1,bL.2.imp fun J y=>⟨y.1,g.cell y.2⟩⟩
 ·exact⟨bL.1,bL.2.imp fun J y=>⟨y.1,g.cell y.2⟩⟩
 ·exact bL
noncomputable def Iz (c:ah) (Z:TW) (h:Heap) (V:Env) (v:iu):Prop:=∀d,v.val=some d→∃x,Tells Z x d∧jV c h V v.name x v.kind
inductive g7 where
 |list (l:List D)
 |dict (l:List (Str×D))
 |set (l:List Str)
 |inst (C dx:Addr) (l:List (Option D))
 |attrs (l:List (Str×D))
 |raw (o:Obj)
 |any
noncomputable abbrev B:=Addr→Option g7
noncomputable def B.put (Y:B) (a:Addr) (x:Option g7):B:=fun b=>if b=a then x else Y b
theorem B.ai (Y:B) (a:Addr) (x:Option g7):Y.put a x a=x:=ak rfl
theorem B.aa (Y:B) (x:Option g7) (h:b≠a):Y.put a x b=Y b:=Tk h
noncomputable def p5 (c:ah) (Z:TW) (o:Obj) (l:List (Str×D)):Prop:=∃kvs:List (Str×Value),o.IsDictOf (strKind c.p c.w) kvs∧kvs.map Prod.fst=l.map Prod.fst∧au Z (kvs.map Prod.snd) (l.map Prod.snd)
theorem p5.cls (h:p5 c Z o l):o.cls= .type "dict" :=h.elim fun J y=>y.1.elim fun J z=>z.elim fun J w=>w.1.1
inductive ig (Z:TW):List (Option Value)→List (Option D)→Prop
 |nil:ig Z [] []
 |some {v:Value} {d:D} {H:List (Option Value)} {ds:List (Option D)}:Tells Z v d→ig Z H ds→ig Z (some v::H) (some d::ds)
 |none {H:List (Option Value)} {ds:List (Option D)}:ig Z H ds→ig Z (none::H) (none::ds)
theorem ig.mono (le:fK Z Z') (h:ig Z H ds):ig Z' H ds:=
 h.rec (motive:=fun H ds J=>ig Z' H ds) .nil (fun a J b=>.some (a.mono le) b) fun J b=>.none b
noncomputable def S1 (c:ah) (o:Obj) (l:List Str):Prop:=∃es ep oZ,o.ExactSet∧o.data= .set es ep oZ∧ElemsOf (strKind c.p c.w) es.toList∧(∀k,decide (k∈l)=true↔∃e∈es.toList,(strKind c.p c.w).is k e.2=true)∧es.size<scanBound∧oZ.fits es.size=true∧es.size≤l.length
noncomputable def eN (c:ah) (Z:TW) (o:Obj):g7→Prop
 | .list l=>∃H n,o={cls:=.type "list",data:=.seq H n}∧au Z H.toList l
 | .dict l=>p5 c Z o l
 | .set l=>S1 c o l
 | .inst C dx l=>∃bS,o={cls:=.ref C,dict:=some dx,data:=.plain,slots:=bS}∧ig Z bS.toList l
 | .attrs l=>∃(kvs:List (Str×Tok×Value)) (n:Nat),o={cls:=.type "dict",data:=.dict (kvs.map fun x=>(⟨PyData.keyHash c.w.params x.1,.str x.1 x.2.1,x.2.2⟩:DictEntry)).toArray n}∧kvs.map Prod.fst=l.map Prod.fst∧au Z (kvs.map (fun x=>x.2.2)) (l.map Prod.snd)
 | .raw o'=>o=o'∧o.cls≠ .type "frame"
 | .any=>∃es ep,o.data= .dict es ep∧StrKeys es
theorem eN.mono (le:fK Z Z') (h:eN CC Z o c):eN CC Z' o c:=by
 rcases c with l|l|l|⟨a,b,l⟩|l|r|_
 ·exact xd (fun J=>xd fun J y=>⟨y.1,y.2.mono le⟩) h
 ·exact xd (fun J y=>⟨y.1,y.2.1,y.2.2.mono le⟩) h
 ·exact h
 ·exact xd (fun J y=>⟨y.1,y.2.mono le⟩) h
 ·exact xd (fun J=>xd fun J y=>⟨y.1,y.2.1,y.2.2.mono le⟩) h
 ·exact h
 ·exact h
theorem eN.same (q:i7 o o') (h:eN CC Z o c):eN CC Z o' c:=by
 rcases c with l|l|l|⟨a,b,l⟩|l|r|_
 ·have e:=h;refine eG e fun J J e J=>?_;refine U (q.eq (by refine U e ?_;simp)) ?_;exact h
 ·refine U (q.eq (by refine U (p5.cls h) ?_;simp)) ?_;exact h
 ·have e:=h;refine DE e fun J J J e J=>?_;refine U (q.eq (by refine U e.1 ?_;simp)) ?_;exact h
 ·have e:=h;refine wS e fun J e J=>?_;refine U (q.eq (by refine U e ?_;simp)) ?_;exact h
 ·have e:=h;refine eG e fun J J e J=>?_;refine U (q.eq (by refine U e ?_;simp)) ?_;exact h
 ·exact U (q.eq h.2) h
 ·exact eG h fun es ep h1 h2=>⟨es,ep,q.data.trans h1,h2⟩
theorem eN.RW (n:c≠ .any) (h:eN CC Z o c):o.cls≠ .type "frame" :=by
 rcases c with l|l|l|⟨a,b,l⟩|l|r|_
 ·refine eG h fun J J e J=>?_;refine U e ?_;simp
 ·refine U (p5.cls h) ?_;simp
 ·refine DE h fun J J J e J=>?_;refine U e.1 ?_;simp
 ·refine wS h fun J e J=>?_;refine U e ?_;simp
 ·refine eG h fun J J e J=>?_;refine U e ?_;simp
 ·exact h.2
 ·exact absurd rfl n
noncomputable def lu (Y:B) (h:Heap) (a:Addr):Prop:=Y a=none∧a<h.objs.size
structure bz (c:ah) (Z:TW) (h:Heap) (V:Env) (O:XV) (Y:B):Prop where
 fn:V.scope.kind= .function
 top:c.H0.StaysIn h
 sub:Sub Z h
 vars:∀v∈O,Iz c Z h V v
 cells:∀a cl,Y a=some cl→(∃o,h.get? a=some o∧eN c Z o cl)∧Z a=none∧c.H0.get? a=none
 own:lu Y h V.locals∧∀n a,V.cells.lookup n=some a→lu Y h a
 glob:V.globals=mainGlobals∧V.builtins=builtinsNs∧c.H0.get? sysModules≠none∧∀L,c.fr=some L→V.frame=some L
structure aN (c:ah) (Y:B) (s:Shared) (Z:TW) (I:B) (s':Shared) (Z':TW):Prop where
 size:s.heap.objs.size≤s'.heap.objs.size
 keep:∀a o,Y a=none→s.heap.get? a=some o→∃o',s'.heap.get? a=some o'∧i7 o o'
 fields:∀b o,s.heap.get? b=some o→j0 o→∃o',s'.heap.get? b=some o'∧j0 o'
 top:c.H0.StaysIn s'.heap
 le:fK Z Z'
 ext:∀a o,Z' a=some o→Z a=some o∨Y a≠none∨s.heap.objs.size≤a
 sub:Sub Z' s'.heap
 ju:∀a,I a≠none→Y a≠none∨s.heap.objs.size≤a
 cells:∀a cl,I a=some cl→(∃o,s'.heap.get? a=some o∧eN c Z' o cl)∧Z' a=none∧c.H0.get? a=none
 tok:s.toks≤s'.toks
 rest:∃h t,s'={s with heap:=h,toks:=t}
theorem sZ {h:Heap} {a:Addr} (ha:h.objs.size≤a):h.get? a=none:=by
 induction q:h.get? a with
 |none=>rfl
 |some o=>exact absurd (cE q) (eB.mpr ha)
theorem gC (x:Sub Z h) (ha:h.objs.size≤a):Z a=none:=by
 induction q:Z a with
 |none=>rfl
 |some o=>exact absurd (cE (x.get q)) (eB.mpr ha)
theorem mG {c:ah} {h:Heap} (top:c.H0.StaysIn h) {a:Addr} (ha:h.objs.size≤a):c.H0.get? a=none:=by
 induction q:c.H0.get? a with
 |none=>rfl
 |some o=>exact absurd (cE (top _ _ q)) (eB.mpr ha)
theorem bz.lt (x:bz c Z h V O Y) (ha:Y a≠none):a<h.objs.size:=by
 refine aO (nZ.mp ha) fun cl e=>?_;refine Op (x.cells a cl e) fun aG J=>?_;refine wS aG fun o xz J=>?_;exact cE xz
theorem bz.fresh (x:bz c Z h V O Y) (ha:h.objs.size≤a):Y a=none:=by
 induction q:Y a with
 |none=>rfl
 |some cl=>exact absurd (x.lt (a:=a) (by refine U q ?_;simp)) (eB.mpr ha)
noncomputable def gj (c:ah) (Z:TW) (h:Heap) (Y:B):Prop:=∀a cl,Y a=some cl→(∃o,h.get? a=some o∧eN c Z o cl)∧Z a=none∧c.H0.get? a=none
theorem Step.p9 (x:Step c s Z s' Z') (r:gj c Z s.heap Y):aN c Y s Z Y s' Z':=
 ⟨x.grow.1,fun a o J e=>x.grow.2 a o e,fun b o e h=>wS (x.grow.2 b o e) fun o' e' q=>⟨o',e',q.AV h⟩,x.top,x.le,fun a o e=>(x.ext.2 a o e).imp id .inr,x.sub,fun a h=>.inl h,fun a cl e=>by
  refine b4 (r a cl e) fun aG hz h0=>?_;refine wS aG fun o xz hc=>?_;refine wS (x.grow.2 _ _ xz) fun o' e' q=>?_;refine⟨⟨o',e',(hc.same q).mono x.le⟩,?_,h0⟩
  induction om:Z' a with
  |none=>rfl
  |some fZ=>
   rcases x.ext.2 a fZ om with e|e
   ·rw[hz]at e;cases e
   ·exact absurd (cE xz) (eB.mpr e),
  x.tok,x.rest⟩
theorem Step.after (x:Step c s Z s' Z') (r:bz c Z s.heap V O Y):aN c Y s Z Y s' Z':=x.p9 r.cells
theorem aN.trans (x:aN c Y s Z I s' Z') (y:aN c I s' Z' gK s'' eH):aN c Y s Z gK s'' eH:=by
 refine⟨Ev x.size y.size,fun a o ha e=>?_,fun b o e h=>wS (x.fields b o e h) fun o' e' h'=>y.fields b o' e' h',y.top,x.le.trans y.le,fun a o e=>?_,y.sub,fun a h=>?_,y.cells,Ev x.tok y.tok,?_⟩
 ·refine wS (x.keep a o ha e) fun o' e' q=>?_;have:I a=none:=by
   induction om:I a with
   |none=>rfl
   |some cl=>
    rcases x.ju a (by refine U om ?_;simp)with h|h
    ·exact absurd ha h
    ·exact absurd (cE e) (eB.mpr h)
  refine wS (y.keep a o' this e') fun pT yX q'=>?_;exact⟨pT,yX,q.trans q'⟩
 ·rcases y.ext a o e with h|h|h
  ·exact x.ext a o h
  ·exact .inr (x.ju a h)
  ·exact .inr (.inr (Ev x.size h))
 ·rcases y.ju a h with h|h
  ·exact x.ju a h
  ·exact .inr (Ev x.size h)
 ·refine fE (x.rest) fun h t s4=>?_;subst s4;refine fE (y.rest) fun h' t' s4=>?_;subst s4;exact⟨h',t',rfl⟩
theorem aN.ns (x:aN c Y s Z I s' Z') (ha:Y a=none) (y:s.heap.Ns a m):s'.heap.Ns a m:=by
 refine dS y fun o es ep xz hd r=>?_;refine wS (x.keep a o ha xz) fun o' e' s=>?_;exact uc o' es ep e' (s.data.trans hd) r
theorem aN.cell (x:aN c Y s Z I s' Z') (ha:Y a=none) (y:s.heap.IsCell a v):s'.heap.IsCell a v:=by
 refine wS y fun o xz hd=>?_;refine wS (x.keep a o ha xz) fun o' e' s=>?_;exact⟨o',e',s.data.trans hd⟩
theorem Ir {h:Heap} {a:Addr} {v:Option Value} (y:h.IsCell a v):a<h.objs.size:=wS y fun J xz J=>cE xz
theorem aN.afa (x:aN c Y s Z I s' Z') (own:lu Y s.heap V.locals∧∀n a,V.cells.lookup n=some a→lu Y s.heap a) (bL:jV c s.heap V n v k):jV c s'.heap V n v k:=by
 rcases k with _|_|_|_
 ·exact⟨bL.1,bL.2.imp fun J y=>⟨x.ns own.1.1 y.1,y.2⟩⟩
 ·exact⟨bL.1,bL.2.imp fun J y=>⟨y.1,x.cell (own.2 _ _ y.1).1 y.2⟩⟩
 ·exact⟨bL.1,bL.2.imp fun J y=>⟨y.1,x.cell (own.2 _ _ y.1).1 y.2⟩⟩
 ·exact bL
theorem aN.out (t:aN c Y s Z I s' Z') (h:lu Y s.heap a):lu I s'.heap a:=by
 refine⟨?_,fP h.2 t.size⟩
 induction q:I a with
 |none=>rfl
 |some cl=>
  rcases t.ju _ (by refine U q ?_;simp)with h'|h'
  ·exact absurd h.1 h'
  ·exact absurd h.2 (eB.mpr h')
theorem bz.step (x:bz c Z s.heap V O Y) (t:Step c s Z s' Z'):bz c Z' s'.heap V O Y:=by
 refine⟨x.fn,t.top,t.sub,fun v s5 d hd=>?_,(t.after x).cells,⟨(t.after x).out x.own.1,fun n a e=>(t.after x).out (x.own.2 n a e)⟩,x.glob⟩;refine wS (x.vars v s5 d hd) fun y h l=>?_;exact⟨y,h.mono t.le,l.grow t.grow⟩
theorem bz.after (x:bz c Z s.heap V O Y) (t:aN c Y s Z I s' Z'):bz c Z' s'.heap V O I:=by
 refine⟨x.fn,t.top,t.sub,fun v s5 d hd=>?_,t.cells,⟨t.out x.own.1,fun n a e=>t.out (x.own.2 n a e)⟩,x.glob⟩;refine wS (x.vars v s5 d hd) fun y h l=>?_;exact⟨y,h.mono t.le,t.afa x.own l⟩
theorem bz.start (x:bz c Z s.heap V O Y):Step c s Z s Z:=.refl x.top x.sub
structure Ok (c:ah) (k:Nat) (A:Around) (s:Shared):Prop where
 depth:A.depth+k<900
 units:A.units+60*k<9000
 frames:∃l,A.frames=some l∧s.heap.FunFrames c.H0 l∧A3 s.heap l∧∀L,c.fr=some L→∃qA l',l=qA::l'∧qA.frame=some L
 tok:c.T<s.toks
 hand:c.hd=false→A.handled=none
theorem Ok.grow (x:Ok c k A s) (g:gk s.heap s'.heap) (t:s.toks≤s'.toks):Ok c k A s':=⟨x.depth,x.units,d9 x.frames fun l a b d lk=>⟨l,a,g.frames b,fun f hf=>wS (d f hf) fun o e i=>wS (g.2 f o e) fun o' e' q=>⟨o',e',q.AV i⟩,lk⟩,fP x.tok t,x.hand⟩
theorem Ok.step (x:Ok c k A s) (t:Step c s Z s' Z'):Ok c k A s':=x.grow t.grow t.tok
theorem Ok.less (x:Ok c k A s) (hk:k'≤k):Ok c k' A s:=⟨by have:=x.depth;exact Zp ‹_› ‹_›,by have:=x.units;exact aaL ‹_› ‹_›,x.frames,x.tok,x.hand⟩
noncomputable def f8 (c:ah) (k:Nat) (O:XV) (Y:B) (e:Expr) (d:D):Prop:=
 ∀(A:Around) (V:Env) (s:Shared) (Z:TW),Ok c k A s→bz c Z s.heap V O Y→∀(Q:Value→Shared→Prop) (E:Value→Shared→Prop),
  (∀v s' Z',Step c s Z s' Z'→Tells Z' v d→Q v s')→wpAny c.M A (eval e V) Q E s
theorem U' (top:c.H0.StaysIn s.heap) (hk:V.scope.kind= .function) (bL:jV c s.heap V n x k) (h:Q x s):wpAny M A (loadName V n) Q E s:=by
 rcases k with _|_|_|_
 ·exact bL.2.elim fun m y=>wpAny_loadName_local hk bL.1 y.1 y.2 h
 ·exact bL.2.elim fun m y=>wpAny_loadName_cell hk bL.1 y.1 y.2 h
 ·exact bL.2.elim fun m y=>wpAny_loadName_cell hk bL.1 y.1 y.2 h
 ·have hx:wpAny M A (loadGlobal V n) Q E s:=
   bL.2.2.2.elim fun vD y=>y.elim fun lQ z=>z.2.2.elim (fun s5=>Calls.loadGlobal_global (bL.2.1▸z.1.keeps top) s5 h)
    fun s5=>Calls.loadGlobal_builtin (bL.2.1▸z.1.keeps top) s5.1 (bL.2.2.1▸z.2.1.keeps top) s5.2 h
  unfold loadName;simp only[Env.blockKind,hk,bL.1,ScopeKind.isAnnotationScope,Bool.false_and,j7,jE];exact hx
theorem f8.name (hm:⟨n,vk,some d⟩∈O) (hd:(n==("__debug__" :Str))=false:=by decide+kernel):f8 c k O Y (.Name n pos) d:=by
 intro A V s Z ok r Q E h;refine wS (r.vars _ hm d rfl) fun x t l=>?_;exact wpAny_Name (U' r.top r.fn l (h x s Z r.start t)) hd
noncomputable abbrev ah.re (c:ah) (hd:Bool) (T:Nat):ah:={c with hd:=hd,T:=T}
theorem Step.ng (x:Step (c.re hd T) s Z s' Z'):Step c s Z s' Z':=⟨x.grow,x.top,x.ext,x.sub,x.tok,x.rest⟩
theorem eN.re (h:eN c Z o cl):eN (c.re hd T) Z o cl:=h
theorem eN.ng (h:eN (c.re hd T) Z o cl):eN c Z o cl:=h
theorem jV.re (bL:jV c h V n x k):jV (c.re hd T) h V n x k:=bL
theorem jV.ng (bL:jV (c.re hd T) h V n x k):jV c h V n x k:=bL
theorem bz.re (x:bz c Z h V O Y):bz (c.re hd T) Z h V O Y:=
 ⟨x.fn,x.top,x.sub,fun v s5 d hd=>wS (x.vars v s5 d hd) fun y t l=>⟨y,t,l.re⟩,fun a cl e=>let⟨⟨o,xz,hc⟩,r⟩:=x.cells a cl e;⟨⟨o,xz,hc.re⟩,r⟩,x.own,x.glob⟩
theorem bz.ng (x:bz (c.re hd T) Z h V O Y):bz c Z h V O Y:=
 ⟨x.fn,x.top,x.sub,fun v s5 d hd=>wS (x.vars v s5 d hd) fun y t l=>⟨y,t,l.ng⟩,fun a cl e=>let⟨⟨o,xz,hc⟩,r⟩:=x.cells a cl e;⟨⟨o,xz,hc.ng⟩,r⟩,x.own,x.glob⟩
noncomputable abbrev ah.at (c:ah) (L:Addr):ah:={c with fr:=some L}
theorem eN.to (h:eN c Z o cl):eN (c.at L) Z o cl:=h
theorem eN.off (h:eN (c.at L) Z o cl):eN c Z o cl:=h
theorem BZ (kf p r m):bindL kf (p::r) m=bindL kf r (if kf p.1=some .local then fun y=>if y=p.1 then some p.2 else m y else m):=rfl
theorem BU (kf p r m):bindC kf (p::r) m=bindC kf r (if kf p.1=some .local then m else fun y=>if y=p.1 then some p.2 else m y):=rfl
theorem CH (n p r wP):cellsFrom n (p::r) wP=if p.2== .cell then cellsFrom (n+1) r ((p.1,n)::wP)else cellsFrom n r wP:=rfl
theorem ae2 (n wP):cellsFrom n [] wP=wP:=rfl
section
noncomputable abbrev Gives (c:ah) (s:Shared) (Z:TW) (d:D) (Q:Value→Shared→Prop):Prop:=∀v s' Z',Step c s Z s' Z'→Tells Z' v d→Q v s'
theorem Gives.of (g:Gives c s Z d Q) (t:Step c s Z s₁ aC):Gives c s₁ aC d Q:=fun v s' Z' t' h=>g v s' Z' (t.trans t') h
section
variable {c:ah} {k:Nat} {O:XV} {Y:B}
theorem f8.str:f8 c k O Y (.Constant (.str x) n pos) (.str x):=by
 intro A V s Z ok r Q E h;exact FJ (h _ _ Z (r.start.toks (b7 _)) (.str _ _))
theorem f8.int:f8 c k O Y (.Constant (.int i) n pos) (.int i):=by
 intro A V s Z ok r Q E h;exact wpAny_Constant_int (h _ _ Z (r.start.toks (b7 _)) (.int _ _))
theorem f8.none:f8 c k O Y (.Constant .none n pos) (.val .none):=by
 intro A V s Z ok r Q E h;exact On (h _ _ Z r.start (.val _))
theorem f8.bool:f8 c k O Y (.Constant (.bool b) n pos) (.val (.bool b)):=by
 intro A V s Z ok r Q E h;exact On (h _ _ Z r.start (.val _))
noncomputable def Rs (c:ah) (k:Nat) (O:XV) (Y:B) (t:Value→Value→Sem Value) (d₁ d₂ d:D):Prop:=
 ∀(A:Around) (V:Env) (s:Shared) (Z:TW) (bg bK:Value),Ok c k A s→bz c Z s.heap V O Y→Tells Z bg d₁→Tells Z bK d₂→∀(Q E:Value→Shared→Prop),Gives c s Z d Q→wpAny c.M A (t bg bK) Q E s
theorem f8.two (hl:f8 c k O Y l d₁) (hr:f8 c k O Y r d₂) (xz:Rs c k O Y t d₁ d₂ d)
 (ok:Ok c k A s) (x:bz c Z s.heap V O Y) (h:Gives c s Z d Q):
 wpAny c.M A (eval l V) (fun a s₁=>wpAny c.M A (eval r V) (fun b s₂=>wpAny c.M A (t a b) Q E s₂) E s₁) E s:=
 hl A V s Z ok x _ E fun bg s₁ aC EQ h₁=>hr A V s₁ aC (ok.step EQ) (x.step EQ) _ E fun bK s₂ bx t₂ h₂=>
  xz A V s₂ bx bg bK ((ok.step EQ).step t₂) ((x.step EQ).step t₂) (h₁.mono t₂.le) h₂ Q E ((h.of EQ).of t₂)
theorem f8.bin (hl:f8 c k O Y l d₁) (hr:f8 c k O Y r d₂) (xz:Rs c k O Y (binaryOp op) d₁ d₂ d):f8 c k O Y (.BinOp l op r pos) d:=
 fun A V s Z ok x Q E h=>wpAny_BinOp (f8.two hl hr xz ok x h)
theorem f8.cmp (hl:f8 c k O Y l d₁) (hr:f8 c k O Y r d₂) (xz:Rs c k O Y (compareOp op) d₁ d₂ d) (hm:behindInMarks op r=false:=by with_unfolding_all rfl):f8 c k O Y (.Compare l [op] [r] pos) d:=
 fun A V s Z ok x Q E h=>wpAny_Compare1 (f8.two hl hr xz ok x h) hm
noncomputable def di (c:ah) (k:Nat) (O:XV) (Y:B) (d:D) (b:Bool):Prop:=
 ∀(A:Around) (V:Env) (s:Shared) (Z:TW) (v:Value),Ok c k A s→bz c Z s.heap V O Y→Tells Z v d→∀(Q:Bool→Shared→Prop) (E:Value→Shared→Prop),(∀s' Z',Step c s Z s' Z'→Q b s')→wpAny c.M A (truthy v) Q E s
noncomputable def az (c:ah) (k:Nat) (O:XV) (Y:B) (e:Expr) (b:Bool):Prop:=
 ∀(A:Around) (V:Env) (s:Shared) (Z:TW),Ok c k A s→bz c Z s.heap V O Y→∀(Q:Bool→Shared→Prop) (E:Value→Shared→Prop),
  (∀s' Z',Step c s Z s' Z'→Q b s')→wpAny c.M A (isTrue e V (eval e V)) Q E s
theorem az.plain (he:f8 c k O Y e d) (FS:di c k O Y d b)
 (hi:∀V whole,isTrue e V whole=(do let v←whole;standAt e.pos;holding [v] (truthy v)):=by intros;rfl):az c k O Y e b:=by
 intro A V s Z ok r Q E h;rw[hi];refine u8 (he A V s Z ok r _ E fun v s₁ aC EQ h₁=>u8 (f6 (bW ?_)));exact FS A V s₁ aC v (ok.step EQ) (r.step EQ) h₁ Q E fun s' Z' t'=>h s' Z' (EQ.trans t')
theorem az.cmp (hl:f8 c k O Y l d₁) (hr:f8 c k O Y r d₂) (xz:Rs c k O Y (compareOp op) d₁ d₂ (.val (.bool b))) (hm:behindInMarks op r=false:=by with_unfolding_all rfl):az c k O Y (.Compare l [op] [r] pos) b:=
 fun A V s Z ok x Q E h=>Ex (f8.two hl hr (t:=fun a b=>compareOp op a b) xz ok x (Q:=fun v aF=>wpAny c.M A (truthy v) Q E aF) fun v s' Z' t s5=>by
  refine s5.v ?_;exact Al (h s' Z' t)) hm
theorem az.not (he:az c k O Y e b):az c k O Y (.UnaryOp .Not e pos) (!b):=
 fun A V s Z ok x Q E h=>isTrue_not (he A V s Z ok x _ E fun s' Z' t=>h s' Z' t)
theorem az.Lv:az c k O Y (.BoolOp .And [] pos) true:=fun J J s Z J x J J h=>isTrue_and_nil (h s Z x.start)
theorem az.yC:az c k O Y (.BoolOp .Or [] pos) false:=fun J J s Z J x J J h=>isTrue_or_nil (h s Z x.start)
theorem az.xO (he:az c k O Y e b) (hr:b=true→az c k O Y (.BoolOp .And es pos) b'):az c k O Y (.BoolOp .And (e::es) pos) (b&&b'):=by
 intro A V s Z ok x Q E h;show wpAny c.M A (allTrue .And (e::es) V) Q E s;refine u8 (m:=isTrue e V (eval e V)) (he A V s Z ok x _ E fun s' Z' t=>?_)
 induction b with
 |false=>exact On (h s' Z' t)
 |true=>exact hr rfl A V s' Z' (ok.step t) (x.step t) Q E fun s'' eH t'=>h s'' eH (t.trans t')
theorem az.q2 (he:az c k O Y e b) (hr:b=false→az c k O Y (.BoolOp .Or es pos) b'):az c k O Y (.BoolOp .Or (e::es) pos) (b||b'):=by
 intro A V s Z ok x Q E h;show wpAny c.M A (allTrue .Or (e::es) V) Q E s;refine u8 (m:=isTrue e V (eval e V)) (he A V s Z ok x _ E fun s' Z' t=>?_)
 induction b with
 |true=>exact On (h s' Z' t)
 |false=>exact hr rfl A V s' Z' (ok.step t) (x.step t) Q E fun s'' eH t'=>h s'' eH (t.trans t')
theorem f8.BE (h₁:f8 c k O Y lF d₁) (FS:di c k O Y d₁ b) (No:b=true→d=d₁) (M2:b=false→f8 c k O Y nM d):f8 c k O Y (.BoolOp .Or [lF,nM] pos) d:=by
 intro A V s Z ok x Q E h;show wpAny c.M A (do
  let v←eval lF V
  standAt pos
  let t←holding [v] (truthy v)
  match BoolOp.Or,t with
  | .And,false| .Or,true=>pure v
  |_,_=>eval nM V) Q E s
 refine u8 (h₁ A V s Z ok x _ E fun v s₁ aC EQ s5=>u8 (f6 (u8 (bW ?_))));refine FS A V s₁ aC v (ok.step EQ) (x.step EQ) s5 _ E fun s₂ bx t₂=>?_
 induction b with
 |true=>exact On (h v s₂ bx (EQ.trans t₂) ((No rfl)▸s5.mono t₂.le))
 |false=>exact M2 rfl A V s₂ bx ((ok.step EQ).step t₂) ((x.step EQ).step t₂) Q E ((Gives.of (c:=c) h EQ).of t₂)
theorem f8.I8 (FS:az c k O Y e b) (No:b=true→f8 c k O Y lF d) (M2:b=false→f8 c k O Y nM d):f8 c k O Y (.IfExp e lF nM pos) d:=by
 intro A V s Z ok x Q E h;show wpAny c.M A (do if←isTrue e V (eval e V)then eval lF V else eval nM V) Q E s;refine u8 (FS A V s Z ok x _ E fun s₁ aC EQ=>?_)
 induction b with
 |true=>exact No rfl A V s₁ aC (ok.step EQ) (x.step EQ) Q E (Gives.of (c:=c) h EQ)
 |false=>exact M2 rfl A V s₁ aC (ok.step EQ) (x.step EQ) Q E (Gives.of (c:=c) h EQ)
noncomputable def ie (c:ah) (k:Nat) (O:XV) (Y:B) (es:List Expr) (ds:List D):Prop:=
 ∀(A:Around) (V:Env) (s:Shared) (Z:TW) (pos:Pos),Ok c k A s→bz c Z s.heap V O Y→∀(Q:List Value→Shared→Prop) (E:Value→Shared→Prop),
  (∀H s' Z',Step c s Z s' Z'→au Z' H ds→Q H s')→wpAny c.M A (spliced (backTo pos (starEach es V))) Q E s
theorem ie.nil:ie c k O Y [] []:=fun J J s Z J J x J J h=>wK (h [] s Z x.start .nil)
theorem ie.cons (he:f8 c k O Y e d) (hr:ie c k O Y es ds)
 (hs:∀V,starEach (e::es) V=(false,eval e V)::starEach es V:=by intro;rfl):ie c k O Y (e::es) (d::ds):=by
 intro A V s Z pos ok x Q E h;rw[hs];show wpAny c.M A (spliced ((false,eval e V)::backTo pos (starEach es V))) Q E s;refine wO (he A V s Z ok x _ E fun v s₁ aC EQ s5=>hr A V s₁ aC pos (ok.step EQ) (x.step EQ) _ E fun H s₂ bx t₂ aZ=>?_);exact h _ s₂ bx (EQ.trans t₂) (.cons (s5.mono t₂.le) aZ)
theorem acR (x:Sub Z h) (t:Tells Z v (.list l)):∃a H,v= .ref a∧h.IsList a H.toArray∧au Z H l∧∃n,h.get? a=some {cls:=.type "list",data:=.seq H.toArray n}:=by
 refine t.l fun h hl=>?_;exact⟨_,_,rfl,⟨_,x.get h,rfl,_,by exact U xV rfl⟩,hl,_,by refine U xV ?_;exact x.get h⟩
theorem ZI (top:c.H0.StaysIn s.heap) (sub:Sub Z s.heap) (h:au Z H ds) (hz:ds.length≤sizeLine) (g:Gives c s Z (.list ds) Q):
 wpAny c.M A (newList H) Q E s:=by
 refine iL (g _ _ _ (Step.push top sub _ rfl (by simp)) (.list (TW.ai ..) ?_)) (by show H.toArray.size≤sizeLine;refine U jv (U h.length ?_);exact hz);exact h.mono (Step.push top sub _ rfl (by simp)).le
theorem Au (top:c.H0.StaysIn s.heap) (sub:Sub Z s.heap) (h:au Z H ds) (hz:ds.length≤sizeLine) (g:Gives c s Z (.tup ds) Q):
 wpAny c.M A (newTuple H) Q E s:=by
 refine iL (g _ _ _ (Step.push top sub _ rfl (by simp)) (.tup (TW.ai ..) ?_)) (by show H.toArray.size≤sizeLine;refine U jv (U h.length ?_);exact hz);exact h.mono (Step.push top sub _ rfl (by simp)).le
theorem f8.list (he:ie c k O Y es ds) (hz:ds.length≤1000:=by decide):f8 c k O Y (.List es pos) (.list ds):=by
 intro A V s Z ok x Q E h;refine List_ (he A V s Z pos ok x _ E fun H s₁ aC EQ s5=>ZI EQ.top EQ.sub s5 (by refine U cQ ?_;exact Ev ‹_› (by decide)) (Gives.of (c:=c) h EQ))
theorem f8.tuple (he:ie c k O Y es ds) (hz:ds.length≤1000:=by decide):f8 c k O Y (.Tuple es n pos) (.tup ds):=by
 intro A V s Z ok x Q E h;refine Tuple_ (he A V s Z pos ok x _ E fun H s₁ aC EQ s5=>Au EQ.top EQ.sub s5 (by refine U cQ ?_;lia) (Gives.of (c:=c) h EQ))
noncomputable def cg (c:ah) (k:Nat) (f:Value) (ds:List D) (d:D):Prop:=
 ∀(A:Around) (s:Shared) (Z:TW) (H:List Value),Ok c k A s→c.H0.StaysIn s.heap→Sub Z s.heap→au Z H ds→∀(Q E:Value→Shared→Prop),Gives c s Z d Q→wpAny c.M A (call f H) Q E s
noncomputable def Callee (c:ah) (f:Value):Prop:=(∀a,f≠ .ref a)∨∃a o fd,f= .ref a∧c.H0.get? a=some o∧o.data= .func fd
theorem adN (hf:Callee c f) (top:c.H0.StaysIn s.heap) (h:∀dI,dI= .frame∨dI= .machine→Q dI s):wpAny c.M A (keeperOf f) Q E s:=by
 rcases hf with hf|⟨a,o,fd,rfl,xz,hd⟩
 ·unfold keeperOf
  induction f with
  |ref a=>exact absurd rfl (hf a)
  |_=>exact On (h _ (.inr rfl))
 ·unfold keeperOf;refine u8 (kR (top _ _ xz) ?_);exact U hd (On (h _ (.inl rfl)))
theorem lR (hf:Callee c f)
 (h:wpAny c.M A (evalArgs f true args []) (fun a s₁=>c.H0.StaysIn s₁.heap∧wpAny c.M A (call f (first++a.pos) a.kw) Q E s₁) E s):wpAny c.M A (callWith pos f first args []) Q E s:=by
 delta callWith;refine u8 (bW (dQ h (fun a s₁ h₁=>u8 (f6 ?_)) fun J J x=>x));have tail:∀{t:Sem Value},wpAny c.M A t Q E s₁→wpAny c.M A (t>>=fun r=>holding [r] point>>=fun J=>pure r) Q E s₁:=
  fun FS=>u8 (dQ FS (fun r s₂ hr=>u8 (bW (yJ (On hr)))) fun J J x=>x)
 have mk:∀m,wpAny c.M A (callMarked m f (first++a.pos) a.kw) Q E s₁:=fun m=>by unfold callMarked;exact Calls.wpAny_keep h₁.2
 refine u8 (adN hf h₁.1 fun dI hk=>?_);have op:∀H,wpAny c.M A (operate H (call f (first++a.pos) a.kw)) Q E s₁:=fun H Γ p uW=>by rw[Sem.wp_operate];exact h₁.2 Γ p uW
 cases hs:(args.any Prod.fst||([]:List (Option Str×Sem Value)).any (fun x=>x.1.isNone))with
 |false=>
  rcases hk with rfl|rfl
  ·show wpAny c.M A (if args.length+2*([]:List (Option Str×Sem Value)).length>30 then(call f (first++a.pos) a.kw>>=fun r=>holding [r] point>>=fun J=>pure r)else(callMarked plainCall f (first++a.pos) a.kw>>=fun r=>holding [r] point>>=fun J=>pure r)) Q E s₁;split
   ·exact tail h₁.2
   ·exact tail (mk _)
  ·exact tail h₁.2
 |true=>
  rcases hk with rfl|rfl
  ·exact tail (mk _)
  ·exact tail (op _)
theorem nu (he:ie c k O Y es ds) (ok:Ok c k A s) (x:bz c Z s.heap V O Y)
 (hs:∀V,(starEach es V).all (fun y=>!y.1)=true) (h:∀H s' Z',Step c s Z s' Z'→au Z' H ds→Q ⟨H,[]⟩ s'):wpAny c.M A (evalArgs f true (backTo pos (starEach es V)) []) Q E s:=by
 have hp:=he A V s Z pos ok x (fun H s'=>Q ⟨H,[]⟩ s') E h;have hs:=hs V;revert hp hs;rcases Ch:starEach es V with _|⟨y,r⟩
 ·intro hp _;unfold evalArgs;show wpAny c.M A (spliced []>>=_) Q E s;refine u8 (dQ hp (fun H s' h'=>?_) fun J J x=>x);refine u8 (On ?_);exact bW (u8 (On (u8 (On (On h')))))
 ·obtain⟨b,t⟩:=y;intro hp hs;rcases b with _|_
  ·exact zx hp
  ·simp at hs
end
end
section
set_option tactic.hygienic true
structure cy (s s':Shared):Prop where
 toks:s.toks≤s'.toks
 size:s.heap.objs.size≤s'.heap.objs.size
theorem cy.refl (s):cy s s:=⟨aH _,aH _⟩
theorem cy.trans (x:cy s s') (y:cy s' s''):cy s s'':=⟨Ev x.toks y.toks,Ev x.size y.size⟩
theorem cy.update (x:cy {s with heap:=s.heap.update a f} s'):cy s s':=⟨x.toks,by have:=x.size;rw[yx]at this;exact this⟩
theorem cy.push (x:cy {s with heap:=s.heap.push o} s'):cy s s':=⟨x.toks,by have:=x.size;rw[eS]at this;exact gZ this⟩
theorem cy.fresh (x:cy {s with toks:=s.toks+1} s'):cy s s':=⟨gZ x.toks,x.size⟩
theorem cy.same (x:cy s₁ s') (h:s₁.heap=s.heap) (t:s₁.toks=s.toks):cy s s':=⟨t▸x.toks,h▸x.size⟩
theorem Ow (h:Runs M Γ p t fs s e s'):cy s s':=by
 induction h
 all_goals first
  |exact cy.refl _
  |assumption
  |exact cy.update ‹_›
  |exact cy.push ‹_›
  |exact cy.fresh ‹_›
  |(rename_i ih;exact cy.same ih rfl rfl)
  |exact cy.trans ‹_› ‹_›
  |(rename_i h1 h2;exact cy.trans (cy.same h1 rfl rfl) (cy.same h2 rfl rfl))
theorem Y_ (h:Returns M Γ p s r s'):cy s s':=Ow h
theorem aef (h:Wakes M Γ p g r s res s'):cy s s':=by
 unfold Wakes at h;split at h<;>(try split at h)<;>first|exact h.elim|(obtain⟨rfl,rfl⟩:=h;first|exact cy.refl _|exact cy.same (cy.refl _) rfl rfl)|(refine jJ h fun e s₁ hr J J s4=>?_;subst s4;exact cy.trans (cy.same (Ow hr) rfl rfl) (cy.same (cy.refl _) rfl rfl))
theorem UR {α:Type} (t:Sem α) {Q:α→Pos→Shared→Prop} {E:Value→Pos→Shared→Prop}:
 ∀{p:Pos} {s:Shared},cy s₀ s→Sem.wp M Γ t (fun a c6 s'=>cy s₀ s'→Q a c6 s') E p s→Sem.wp M Γ t Q E p s:=by
 induction t with
 |pure a=>intro p s M2 h;exact h M2
 |raise e=>intro p s M2 h;exact h
 |unsupported|finish|yield|fork|await|register=>intro p s M2 h;exact h
 |rule _ k ih|«at» _ k ih|loadIfAlive _ k ih|point _ k ih|ask k ih|os _ _ k ih|handled _ k ih|newGen _ k ih|stack k ih|thread k ih=>intro p s M2 h;exact ih _ (M2.trans (cy.same (cy.refl _) rfl rfl)) h
 |alloc o k ih=>intro p s M2 h;exact ih _ (M2.trans (cy.push (cy.refl _))) h
 |fresh k ih=>intro p s M2 h;exact ih _ (M2.trans (cy.fresh (cy.refl _))) h
 |load a _ k ih|genState a k ih=>intro p s M2 h;refine wS h fun o xz h=>?_;exact⟨o,xz,ih _ M2 h⟩
 |update a _ f k ih=>intro p s M2 h;exact⟨h.1,ih _ (M2.trans (cy.update (cy.refl _))) h.2⟩
 |choose _ _ k ih=>intro p s M2 h;exact⟨h.1,ih _ (M2.trans (cy.same (cy.refl _) rfl rfl)) h.2⟩
 |call c h g l k ih=>intro p s M2 ⟨r,s',hr,h⟩;exact pS r s' hr (ih r (M2.trans (Y_ hr)) h)
 |resume g r l k ih=>intro p s M2 ⟨res,s',hw,h⟩;exact pS res s' hw (ih _ (M2.trans (aef hw)) h)
theorem g9 {α:Type} {t:Sem α} {Q:α→Shared→Prop} {E:Value→Shared→Prop} (h:wpAny M A t (fun a s'=>cy s s'→Q a s') E s):wpAny M A t Q E s:=
 fun Γ p uW=>UR t (cy.refl _) (h Γ p uW)
end
section
section
variable {c:ah} {k:Nat} {O:XV} {Y:B}
theorem kF (g:Gives c s Z d Q) (top:c.H0.StaysIn s.heap) (sub:Sub Z s.heap) (h:Tells Z v d):Q v s:=g v s Z (.refl top sub) h
theorem gV (g:Gives c s Z d Q) (top:c.H0.StaysIn s.heap) (sub:Sub Z s.heap) (h:Tells Z v d) (FS:s.toks≤t):Q v {s with toks:=t}:=
 g v _ Z ((Step.refl top sub).toks FS) h
theorem Rs.qw (hz:x.length+y.length≤1000000):Rs c k O Y (binaryOp .Add) (.str x) (.str y) (.str (x++y)):=by
 intro A V s Z bg bK ok r h₁ h₂ Q E g;have top:=r.top;have sub:=r.sub;refine h₁.s fun J=>?_;refine h₂.s fun J=>?_;exact g9 (add_str (fun t' tk FS=>gV g top sub (.str _ _) FS.toks) (by refine U cQ ?_;exact Ev ‹_› (by decide)))
theorem Rs.eqStr:Rs c k O Y (compareOp .Eq) (.str x) (.str y) (.val (.bool (x==y))):=by
 intro A V s Z bg bK ok r h₁ h₂ Q E g;have top:=r.top;have sub:=r.sub;refine h₁.s fun J=>?_;refine h₂.s fun J=>?_;exact eq_str (kF g top sub (.val _))
theorem Rs.pU:Rs c k O Y (compareOp .NotEq) (.str x) (.str y) (.val (.bool (x !=y))):=by
 intro A V s Z bg bK ok r h₁ h₂ Q E g;have top:=r.top;have sub:=r.sub;refine h₁.s fun J=>?_;refine h₂.s fun J=>?_;exact ne_str (kF g top sub (.val _))
theorem Rs.addInt:Rs c k O Y (binaryOp .Add) (.int a) (.int b) (.int (a+b)):=by
 intro A V s Z bg bK ok r h₁ h₂ Q E g;have top:=r.top;have sub:=r.sub;refine h₁.i fun J=>?_;refine h₂.i fun J=>?_;exact add_int (gV g top sub (.int _ _) (b7 _))
theorem Rs.Po:Rs c k O Y (binaryOp .Sub) (.int a) (.int b) (.int (a-b)):=by
 intro A V s Z bg bK ok r h₁ h₂ Q E g;have top:=r.top;have sub:=r.sub;refine h₁.i fun J=>?_;refine h₂.i fun J=>?_;exact sub_int (gV g top sub (.int _ _) (b7 _))
theorem Rs.Om (hm:IntMulOk a b):Rs c k O Y (binaryOp .Mult) (.int a) (.int b) (.int (a*b)):=by
 intro A V s Z bg bK ok r h₁ h₂ Q E g;have top:=r.top;have sub:=r.sub;refine h₁.i fun J=>?_;refine h₂.i fun J=>?_;exact mul_int (gV g top sub (.int _ _) (b7 _)) hm
theorem Rs.tn (hb:b≠0):Rs c k O Y (binaryOp .Mod) (.int a) (.int b) (.int (a.fmod b)):=by
 intro A V s Z bg bK ok r h₁ h₂ Q E g;have top:=r.top;have sub:=r.sub;refine h₁.i fun J=>?_;refine h₂.i fun J=>?_;exact mod_int' hb (gV g top sub (.int _ _) (b7 _))
theorem Rs.divInt (hb:b≠0) (hp:Builtin.divisionGoesByPylong a b=false):Rs c k O Y (binaryOp .FloorDiv) (.int a) (.int b) (.int (a.fdiv b)):=by
 intro A V s Z bg bK ok r h₁ h₂ Q E g;have top:=r.top;have sub:=r.sub;refine h₁.i fun J=>?_;refine h₂.i fun J=>?_;exact floordiv_int hb (gV g top sub (.int _ _) (b7 _)) (.inl hp)
theorem Rs.P1:Rs c k O Y (compareOp .Eq) (.int a) (.int b) (.val (.bool (a==b))):=by
 intro A V s Z bg bK ok r h₁ h₂ Q E g;have top:=r.top;have sub:=r.sub;refine h₁.i fun J=>?_;refine h₂.i fun J=>?_;exact eq_int (kF g top sub (.val _))
theorem Rs.aeJ:Rs c k O Y (compareOp .NotEq) (.int a) (.int b) (.val (.bool (a !=b))):=by
 intro A V s Z bg bK ok r h₁ h₂ Q E g;have top:=r.top;have sub:=r.sub;refine h₁.i fun J=>?_;refine h₂.i fun J=>?_;exact ne_int (kF g top sub (.val _))
theorem Rs.aa9:Rs c k O Y (compareOp .Lt) (.int a) (.int b) (.val (.bool (decide (a<b)))):=by
 intro A V s Z bg bK ok r h₁ h₂ Q E g;have top:=r.top;have sub:=r.sub;refine h₁.i fun J=>?_;refine h₂.i fun J=>?_;exact lt_int (kF g top sub (.val _))
theorem di.bool:di c k O Y (.val (.bool b)) b:=by
 intro A V s Z v ok r h Q E g;have top:=r.top;have sub:=r.sub;exact h.v (Al (g s Z (.refl top sub)))
theorem di.none:di c k O Y (.val .none) false:=by
 intro A V s Z v ok r h Q E g;have top:=r.top;have sub:=r.sub;exact h.v (truthy_none (g s Z (.refl top sub)))
theorem di.str (hz:x.length≤1000000):di c k O Y (.str x) (x.length !=0):=by
 intro A V s Z v ok r h Q E g;have top:=r.top;have sub:=r.sub;refine h.s fun J=>?_;refine PySem.P.truthy_str (Int.not_le.2 (pn ‹_›)) ?_;have e:((x.length:Int) !=0)=(x.length !=0):=by
  rw[o5];simp
 exact U e (g _ Z ((Step.refl top sub).toks (bV _ 2)))
theorem di.list (hz:l.length≤1000000):di c k O Y (.list l) (!l.isEmpty):=by
 intro A V s Z v ok r h Q E g;have top:=r.top;have sub:=r.sub;refine jJ (acR sub h) fun a H s4 hl FS J=>?_;subst s4;have e:(!H.toArray.isEmpty)=(!l.isEmpty):=by
  have h1:=FS.length;cases H<;>cases l<;>simp_all
 refine EZ hl (by refine U jv (U FS.length ?_);exact pn ‹_›) ?_;exact U e (g _ Z ((Step.refl top sub).toks (bV _ 2)))
end
end
section
noncomputable def bZ (c:ah) (k:Nat) (O:XV) (Y:B) (f:Value) (ds:List D) (d:D):Prop:=
 ∀(A:Around) (V:Env) (s:Shared) (Z:TW) (H:List Value),Ok c k A s→bz c Z s.heap V O Y→au Z H ds→∀(Q E:Value→Shared→Prop),Gives c s Z d Q→wpAny c.M A (call f H) Q E s
theorem cg.r (h:cg c k f ds d):bZ c k O Y f ds d:=fun A V s Z H ok r t Q E g=>h A s Z H ok r.top r.sub t Q E g
theorem cg.less (h:cg c k f ds d) (hk:k≤k'):cg c k' f ds d:=fun A s Z H ok=>h A s Z H (ok.less hk)
noncomputable def kc (c:ah) (O:XV) (Y:B) (d:D) (T:String):Prop:=
 ∀(s:Shared) (V:Env) (Z:TW) (v:Value),bz c Z s.heap V O Y→Tells Z v d→s.TypeIs v T∧∀a,v= .ref a→∃o,s.heap.get? a=some o∧o.dict=none
section
variable {c:ah} {k:Nat} {O:XV} {Y:B}
theorem kc.str:kc c O Y (.str x) "str" :=fun s V Z v r h=>by
 refine h.s fun J=>?_;exact⟨wH _ _ _,fun J e=>(by injection e)⟩
theorem f8.call (hf:f8 c k O Y (.Name n p) (.val f)) (cl:Callee c f) (ha:ie c k O Y args ds) (hc:bZ c k O Y f ds d)
 (hs:∀V,(starEach args V).all (fun y=>!y.1)=true:=by intro;rfl):f8 c k O Y (.Call (.Name n p) args [] pos) d:=by
 intro A V s Z ok r Q E g;refine rq (hf A V s Z ok r _ E fun v s₁ aC EQ s5=>?_);refine s5.v ?_;show wpAny c.M A (callWith pos f [] (backTo pos (starEach args V)) []) Q E s₁;refine lR cl (nu ha (ok.step EQ) (r.step EQ) hs fun H s₂ bx t₂ aZ=>⟨t₂.top,?_⟩);exact hc A V s₂ bx H ((ok.step EQ).step t₂) ((r.step EQ).step t₂) aZ Q E ((Gives.of (c:=c) g EQ).of t₂)
theorem f8.m6 {o:Expr} {name:Str} {c5 pos:Pos} {args:List Expr} {ds:List D} {d₀ d:D} {T id:String} (xz:f8 c k O Y o d₀) (hT:kc c O Y d₀ T) (jh:PlainAttrs T) (slot:Slot T name id)
 (Ab:typeOf (.builtin id)=pure (.type "method_descriptor")) (ha:ie c k O Y args ds) (hc:bZ c k O Y (.builtin id) (d₀::ds) d)
 (fH:∀V,attributeBase o name V (eval o V)=eval o V:=by intro;rfl)
 (hs:∀V,(starEach args V).all (fun y=>!y.1)=true:=by intro;rfl)
 (uI:∀V,((backTo pos (starEach args V)).all (fun x=>!x.1)&&(backToKw pos (keywordEach [] V)).all (fun x=>x.1.isSome)
  &&decide (args.length+([]:List Keyword).length+(if([]:List Keyword).isEmpty then 0 else 1)<30))=true:=by intro;rfl)
 (fY:(c5.endLine==pos.line)=true:=by rfl):f8 c k O Y (.Call (.Attribute o name c5) args [] pos) d:=by
 intro A V s Z ok r Q E g;refine ya (fH V) (uI V) fY (xz A V s Z ok r _ E fun v s₁ aC EQ s5=>?_);refine Op (hT s₁ V aC v (r.step EQ) s5) fun h1 h2=>?_;refine z3 T id jh slot Ab h1 h2 ?_;refine lR (c:=c) (f:=.builtin id) (first:=[v]) (.inl fun a e=>(by injection e)) (nu ha (ok.step EQ) (r.step EQ) hs fun H s₂ bx t₂ aZ=>⟨t₂.top,?_⟩);exact hc A V s₂ bx (v::H) ((ok.step EQ).step t₂) ((r.step EQ).step t₂) (.cons (s5.mono t₂.le) aZ) Q E ((Gives.of (c:=c) g EQ).of t₂)
theorem iF (h:au Z H [d]):∃v,H=[v]∧Tells Z v d:=by
 refine h.c fun h₁ h=>?_;refine h.n ?_;exact⟨_,rfl,h₁⟩
theorem m8 (h:au Z H [d₁,d₂]):∃bg bK,H=[bg,bK]∧Tells Z bg d₁∧Tells Z bK d₂:=by
 refine h.c fun h₁ h=>?_;refine wS (iF h) fun v s4 h₂=>?_;subst s4;exact r9 _ _ rfl h₁ h₂
theorem cg.startswith:cg c k (.builtin "str.startswith") [.str x,.str y] (.val (.bool (Txt.startswith x y))):=by
 intro A s Z H ok top sub h Q E g;refine fB (m8 h) fun J J s4 h₁ h₂=>?_;subst s4;refine h₁.s fun J=>?_;refine h₂.s fun J=>?_;exact SC.startswith (kF g top sub (.val _))
theorem f8.startswith (xz:f8 c k O Y o (.str x)) (he:f8 c k O Y e (.str y))
 (fH:∀V,attributeBase o "startswith" V (eval o V)=eval o V:=by intro;rfl) (hs:∀V,starEach [e] V=[(false,eval e V)]:=by intro;rfl)
 (fY:(c5.endLine==pos.line)=true:=by rfl):f8 c k O Y (.Call (.Attribute o "startswith" c5) [e] [] pos) (.val (.bool (Txt.startswith x y))):=
 f8.m6 xz .str A7 F.slot_str_startswith F.type_str_startswith (.cons he .nil hs) cg.startswith.r fH (fun V=>by rw[hs];rfl) (fun V=>by rw[hs];rfl) fY
end
end
section
section
variable {M:Model} {A:Around} {E:Value→Shared→Prop} {s:Shared}
theorem SM (Γ) (p) {m} (M2:s.heap.Ns a m) (name) (v) (Q:Unit→Pos→Shared→Prop) (E:Value→Pos→Shared→Prop)
 (qL:∀h',h'.Ns a (fun x=>if x=name then some v else m x)→Heap.SameBut a s.heap h'→(∀o,s.heap.get? a=some o→∃o',h'.get? a=some o'∧o'.cls=o.cls)→
  Q () p {s with heap:=h',toks:=s.toks+1}):Sem.wp M Γ (nsSet a name v) Q E p s:=by
 refine uh M2 fun o es ep xz hd hk hm=>?_;simp only[nsSet,strHash,Sem.wp_bind',Sem.wp_cmd_ask,Sem.wp_pure',Sem.wp_cmd_mkText];rw[Sem.wp_loadPart_of M Γ E p {s with toks:=s.toks+1} (o:=o) _ xz];have yh:es.any (fun x=>x.refKey)=false:=by
  rw[Array.any_eq_false'];intro e he;refine fE (hk e he) fun n t h=>?_;simp[DictEntry.refKey,h]
 simp only[hd,aRefKeyMayBeTheName_eq,aRefKeyMayBeTheNameByArray,yh,JF,j7,jE,Sem.wp_cmd_updatePart];refine⟨by refine U xz ?_;rfl,qL _ ?_ (mK ..) ?_⟩
 ·obtain⟨c,d,Uw,bS⟩:=o;subst hd;rcases hi:es.findIdx? (fun x=>x.key.isStr name)with _|i
  ·refine Fe _ _ (ep+1) (kD _ xz (by simp only[sA,Obj.putNameByArray,hi];rfl)) (by simp only[sA,Obj.putNameByArray,hi];rfl) (hk.push _ _ _ _) (fun x=>?_);show _=if x=name then some v else m x
   rw[←hm];exact findBy_push (fun n v=>v.isStr n) es name x _ _ v (fun y=>by
    show(name==y)=decide (y=name);by_cases h:y=name
    ·subst h;simp
    ·have:¬name=y:=fun e=>h e.symm;simp[h,this]) hi
  ·refine Fe _ _ ep (kD _ xz (by simp only[sA,Obj.putNameByArray,hi];rfl)) (by simp only[sA,Obj.putNameByArray,hi];rfl) (hk.modify _ _) (fun x=>?_);show _=if x=name then some v else m x
   rw[←hm];exact findBy_modify (fun n v=>v.isStr n) Value.isStr_inj es name x v i hi
 ·intro o' bG;rw[xz]at bG;obtain rfl:=bf bG;obtain⟨c,d,Uw,bS⟩:=o;subst hd;rcases hi:es.findIdx? (fun x=>x.key.isStr name)with _|i
  ·exact⟨_,kD _ xz (by simp only[sA,Obj.putNameByArray,hi];rfl),by simp only[sA,Obj.putNameByArray,hi]⟩
  ·exact⟨_,kD _ xz (by simp only[sA,Obj.putNameByArray,hi];rfl),by simp only[sA,Obj.putNameByArray,hi]⟩
theorem Lu {m} (hl:V.kindOf name=some .local)
 (M2:s.heap.Ns V.locals m)
 (h:∀h',h'.Ns V.locals (fun x=>if x=name then some v else m x)→Heap.SameBut V.locals s.heap h'→(∀o,s.heap.get? V.locals=some o→∃o',h'.get? V.locals=some o'∧o'.cls=o.cls)→
  Q () {s with heap:=h',toks:=s.toks+1})
 (hp:(V.scope.kind== .class||(V.scope.kind== .module&&V.locals !=V.globals))=false:=by rfl):wpAny M A (storeName V name v) Q E s:=by
 rw[storeName_local hl hp];exact fun Γ p J=>SM Γ p M2 name v _ _ h
end
structure uR (s₀:Shared) (L:Addr) (m:Str→Option Value) (cs:List (Str×Addr)) (nN:Str→Option Value) (s:Shared):Prop where
 to:InCallC s₀ L m cs nN s
 fr:∃o,s.heap.get? L=some o∧o.cls= .type "frame"
section
variable {M:Model} {A:Around} {E:Value→Shared→Prop} {s₀ s:Shared} {m nN:Str→Option Value} {V:Env}
theorem adp (y:uR s₀ V.locals m V.cells nN s) (hk:V.scope.kind= .function) (hl:V.kindOf n=some .local)
 (h:∀s',uR s₀ V.locals (fun y=>if y=n then some v else m y) V.cells nN s'→Q () s'):wpAny M A (storeName V n v) Q E s:=by
 obtain⟨x,o,xz,hc⟩:=y;refine Lu hl x.toInCall.ns (fun h' gM c8 ez=>h _ ⟨⟨⟨?_,gM,fun b o e=>?_,x.toInCall.fresh⟩,fun k c hc=>?_,x.apart,x.above⟩,?_⟩) (by refine U hk ?_;rfl)
 ·refine fE (x.toInCall.same) fun h₁ tk s4=>?_;subst s4;exact⟨h',_,rfl⟩
 ·exact c8.extBut b o (fm (fP (cE e) x.toInCall.fresh)) (x.toInCall.keep b o e)
 ·exact(x.cell k c hc).sameBut c8 (g_ (x.above k c (mem_of_lookup hc)))
 ·refine wS (ez o xz) fun o' e' q=>?_;exact⟨o',e',q.trans hc⟩
theorem Ue (y:uR s₀ V.locals m V.cells nN s) (hk:V.scope.kind= .function) (hl:V.kindOf n=some .cell)
 (hc:V.cells.lookup n=some c)
 (h:∀s',uR s₀ V.locals m V.cells (fun y=>if y=n then some v else nN y) s'→Q () s'):wpAny M A (storeName V n v) Q E s:=by
 obtain⟨x,o,xz,ez⟩:=y;have xJ:=x.above n c (mem_of_lookup hc);refine wpAny_storeName_cell hk hl hc (x.cell n c hc) fun h' i6 c8=>h _ ⟨⟨⟨?_,x.toInCall.ns.sameBut c8 (fm xJ),fun b o e=>?_,x.toInCall.fresh⟩,fun k nF hk'=>?_,x.apart,x.above⟩,⟨o,(c8.2 _ (fm xJ)).trans xz,ez⟩⟩
 ·refine fE (x.toInCall.same) fun h₁ tk s4=>?_;subst s4;exact⟨h',_,rfl⟩
 ·exact c8.extBut b o (fm (Nat.lt_trans (fP (cE e) x.toInCall.fresh) xJ)) (x.toInCall.keep b o e)
 ·by_cases IV:k=n
  ·subst IV;rw[hc]at hk';obtain rfl:=bf hk';simpa using i6
  ·exact U (Tk IV) ((x.cell k nF hk').sameBut c8 fun e=>IV (AJ x.apart (mem_of_lookup hk') (e▸mem_of_lookup hc)))
theorem GC (f:Str×Value→PUnit→Sem (ForInStep PUnit)) (hf:∀n v u,f (n,v) u=(do storeName V n v;pure (.yield ⟨⟩))) (hk:V.scope.kind= .function):
 ∀(binds) (m nN:Str→Option Value) (s) (Q:PUnit→Shared→Prop),uR s₀ V.locals m V.cells nN s→
  (∀x∈binds,V.kindOf x.1=some .local∨(V.kindOf x.1=some .cell∧(V.cells.lookup x.1).isSome=true))→
  (∀s',uR s₀ V.locals (bindL V.kindOf binds m) V.cells (bindC V.kindOf binds nN) s'→Q ⟨⟩ s')→wpAny M A (forIn binds ⟨⟩ f) Q E s
 |[],m,nN,s,Q,x,_,h=>by refine U A0 ?_;exact On (h s x)
 |(n,v)::r,m,nN,s,Q,x,vY,h=>by
  rw[pH,hf];have hr:∀y∈r,V.kindOf y.1=some .local∨(V.kindOf y.1=some .cell∧(V.cells.lookup y.1).isSome=true):=fun y No=>vY y (List.mem_cons_of_mem _ No);rcases vY (n,v) D0 with hl|⟨hl,hc⟩
  ·refine u8 (u8 (adp x hk hl fun s' mU=>On (GC f hf hk r _ _ s' Q mU hr fun s'' IZ=>h s'' ?_)));rw[BZ,BU];refine U (ak hl) (U (ak hl) ?_);exact IZ
  ·obtain⟨c,hc⟩:=xe.mp hc;have hnl:¬V.kindOf n=some .local:=by refine U hl ?_;decide
   refine u8 (u8 (Ue x hk hl hc fun s' mU=>On (GC f hf hk r _ _ s' Q mU hr fun s'' IZ=>h s'' ?_)));rw[BZ,BU];refine U (Tk hnl) (U (Tk hnl) ?_);exact IZ
theorem Na {scope:Scope} {globals:Addr} {binds:List (Str×Value)} {qual:Str} {func:Option Addr} {code:Value} {builtins:Addr} {Q:Env→Shared→Prop}
 (hk:scope.kind= .function)
 (vY:∀x∈binds,scope.names.lookup x.1=some .local∨(scope.names.lookup x.1=some .cell∧((cellsFrom (s.heap.objs.size+1) scope.names []).lookup x.1).isSome=true))
 (qL:∀V,V=newEnv scope s.heap.objs.size globals (cellsFrom (s.heap.objs.size+1) scope.names []) qual func code none builtins→
  ∀s',uR s V.locals (bindL V.kindOf binds fun J=>none) V.cells (bindC V.kindOf binds fun J=>none) s'→Q V s'):
 wpAny M A (newFunctionEnv scope globals [] binds qual func code none builtins) Q E s:=by
 simp only[newFunctionEnv,Option.isSome_none,j7,jE];refine u8 (wpAny_alloc ?_);refine u8 (wpAny_layCells _ (fun name kind cells=>by cases JG:kind==NameKind.cell<;>simp[JG]) _ _ _ _ ?_);have ok:=cellsFrom_ok scope.names (s.heap.push {cls:=.type "frame",data:=.dict #[]}) (s.heap.objs.size+1) [] ⟨fun J J hm=>(nomatch hm),List.Pairwise.nil⟩ (by rw[eS];exact aH _);rw[eS]at ok;refine U (show({s with heap:=s.heap.push {cls:=.type "frame",data:=.dict #[]}}:Shared).heap.objs.size=s.heap.objs.size+1 from eS ..) ?_;refine u8 (GC (s₀:=s) (V:=newEnv scope s.heap.objs.size globals (cellsFrom (s.heap.objs.size+1) scope.names []) qual func code none builtins)
  _ (fun J J J=>rfl) hk binds (fun J=>none) (fun J=>none) _ _
  ⟨⟨⟨⟨_,_,rfl⟩,(Heap.Ns.new s.heap (.type "frame")).keeps (u_ _ _),fun b o e=>u_ _ _ b o (bX _ e),aH _⟩,
   fun n c hc=>(ok.empty n c (mem_of_lookup hc)).1,ok.apart,fun n c hm=>(ok.empty n c hm).2⟩,⟨_,u_ _ _ _ _ (dN _ rfl),rfl⟩⟩
  vY fun s' x=>On (qL _ rfl s' x))
end
end
@[elab_as_elim] theorem bC {α:Type _} {a b:α} {l:List α} {P:α→Prop} (h:a∈b::l) (k:P b) (k':a∈l→P a):P a:=by
 rcases aY.mp h with rfl|h
 ·exact k
 ·exact k' h
theorem rB {α:Type _} {a b:α} {l:List α} {P:Prop} (h:a∈b::l) (k:a=b→P) (k':a∈l→P):P:=(aY.mp h).elim k k'
theorem iZ {α:Type} {P:List α→Prop} (h:∀a,P [a]) (H:List α) (e:H.length=1):P H:=by
 rcases H with _|⟨a,_|⟨b,r⟩⟩
 ·injection e
 ·exact h a
 ·injection e with e;exact absurd e (Nat.succ_ne_zero r.length)
theorem sr {α:Type} {P:List α→Prop} (h:∀a b,P [a,b]) (H:List α) (e:H.length=2):P H:=by
 rcases H with _|⟨a,r⟩
 ·injection e
 ·injection e with e;exact iZ (P:=fun r=>P (a::r)) (h a) r e
theorem O3 {α:Type} {P:List α→Prop} (h:∀a b d,P [a,b,d]) (H:List α) (e:H.length=3):P H:=by
 rcases H with _|⟨a,r⟩
 ·injection e
 ·injection e with e;exact sr (P:=fun r=>P (a::r)) (h a) r e
theorem WX {α:Type} {P:List α→Prop} (h:∀a b d e,P [a,b,d,e]) (H:List α) (e:H.length=4):P H:=by
 rcases H with _|⟨a,r⟩
 ·injection e
 ·injection e with e;exact O3 (P:=fun r=>P (a::r)) (h a) r e
section
structure ki (s s':Shared):Prop where
 frames:∀b o,s.heap.get? b=some o→j0 o→∃o',s'.heap.get? b=some o'∧j0 o'
 size:s.heap.objs.size≤s'.heap.objs.size
 tok:s.toks≤s'.toks
 rest:∃h t,s'={s with heap:=h,toks:=t}
theorem ki.refl (s):ki s s:=⟨fun J o e h=>⟨o,e,h⟩,aH _,aH _,⟨_,_,rfl⟩⟩
theorem ki.trans (x:ki s s') (y:ki s' s''):ki s s'':=by
 refine⟨fun b o e h=>wS (x.frames b o e h) fun o' e' h'=>y.frames b o' e' h',Ev x.size y.size,Ev x.tok y.tok,?_⟩;refine fE (x.rest) fun h t s4=>?_;subst s4;refine fE (y.rest) fun h' t' s4=>?_;subst s4;exact⟨h',t',rfl⟩
theorem Step.af (x:Step c s Z s' Z'):ki s s':=
 ⟨fun b o e h=>wS (x.grow.2 b o e) fun o' e' q=>⟨o',e',q.AV h⟩,x.grow.1,x.tok,x.rest⟩
theorem ZW (x:ki s s') (h:A3 s.heap l):A3 s'.heap l:=fun b hb=>wS (h b hb) fun o e i=>x.frames b o e i
theorem M5 (x:ki s s'):∀{l:List Env},A3 s.heap l→s.heap.FunFrames base l→s'.heap.FunFrames base l
 |[],_,_=>trivial
 |V::l,f,⟨hk,⟨L,o,hf,M2,xz,hd⟩,hr⟩=>by
  have f1:∃o,s.heap.get? L=some o∧j0 o:=f L (by refine U C5 (U hf ?_);exact .head _);refine wS f1 fun bR e1 i1=>?_;refine wS (x.frames L bR e1 i1) fun o' e' h'=>?_;exact⟨hk,⟨L,o',hf,M2,e',h'.qX⟩,M5 x (fun b hb=>f b (by refine U C5 (U hf ?_);exact .tail _ hb)) hr⟩
theorem Ok.af (x:Ok c k A s) (m:ki s s'):Ok c k A s':=
 ⟨x.depth,x.units,d9 x.frames fun l a b d lk=>⟨l,a,M5 m d b,ZW m d,lk⟩,fP x.tok m.tok,x.hand⟩
structure bu (c:ah) (bs Z:TW) (h:Heap) (V:Env) (O:XV) (Y:B):Prop where
 rd:bz c Z h V O Y
 keep:∀a o,bs a=some o→∃o',h.get? a=some o'∧i7 o o'
 names:(O.map (fun x=>x.name)).Nodup
 ns:∃m,h.Ns V.locals m
 iB:bs V.locals=none∧Z V.locals=none∧c.H0.get? V.locals=none
 locs:∀v∈O,v.kind= .loc→V.kindOf v.name=some .local
 kq:∀v∈O,v.kind= .aL→V.kindOf v.name=some .cell∧∃a x,V.cells.lookup v.name=some a∧h.IsCell a x∧bs a=none∧Z a=none∧c.H0.get? a=none∧a≠V.locals
 apart:∀v∈O,∀v'∈O,v.kind= .aL→v'.kind= .aL→v.name≠v'.name→V.cells.lookup v.name≠V.cells.lookup v'.name
 caps:∀v∈O,v.kind= .gn→∃a o x,V.cells.lookup v.name=some a∧bs a=some o∧o.data= .cell x
 mem:∀a,Y a≠none→bs a=none
theorem aN.CP (t:aN c Y s Z I s' Z') (ha:Z a=none) (hm:Y a=none) (hl:a<s.heap.objs.size):Z' a=none:=by
 induction q:Z' a with
 |none=>rfl
 |some o=>
  rcases t.ext a o q with e|e|e
  ·rw[ha]at e;injection e
  ·exact absurd hm e
  ·exact absurd hl (eB.mpr e)
theorem bu.lt (w:bu c bs Z h V O Y) (e:bs b=some j4):b<h.objs.size:=wS (w.keep b j4 e) fun J e' J=>cE e'
theorem bu.J_ (w:bu c bs Z h V O Y) (e:bs b=some j4):Y b=none:=by
 induction q:Y b with
 |none=>rfl
 |some cl=>have:=w.mem b (by refine U q ?_;simp);rw[this]at e;injection e
theorem bu.after (x:bu c bs Z s.heap V O Y) (t:aN c Y s Z I s' Z'):bu c bs Z' s'.heap V O I:=by
 refine⟨x.rd.after t,fun a o e=>?_,x.names,?_,⟨x.iB.1,?_,x.iB.2.2⟩,x.locs,fun v s5 hk=>?_,x.apart,x.caps,fun a ha=>?_⟩
 ·refine wS (x.keep a o e) fun o' e' q=>?_;refine wS (t.keep a o' (x.J_ e) e') fun pT yX q'=>?_;exact⟨pT,yX,q.trans q'⟩
 ·refine aO (x.ns) fun m h=>?_;exact⟨m,t.ns x.rd.own.1.1 h⟩
 ·exact t.CP x.iB.2.1 x.rd.own.1.1 x.rd.own.1.2
 ·refine Op (x.kq v s5 hk) fun h1 Vb=>wh Vb fun a y h2 h3 h4 h5 h6=>?_;have o:=x.rd.own.2 _ _ h2;exact⟨h1,a,y,h2,t.cell o.1 h3,h4,t.CP h5 o.1 o.2,h6⟩
 ·rcases t.ju a ha with h|h
  ·exact x.mem a h
  ·induction q:bs a with
   |none=>rfl
   |some o=>exact absurd (x.lt q) (eB.mpr h)
theorem bu.step (x:bu c base Z s.heap V O Y) (t:Step c s Z s' Z'):bu c base Z' s'.heap V O Y:=x.after (t.after x.rd)
theorem bu.re (x:bu c bs Z h V O Y):bu (c.re hd T) bs Z h V O Y:=⟨x.rd.re,x.keep,x.names,x.ns,x.iB,x.locs,x.kq,x.apart,x.caps,x.mem⟩
theorem bu.ng (x:bu (c.re hd T) bs Z h V O Y):bu c bs Z h V O Y:=⟨x.rd.ng,x.keep,x.names,x.ns,x.iB,x.locs,x.kq,x.apart,x.caps,x.mem⟩
structure Run (Y:B) (s:Shared) (Z:TW) (I:B) (s':Shared) (Z':TW):Prop where
 af:ki s s'
 le:fK Z Z'
 ext:∀a o,Z' a=some o→Z a=some o∨Y a≠none∨s.heap.objs.size≤a
 ju:∀a,I a≠none→Y a≠none∨s.heap.objs.size≤a
theorem Run.refl (Y) (s) (Z):Run Y s Z Y s Z:=⟨.refl s,.refl Z,fun J J h=>.inl h,fun J h=>.inl h⟩
theorem Run.trans (x:Run Y s Z I s' Z') (y:Run I s' Z' gK s'' eH):Run Y s Z gK s'' eH:=by
 refine⟨x.af.trans y.af,x.le.trans y.le,fun a o e=>?_,fun a h=>?_⟩
 ·rcases y.ext a o e with h|h|h
  ·exact x.ext a o h
  ·exact .inr (x.ju a h)
  ·exact .inr (.inr (Ev x.af.size h))
 ·rcases y.ju a h with h|h
  ·exact x.ju a h
  ·exact .inr (Ev x.af.size h)
theorem aN.af (t:aN c Y s Z I s' Z'):ki s s':=⟨t.fields,t.size,t.tok,t.rest⟩
theorem aN.run (t:aN c Y s Z I s' Z'):Run Y s Z I s' Z':=⟨t.af,t.le,t.ext,t.ju⟩
theorem Step.run (x:Step c s Z s' Z') (Y):Run Y s Z Y s' Z':=⟨x.af,x.le,fun a o e=>(x.ext.2 a o e).imp id .inr,fun J h=>.inl h⟩
theorem Run.CP (t:Run Y s Z I s' Z') (ha:Z a=none) (hm:Y a=none) (hl:a<s.heap.objs.size):Z' a=none:=by
 induction q:Z' a with
 |none=>rfl
 |some o=>
  rcases t.ext a o q with e|e|e
  ·rw[ha]at e;injection e
  ·exact absurd hm e
  ·exact absurd hl (eB.mpr e)
theorem Ok.after (x:Ok c k A s) (t:aN c Y s Z I s' Z'):Ok c k A s':=x.af t.af
inductive fy where
 |next (O:XV) (Y:B)
 |brk (O:XV) (Y:B)
 |cont (O:XV) (Y:B)
 |ret (d:D) (O:XV) (Y:B)
noncomputable def fy.O:fy→XV
 | .next O _| .brk O _| .cont O _| .ret _ O _=>O
noncomputable def fy.Y:fy→B
 | .next _ Y| .brk _ Y| .cont _ Y| .ret _ _ Y=>Y
inductive xU (Z:TW):Flow→fy→Prop
 |next {O:XV} {Y:B}:xU Z .next (.next O Y)
 |brk {O:XV} {Y:B}:xU Z .brk (.brk O Y)
 |cont {O:XV} {Y:B}:xU Z .cont (.cont O Y)
 |ret {v:Value} {d:D} {O:XV} {Y:B}:Tells Z v d→xU Z (.ret v) (.ret d O Y)
noncomputable abbrev Ends (c:ah) (base:TW) (V:Env) (Y:B) (s:Shared) (Z:TW) (Sc:fy→Prop) (Q:Flow→Shared→Prop):Prop:=
 ∀o f s' Z',Run Y s Z o.Y s' Z'→bu c base Z' s'.heap V o.O o.Y→xU Z' f o→Sc o→Q f s'
theorem Ends.of (x:Ends c base V Y s Z Sc Q) (m:Run Y s Z gm s₁ aC):Ends c base V gm s₁ aC Sc Q:=
 fun o f s' Z' m' w dz h=>x o f s' Z' (m.trans m') w dz h
noncomputable def aE (c:ah) (k:Nat) (O:XV) (Y:B) (e:Expr) (Sc:D→B→Prop):Prop:=
 ∀(A:Around) (V:Env) (s:Shared) (Z:TW),Ok c k A s→bz c Z s.heap V O Y→∀(Q:Value→Shared→Prop) (E:Value→Shared→Prop),
  (∀d I v s' Z',aN c Y s Z I s' Z'→Tells Z' v d→Sc d I→Q v s')→wpAny c.M A (eval e V) Q E s
theorem aE.nH (h:f8 c k O Y e d) (Ch:Sc d Y):aE c k O Y e Sc:=
 fun A V s Z ok r Q E q=>h A V s Z ok r Q E fun v s' Z' t s5=>q d Y v s' Z' (t.after r) s5 Ch
noncomputable def FM (c:ah) (k:Nat) (O:XV) (Y:B) (st:Stmt) (Sc:fy→Prop):Prop:=
 ∀(A:Around) (V:Env) (s:Shared) (base Z:TW),Ok c k A s→bu c base Z s.heap V O Y→∀(Q:Flow→Shared→Prop) (E:Value→Shared→Prop),Ends c base V Y s Z Sc Q→wpAny c.M A (exec st V) Q E s
noncomputable def wE (c:ah) (k:Nat) (O:XV) (Y:B) (F8:List Stmt) (Sc:fy→Prop):Prop:=
 ∀(A:Around) (V:Env) (s:Shared) (base Z:TW),Ok c k A s→bu c base Z s.heap V O Y→∀(Q:Flow→Shared→Prop) (E:Value→Shared→Prop),Ends c base V Y s Z Sc Q→wpAny c.M A (execs F8 V) Q E s
noncomputable abbrev RY (c:ah) (k:Nat) (rest:List Stmt) (Sc:fy→Prop):fy→Prop
 | .next O Y=>wE c k O Y rest Sc
 | .brk O Y=>Sc (.brk O Y)
 | .cont O Y=>Sc (.cont O Y)
 | .ret d O Y=>Sc (.ret d O Y)
noncomputable abbrev JH (F:D→B→Prop):fy→Prop
 | .ret d _ Y=>F d Y
 | .next _ Y=>F (.val .none) Y
 |_=>False
noncomputable abbrev pL (x:D):fy→Prop
 | .ret d _ _=>d=x
 | .next _ _=>x= .val .none
 |_=>False
noncomputable abbrev ux (F:D→B→Prop):fy→Prop
 | .ret d _ Y=>F d Y
 |_=>False
noncomputable abbrev adT (br:XV→B→Prop):fy→Prop
 | .next O Y=>br O Y
 |_=>False
noncomputable abbrev EW (br:XV→B→Prop) (Sc:fy→Prop):fy→Prop
 | .next O Y=>br O Y
 | .ret d O Y=>Sc (.ret d O Y)
 |_=>False
noncomputable abbrev EF (br:XV→B→Prop) (Sc:fy→Prop):fy→Prop
 | .next O Y=>br O Y
 | .cont O Y=>br O Y
 | .brk O Y=>Sc (.next O Y)
 | .ret d O Y=>Sc (.ret d O Y)
section
variable {c:ah} {k:Nat} {O:XV} {Y:B} {Sc:fy→Prop}
theorem wE.nil (h:Sc (.next O Y)):wE c k O Y [] Sc:=fun A V s base Z ok w Q E q=>wpAny_execs_nil (q (.next O Y) .next s Z (.refl ..) w .next h)
theorem wE.cons {st:Stmt} {rest:List Stmt} (h:FM c k O Y st (RY c k rest Sc)):wE c k O Y (st::rest) Sc:=by
 intro A V s base Z ok w Q E q;refine AK (h A V s base Z ok w _ E fun o f s' Z' m cP dz xz=>?_)
 induction dz with
 |next=>exact xz A V s' base Z' (ok.af m.af) cP Q E (Ends.of (c:=c) q m)
 |brk=>exact q _ _ s' Z' m cP .brk xz
 |cont=>exact q _ _ s' Z' m cP .cont xz
 |ret t=>exact q _ _ s' Z' m cP (.ret t) xz
theorem FM.I4 (he:aE c k O Y e fun d I=>Sc (.ret d O I)):FM c k O Y (.Return (some e) pos) Sc:=by
 intro A V s base Z ok w Q E q;exact E7 (he A V s Z ok w.rd _ E fun d I v s' Z' t s5 h=>q (.ret d O I) _ s' Z' t.run (w.after t) (.ret s5) h)
theorem FM.ret (he:f8 c k O Y e d) (h:Sc (.ret d O Y)):FM c k O Y (.Return (some e) pos) Sc:=by
 exact FM.I4 (.nH he h)
theorem FM.ifs (FS:az c k O Y e b) (No:b=true→wE c k O Y ug Sc) (M2:b=false→wE c k O Y tg Sc):FM c k O Y (.If e ug tg pos) Sc:=by
 intro A V s base Z ok w Q E q;refine wpAny_If (FS A V s Z ok w.rd _ E fun s' Z' t=>?_)
 induction b with
 |true=>exact No rfl A V s' base Z' (ok.step t) (w.step t) Q E (Ends.of (c:=c) q (t.run Y))
 |false=>exact M2 rfl A V s' base Z' (ok.step t) (w.step t) Q E (Ends.of (c:=c) q (t.run Y))
theorem FM.brk (h:Sc (.brk O Y)):FM c k O Y (.Break pos) Sc:=fun A V s base Z ok w Q E q=>u8 (f6 (On (q (.brk O Y) .brk s Z (.refl ..) w .brk h)))
theorem FM.cont (h:Sc (.cont O Y)):FM c k O Y (.Continue pos) Sc:=fun A V s base Z ok w Q E q=>u8 (f6 (On (q (.cont O Y) .cont s Z (.refl ..) w .cont h)))
inductive dU (n:Str) (d:D):XV→XV→Prop
 |loc {o:Option D} {r:XV}:dU n d (⟨n,.loc,o⟩::r) (⟨n,.loc,some d⟩::r)
 |aL {o:Option D} {r:XV}:dU n d (⟨n,.aL,o⟩::r) (⟨n,.aL,some d⟩::r)
 |there {v:iu} {r r':XV}:dU n d r r'→dU n d (v::r) (v::r')
theorem dU.names (h:dU n d O NE):NE.map (fun x=>x.name)=O.map (fun x=>x.name):=by
 induction h with
 |loc=>rfl
 |aL=>rfl
 |there _ ih=>exact U aJ (U aJ (U ih rfl))
theorem dU.mem (h:dU n d O NE):∃kd o,(kd= .loc∨kd= .aL)∧⟨n,kd,o⟩∈O∧⟨n,kd,some d⟩∈NE∧∀v∈NE,v=⟨n,kd,some d⟩∨v∈O:=by
 induction h with
 |loc=>exact jz .loc _ (.inl rfl) (.head _) (.head _) (fun v s5=>(aY.mp s5).imp id (.tail _))
 |aL=>exact jz .aL _ (.inr rfl) (.head _) (.head _) (fun v s5=>(aY.mp s5).imp id (.tail _))
 |there _ ih=>
  refine jJ ih fun kd o a b e f=>?_;refine jz kd o a (.tail _ b) (.tail _ e) (fun v s5=>?_);refine bC s5 ?_ fun s5=>?_
  ·exact .inr (.head _)
  ·exact(f v s5).imp id (.tail _)
end
end
section
theorem TH {h:Heap} {a:Addr} {m m':Str→Option Value} (x:h.Ns a m) (y:h.Ns a m'):m=m':=by
 refine uh x fun o es ep xz hd J hm=>?_;refine uh y fun o' abi Wi bG hd' J pZ=>?_;rw[xz]at bG;obtain rfl:=bf bG;rw[hd]at hd';cases hd';funext n;rw[←hm,←pZ]
theorem dU.kinds (h:dU n d O NE):∀v∈NE,∃u∈O,u.name=v.name∧u.kind=v.kind:=by
 refine jJ (h.mem) fun kd o J hm J hr=>?_;intro v s5;rcases hr v s5 with rfl|s5
 ·exact fW _ hm rfl rfl
 ·exact fW v s5 rfl rfl
theorem MQ {O:XV} (h:(O.map (fun x=>x.name)).Nodup) {v v':iu} (s5:v∈O) (gT:v'∈O) (e:v.name=v'.name):v=v':=by
 induction O with
 |nil=>cases s5
 |cons x r ih=>
  rw[aJ,dg]at h;rcases aY.mp s5 with h1|h1<;>rcases aY.mp gT with h2|h2
  ·exact U h1 (U h2 rfl)
  ·exact absurd (by refine ZB h1 (U e ?_);exact cz h2) h.1
  ·exact absurd (by refine ZB h2 (ZB e ?_);exact cz h1) h.1
  ·exact ih h.2 h1 h2
section
variable {c:ah} {A:Around} {E:Value→Shared→Prop} {s:Shared} {V:Env} {bs Z:TW} {O NE:XV} {Y:B} {n:Str} {d:D} {v:Value}
theorem bu.turn (w:bu c bs Z h V O Y) (eV:dU n d O NE) (av:Heap.SameBut a h h') (ha:bs a=none) (hz:Z a=none) (h0:c.H0.get? a=none) (hm:Y a=none)
 (v8:∃m,h'.Ns V.locals m) (HW:∀v∈O,v.kind= .aL→∀b,V.cells.lookup v.name=some b→∃x,h'.IsCell b x)
 (wQ:∀v∈NE,v.name=n→Iz c Z h' V v) (hold:∀v∈O,v.name≠n→Iz c Z h' V v):bu c bs Z h' V NE Y:=by
 have nm:(NE.map (fun x=>x.name)).Nodup:=by refine U eV.names ?_;exact w.names
 have x6:∀{b:Addr},lu Y h b→lu Y h' b:=fun{b} x=>⟨x.1,by refine U av.1 ?_;exact x.2⟩;refine⟨⟨w.rd.fn,fun b o e=>?_,fun b o e=>?_,fun v s5=>?_,fun b cl hb=>?_,⟨x6 w.rd.own.1,fun n b e=>x6 (w.rd.own.2 n b e)⟩,w.rd.glob⟩,fun b o e=>?_,nm,v8,w.iB,fun v s5 hk=>?_,fun v s5 hk=>?_,fun v s5 v' gT=>?_,fun v s5 hk=>?_,w.mem⟩
 ·have:b≠a:=by rintro rfl;rw[h0]at e;injection e
  exact(av.2 b this).trans (w.rd.top b o e)
 ·have:b≠a:=by rintro rfl;rw[hz]at e;injection e
  exact⟨(av.2 b this).trans (w.rd.sub.get e),(w.rd.sub b o e).2⟩
 ·by_cases M2:v.name=n
  ·exact wQ v s5 M2
  ·refine jJ (eV.mem) fun kd o J J J hr=>?_;rcases hr v s5 with rfl|gT
   ·exact absurd rfl M2
   ·exact hold v gT M2
 ·refine Op (w.rd.cells b cl hb) fun aG hr=>?_;refine wS aG fun o xz hc=>?_;have:b≠a:=by rintro rfl;rw[hm]at hb;injection hb
  exact⟨⟨o,(av.2 _ this).trans xz,hc⟩,hr⟩
 ·have:b≠a:=by rintro rfl;rw[ha]at e;injection e
  refine wS (w.keep b o e) fun o' e' q=>?_;exact⟨o',(av.2 b this).trans e',q⟩
 ·refine aS (eV.kinds v s5) fun u cU e1 e2=>?_;exact ZB e1 (w.locs u cU (e2.trans hk))
 ·refine aS (eV.kinds v s5) fun u cU e1 e2=>?_;refine Op (w.kq u cU (e2.trans hk)) fun h1 aby=>fB aby fun b x h2 _ h3=>?_;refine aO (HW u cU (e2.trans hk) b h2) fun mU hx=>?_;exact ZB e1 ⟨h1,b,mU,h2,hx,h3⟩
 ·refine aS (eV.kinds v s5) fun u cU e1 e2=>?_;refine aS (eV.kinds v' gT) fun VG aaw abm SR=>?_;refine ZB e1 (ZB abm (ZB e2 (ZB SR ?_)));exact w.apart u cU VG aaw
 ·refine aS (eV.kinds v s5) fun u cU e1 e2=>?_;exact ZB e1 (w.caps u cU (e2.trans hk))
theorem nk (w:bu c bs Z s.heap V O Y) (eV:dU n d O NE) (s5:Tells Z v d) (h:∀s',ki s s'→bu c bs Z s'.heap V NE Y→Q () s'):wpAny c.M A (storeName V n v) Q E s:=by
 refine jJ (eV.mem) fun kd o hk hin O4 J=>?_;have nm:(NE.map (fun x=>x.name)).Nodup:=by refine U eV.names ?_;exact w.names
 rcases hk with rfl|rfl
 ·have hl:=w.locs _ hin rfl;refine aO (w.ns) fun m hm=>?_;refine Lu hl hm (fun h' gM c8 ez=>h _ ⟨fun b j4 e hd=>?_,?_,b7 _,⟨_,_,rfl⟩⟩ ?_) (by refine U w.rd.fn ?_;rfl)
  ·by_cases e':b=V.locals
   ·subst e';refine dS gM fun o' es ep bG hd' J=>?_;refine wS (ez j4 e) fun bR e1 gP=>?_;rw[bG]at e1;obtain rfl:=bf e1;exact fW o' bG ⟨es,ep,hd'⟩ (gP.trans hd.2)
   ·exact⟨j4,(c8.2 b e').trans e,hd⟩
  ·exact bT c8.1.symm
  ·refine w.turn eV c8 w.iB.1 w.iB.2.1 w.iB.2.2 w.rd.own.1.1 ⟨_,gM⟩ (fun u cU hk b hb=>?_) (fun u cU M2=>?_) (fun u cU M2 ck hd'=>?_)
   ·refine Op (w.kq u cU hk) fun _ ad0=>IL ad0 fun b' x h2 h3 _ _ _ ia=>?_;rw[hb]at h2;obtain rfl:=bf h2;exact⟨x,h3.sameBut c8 ia⟩
   ·have:=MQ nm cU O4 M2;subst this;intro ck hd';obtain rfl:=bf hd';exact⟨v,s5,hl,_,gM,ak rfl⟩
   ·refine wS (w.rd.vars u cU ck hd') fun x dj gf=>?_;refine⟨x,dj,?_⟩
    induction jD:u.kind with
    |loc=>
     rw[jD]at gf;refine Op gf fun l1 VC=>wS VC fun nA l2 l3=>?_;rw[TH l2 hm]at l3;exact⟨l1,_,gM,by refine U (Tk M2) ?_;exact l3⟩
    |aL=>
     refine Op (w.kq u cU jD) fun _ Sg=>IL Sg fun b' mU h2 h3 _ _ _ ia=>?_;rw[jD]at gf;refine Op gf fun l1 ae6=>wS ae6 fun b l2 l3=>?_;obtain rfl:=bf (l2.symm.trans h2);exact⟨l1,b,l2,l3.sameBut c8 ia⟩
    |gn=>
     refine dS (w.caps u cU jD) fun b' o' J h2 h3 J=>?_;rw[jD]at gf;refine Op gf fun l1 XA=>wS XA fun b l2 l3=>?_;obtain rfl:=bf (l2.symm.trans h2);exact⟨l1,b,l2,l3.sameBut c8 (by rintro rfl;rw[w.iB.1]at h3;injection h3)⟩
    |bw=>rw[jD]at gf;exact gf
 ·refine Op (w.kq _ hin rfl) fun hl aeU=>IL aeU fun a afS ha hc n1 b6 dP oV=>?_;refine wpAny_storeName_cell w.rd.fn hl ha hc (fun h' i6 c8=>h _ ⟨fun b j4 e hd=>?_,?_,aH _,⟨_,_,rfl⟩⟩ ?_)
  ·by_cases e':b=a
   ·subst e';refine wS hc fun o' bG hd'=>?_;rw[e]at bG;obtain rfl:=bf bG;refine Op hd fun aG J=>?_;refine fE aG fun es ep q=>?_;rw[q]at hd';injection hd'
   ·exact⟨j4,(c8.2 b e').trans e,hd⟩
  ·exact bT c8.1.symm
  ·refine aO (w.ns) fun m hm=>?_;refine w.turn eV c8 n1 b6 dP (w.rd.own.2 _ _ ha).1 ⟨m,hm.sameBut c8 (bQ oV)⟩ (fun u cU hk b hb=>?_) (fun u cU M2=>?_) (fun u cU M2 ck hd'=>?_)
   ·refine Op (w.kq u cU hk) fun _ ae7=>fB ae7 fun b' x h2 h3 _=>?_;rw[hb]at h2;obtain rfl:=bf h2;by_cases e':b=a
    ·subst e';exact⟨_,i6⟩
    ·exact⟨x,h3.sameBut c8 e'⟩
   ·have:=MQ nm cU O4 M2;subst this;intro ck hd';obtain rfl:=bf hd';exact⟨v,s5,hl,_,ha,i6⟩
   ·refine wS (w.rd.vars u cU ck hd') fun x dj gf=>?_;refine⟨x,dj,?_⟩
    induction jD:u.kind with
    |loc=>
     rw[jD]at gf;refine Op gf fun l1 WI=>wS WI fun nA l2 l3=>?_;exact⟨l1,nA,l2.sameBut c8 (bQ oV),l3⟩
    |aL=>
     rw[jD]at gf;refine Op gf fun l1 ac8=>wS ac8 fun b l2 l3=>?_;have:b≠a:=by
      rintro rfl;exact w.apart u cU _ hin jD rfl M2 (l2.trans ha.symm)
     exact⟨l1,b,l2,l3.sameBut c8 this⟩
    |gn=>
     refine dS (w.caps u cU jD) fun b' o' J h2 h3 J=>?_;rw[jD]at gf;refine Op gf fun l1 WK=>wS WK fun b l2 l3=>?_;obtain rfl:=bf (l2.symm.trans h2);exact⟨l1,b,l2,l3.sameBut c8 (by rintro rfl;rw[n1]at h3;injection h3)⟩
    |bw=>rw[jD]at gf;exact gf
end
section
variable {c:ah} {k:Nat} {O NE:XV} {Y:B} {Sc:fy→Prop}
theorem FM.iG (he:aE c k O Y e fun d I=>∃NE,dU n d O NE∧Sc (.next NE I))
 (hs:∀V,V.scope.kind= .function→swapsWith e (some (.Name n p)) pos.line V=pure false:=by intros;rfl):FM c k O Y (.Assign [.Name n p] e pos) Sc:=by
 intro A V s base Z ok w Q E q;refine zR (he A V s Z ok w.rd _ E fun d I v s₁ aC t s5 Tu=>wS Tu fun NE eV h=>nk (w.after t) eV s5 fun s₂ m w₂=>?_) (hs V w.rd.fn);exact q (.next NE I) .next s₂ aC (t.run.trans ⟨m,.refl _,fun J J h=>.inl h,fun J h=>.inl h⟩) w₂ .next h
theorem FM.assign (he:f8 c k O Y e d) (eV:dU n d O NE) (h:Sc (.next NE Y))
 (hs:∀V,V.scope.kind= .function→swapsWith e (some (.Name n p)) pos.line V=pure false:=by intros;rfl):FM c k O Y (.Assign [.Name n p] e pos) Sc:=
 FM.iG (.nH he ⟨NE,eV,h⟩) hs
end
end
theorem VN:∀{m:Str→Option Value},n∉bs.map Prod.fst→bindL kf bs m n=m n:=by
 induction bs with
 |nil=>intro _ _;rfl
 |cons p r ih=>
  intro m h;rw[aJ,aY,pY]at h;rw[BZ,ih h.2];split
  ·exact Tk h.1
  ·rfl
theorem aed:∀{m:Str→Option Value},n∉bs.map Prod.fst→bindC kf bs m n=m n:=by
 induction bs with
 |nil=>intro _ _;rfl
 |cons p r ih=>
  intro m h;rw[aJ,aY,pY]at h;rw[BU,ih h.2];split
  ·rfl
  ·exact Tk h.1
theorem Nm:∀{m:Str→Option Value},(bs.map Prod.fst).Nodup→(n,v)∈bs→kf n=some .local→bindL kf bs m n=some v:=by
 induction bs with
 |nil=>intro _ _ hm;exact(d_ hm).elim
 |cons p r ih=>
  intro m M2 hm hk;rw[aJ,dg]at M2;refine rB hm (fun e=>?_) fun hm=>ih M2.2 hm hk;subst e;rw[BZ,VN M2.1,ak hk,ak rfl]
theorem NN:∀{m:Str→Option Value},(bs.map Prod.fst).Nodup→(n,v)∈bs→kf n≠some .local→bindC kf bs m n=some v:=by
 induction bs with
 |nil=>intro _ _ hm;exact(d_ hm).elim
 |cons p r ih=>
  intro m M2 hm hk;rw[aJ,dg]at M2;refine rB hm (fun e=>?_) fun hm=>ih M2.2 hm hk;subst e;rw[BU,aed M2.1,Tk hk,ak rfl]
theorem HQ:∀{L:Nat} {wP:List (Str×Addr)},((∃a,(n,a)∈wP)∨(n,NameKind.cell)∈names)→∃a,(n,a)∈cellsFrom L names wP:=by
 induction names with
 |nil=>intro _ _ h;exact h.elim id fun h=>(d_ h).elim
 |cons p r ih=>
  intro L wP h;rw[CH];split
  ·refine ih (h.elim (fun h=>.inl (h.imp fun a h=>.tail _ h)) fun h=>?_);refine rB h (fun e=>?_) fun h=>.inr h;exact ZB e (.inl ⟨L,.head _⟩)
  ·rename_i hk;refine ih (h.elim .inl fun h=>?_);refine rB h (fun e=>?_) fun h=>.inr h;rw[←e]at hk;exact absurd rfl hk
theorem HJ {α:Type} {l:List (Str×α)} {a:α}:(n,a)∈l→∃b,l.lookup n=some b:=by
 induction l with
 |nil=>intro h;exact(d_ h).elim
 |cons p r ih=>
  intro h;refine U kT ?_
  induction hb:n==p.1 with
  |true=>exact⟨_,rfl⟩
  |false=>
   refine rB h (fun e=>?_) fun h=>ih h;rw[←e,rm]at hb;injection hb
noncomputable def vars (ps:List (Str×cZ)) (ds:List D) (ls:List (Str×cZ)) (gs:List (Str×Value)):XV:=
 (ps.zip ds).map (fun x=>⟨x.1.1,x.1.2,some x.2⟩)++(ls.map (fun x=>⟨x.1,x.2,none⟩)++gs.map (fun x=>⟨x.1,.bw,some (.val x.2)⟩))
theorem Ka {α:Type} {ps:List α} (bL:au Z H ds):∀{x:α} {d:D},(x,d)∈ps.zip ds→∃v,(x,v)∈ps.zip H∧Tells Z v d:=by
 refine bL.ind (P:=fun H ds=>∀{ps:List α} {x:α} {d:D},(x,d)∈ps.zip ds→∃v,(x,v)∈ps.zip H∧Tells Z v d) ?_ ?_
 ·intro ps x d h;rw[List.zip_nil_right]at h;exact(d_ h).elim
 ·intro v d H ds s5 _ ih ps x ck h;rcases ps with _|⟨p,ps⟩
  ·exact(d_ h).elim
  ·refine rB h (fun e=>?_) fun h=>(ih h).imp fun v y=>⟨.tail _ y.1,y.2⟩;refine Op (Prod.mk.inj e) fun e1 e2=>?_;refine U e1 (U e2 ?_);exact⟨_,.head _,s5⟩
structure Cf (c:ah) (f:Addr) (fd:FuncData) (body:List Stmt):Prop where
 obj:∃o,c.H0.get? f=some o∧o.data= .func fd
 body:fd.body= .stmts body
 lim:c.H0.NoLimit
 low:c.H0.get? sysModules≠none
 code:c.H0.CodeRec fd.code fd.qualname
 closure:fd.closure=[]
 globals:fd.globals=mainGlobals
 builtins:fd.builtins=builtinsNs
 co:fd.scope.isCoroutine=false
 gen:fd.scope.isGenerator=false
 kind:fd.scope.kind= .function
noncomputable def cu (c:ah) (k:Nat) (f:Value) (ds:List D) (Y:B) (Sc:D→B→Prop):Prop:=
 ∀(A:Around) (s:Shared) (Z:TW) (H:List Value),Ok c k A s→c.H0.StaysIn s.heap→Sub Z s.heap→au Z H ds→gj c Z s.heap Y→∀(Q E:Value→Shared→Prop),
  (∀d I v s' Z',aN c Y s Z I s' Z'→Tells Z' v d→Sc d I→Q v s')→wpAny c.M A (call f H) Q E s
noncomputable def eL (c:ah) (k:Nat) (f:Value) (ds:List D) (Y:B) (Sc:D→B→Prop):Prop:=
 ∀(A:Around) (s:Shared) (Z:TW) (H:List Value),Ok c k A s→c.H0.StaysIn s.heap→Sub Z s.heap→au Z H ds→gj c Z s.heap Y→∀(R:Result→Shared→Prop),
  (∀d I v s' Z',aN c Y s Z I s' Z'→Tells Z' v d→Sc d I→R (.ok (.ret v)) s')→codeAny c.M A (.call f ⟨H,[]⟩) R s
theorem eL.pm (h:eL c k f ds Y Sc):cu c k f ds Y Sc:=
 fun A s Z H ok top sub aZ mo Q E g=>oO (h A s Z H ok top sub aZ mo _ g)
noncomputable def Binds (c:ah) (fd:FuncData) (ps:List (Str×cZ)) (ds C0:List D):Prop:=
 ∀(A:Around) (s:Shared) (Z:TW) (H:List Value),c.H0.StaysIn s.heap→Sub Z s.heap→au Z H ds→∀(Q:List (Str×Value)→Shared→Prop) (E:Value→Shared→Prop),
  (∀nS s' Z',Step c s Z s' Z'→au Z' nS C0→Q ((ps.map Prod.fst).zip nS) s')→wpAny c.M A (bindArgs fd ⟨H,[]⟩) Q E s
theorem Binds.plain (dH:ds.length=ps.length) (h:∀H:List Value,H.length=ps.length→bindArgs fd ⟨H,[]⟩=pure ((ps.map Prod.fst).zip H)):Binds c fd ps ds ds:=by
 intro A s Z H top sub aZ Q E q;exact U (h H (aZ.length.trans dH)) (On (q H s Z (.refl top sub) aZ))
theorem eL.def (eU:Cf c f fd body)
 (mC:Binds c fd ps ds₀ ds) (dH:ds.length=ps.length)
 (kinds:∀x∈ps++ls,(x.2= .loc∧fd.scope.names.lookup x.1=some .local)∨(x.2= .aL∧fd.scope.names.lookup x.1=some .cell))
 (gl:∀x∈gs,fd.scope.names.lookup x.1=some .globalImplicit∧gv c.H0 x.1 x.2)
 (nd:((ps++ls).map Prod.fst++gs.map Prod.fst).Nodup)
 (n6:∀L,wE (c.at L) k (vars ps ds ls gs) Y body (JH Sc)):eL c (k+1) (.ref f) ds₀ Y Sc:=by
 intro A s₀ jA C7 zU kC rG GX G6 R Pz;refine wS (eU.obj) fun o xz hd=>?_;refine codeAny_call_function (fP (fU (bV ..) zU.depth) (by decide)) (kC _ _ xz) hd eU.co eU.gen eU.body (eU.code.keeps kC) ?_;refine U eU.closure (U eU.globals (U eU.builtins ?_));refine mC _ s₀ jA C7 kC rG GX _ _ fun H s Z EQ aZ=>?_;have ok:=zU.step EQ;have top:=EQ.top;have sub:=EQ.sub;have nQ:=EQ.p9 G6;have mo:gj c Z s.heap Y:=nQ.cells;have cK:H.length=ps.length:=aZ.length.trans dH;have Ac:((ps.map Prod.fst).zip H).map Prod.fst=ps.map Prod.fst:=by
  rw[List.map_fst_zip];rw[b8];exact bT (sX ‹_›)
 have bn:(((ps.map Prod.fst).zip H).map Prod.fst).Nodup:=by
  refine U Ac ?_;rw[gA,jU]at nd;exact(jY.mp nd).1
 have qM:∀{L:Nat} {n:Str},fd.scope.names.lookup n=some .cell→∃a,(cellsFrom L fd.scope.names []).lookup n=some a:=fun h=>by
  obtain⟨a,ha⟩:=HQ (wP:=[]) (.inr (mem_of_lookup h));exact HJ ha
 have kd:∀x∈(ps.map Prod.fst).zip H,fd.scope.names.lookup x.1=some .local∨(fd.scope.names.lookup x.1=some .cell∧((cellsFrom (s.heap.objs.size+1) fd.scope.names []).lookup x.1).isSome=true):=fun x hx=>by
  have:x.1∈ps.map Prod.fst:=by refine ZB Ac ?_;exact cz hx
  refine wS (ao.mp this) fun p hp e=>?_;rcases kinds p (iK _ hp)with⟨_,h⟩|⟨_,h⟩
  ·exact .inl (e▸h)
  ·refine .inr ⟨e▸h,?_⟩;refine aO (qM (L:=s.heap.objs.size+1) (e▸h)) fun a ha=>?_;refine U ha ?_;rfl
 refine g9 (Na eU.kind kd fun V he s' yk hup=>?_);subst he;have x:=yk.to;have htk:=hup.toks;refine⟨(eU.lim.keeps top).keeps x.toInCall.keep,codeAny_func ?_⟩;have IQ:s.heap.get? s.heap.objs.size=none:=sZ (aH _);have zb:∀{a:Addr},s.heap.objs.size≤a→Z a=none:=gC sub;have tE:∀{a:Addr},s.heap.objs.size≤a→c.H0.get? a=none:=mG top;have mN:∀{a:Addr},s.heap.objs.size≤a→Y a=none:=fun{a} h=>by
  rcases q:Y a with _|cl
  ·rfl
  ·refine Op (mo a cl q) fun Uq _=>?_;obtain⟨o',e',_⟩:=Uq;exact absurd (cE e') (eB.mpr h)
 have EY:∀{a:Addr} {o':Obj},(if(Y a).isSome then none else s.heap.get? a)=some o'→Y a=none∧s.heap.get? a=some o':=fun{a o'} e=>by
  rcases q:Y a with _|cl
  ·rw[q]at e;exact⟨rfl,e⟩
  ·rw[q]at e;cases e
 have qp:s.heap.objs.size<s'.heap.objs.size:=x.toInCall.ns.lt;have GG:c.H0.StaysIn s'.heap:=fun b o' e=>x.toInCall.keep b o' (top b o' e);have Ao:Sub Z s'.heap:=fun b o' e=>⟨x.toInCall.keep b o' (sub.get e),(sub b o' e).2⟩;have w:bu (c.at s.heap.objs.size) (fun a=>if(Y a).isSome then none else s.heap.get? a) Z s'.heap (newEnv fd.scope s.heap.objs.size mainGlobals (cellsFrom (s.heap.objs.size+1) fd.scope.names []) (fd.qualname++".<locals>.") (some f) fd.code none builtinsNs) (vars ps ds ls gs) Y:=by
  have qY:∀v∈vars ps ds ls gs,(v.kind= .loc∧fd.scope.names.lookup v.name=some .local)∨(v.kind= .aL∧fd.scope.names.lookup v.name=some .cell)∨(v.kind= .bw∧fd.scope.names.lookup v.name=some .globalImplicit):=fun v s5=>by
   rcases b5.mp s5 with s5|s5
   ·refine wS (ao.mp s5) fun q Ch s4=>?_;subst s4;have:=BI (a:=q.1) (b:=q.2) Ch;rcases kinds q.1 (iK _ this.1)with h|h
    ·exact .inl h
    ·exact .inr (.inl h)
   ·rcases b5.mp s5 with s5|s5
    ·refine wS (ao.mp s5) fun q Ch s4=>?_;subst s4;rcases kinds q (mz _ Ch)with h|h
     ·exact .inl h
     ·exact .inr (.inl h)
    ·refine wS (ao.mp s5) fun q Ch s4=>?_;subst s4;exact .inr (.inr ⟨rfl,(gl q Ch).1⟩)
  refine⟨⟨eU.kind,GG,Ao,fun v s5 ck hd'=>?_,fun a cl e=>?_,⟨⟨mN (aH _),qp⟩,fun n a e=>⟨mN (fz (x.above _ _ (mem_of_lookup e))),Ir (x.cell _ a e)⟩⟩,rfl,rfl,eU.low,fun L e=>e⟩,fun a o' e=>⟨o',x.toInCall.keep a o' (EY e).2,.refl _⟩,?_,⟨_,x.toInCall.ns⟩,⟨?_,zb (aH _),tE (aH _)⟩,fun v s5 hk=>?_,fun v s5 hk=>?_,fun v s5 v' gT hk hk' a_=>?_,fun v s5 hk=>?_,fun a ha=>?_⟩
  ·rcases b5.mp s5 with s5|s5
   ·refine wS (ao.mp s5) fun Ws Ch Xe=>?_;obtain⟨q,ZK⟩:=Ws;subst Xe;obtain rfl:=bf hd';refine wS (Ka aZ Ch) fun v hz FS=>?_;have hin:(q.1,v)∈(ps.map Prod.fst).zip H:=by
     have:∀(l:List (Str×cZ)) (H:List Value),(q,v)∈l.zip H→(q.1,v)∈(l.map Prod.fst).zip H:=fun l=>by
      induction l with
      |nil=>intro H h;simp at h
      |cons y l ih=>
       intro H h;rcases H with _|⟨z,H⟩
       ·simp at h
       ·rw[oY]at h;refine U aJ (U oY ?_);rcases aY.mp h with e|h
        ·cases e;exact .head _
        ·exact .tail _ (ih H h)
     exact this ps H hz
    refine⟨v,FS,?_⟩;rcases kinds q (iK _ (BI Ch).1)with⟨hk,h⟩|⟨hk,h⟩
    ·show jV _ _ _ _ _ q.2;exact U hk ⟨h,_,x.toInCall.ns,Nm bn hin h⟩
    ·show jV _ _ _ _ _ q.2;refine U hk ?_;refine aO (qM (L:=s.heap.objs.size+1) h) fun a ha=>?_;refine⟨h,a,ha,?_⟩;have:=x.cell q.1 a ha;rw[NN bn hin (by show fd.scope.names.lookup q.1≠_;refine U h ?_;simp)]at this;exact this
   ·rcases b5.mp s5 with s5|s5
    ·refine wS (ao.mp s5) fun q Ch s4=>?_;subst s4;cases hd'
    ·refine wS (ao.mp s5) fun q Ch s4=>?_;subst s4;obtain rfl:=bf hd';exact As _ (.val _) ((gl q Ch).1) rfl rfl ((gl q Ch).2)
  ·refine Op (mo a cl e) fun Y6 hr=>?_;obtain⟨o',e',hc⟩:=Y6;exact⟨⟨o',x.toInCall.keep _ _ e',hc.to⟩,hr⟩
  ·have e:(vars ps ds ls gs).map (fun x=>x.name)=(ps++ls).map Prod.fst++gs.map Prod.fst:=by
    have h1:∀(ps:List (Str×cZ)) (ds:List D),ds.length=ps.length→(((ps.zip ds).map (fun x=>(⟨x.1.1,x.1.2,some x.2⟩:iu))).map (fun x=>x.name))=ps.map Prod.fst:=fun l=>by
     induction l with
     |nil=>intro ds _;rfl
     |cons y l ih=>
      intro ds h;rcases ds with _|⟨z,ds⟩
      ·simp at h
      ·simp only[oY,aJ];exact ZB (ih ds (by simpa using h)) rfl
    rw[vars,gA,h1 ps ds dH,gA,cJ,cJ,gA,jU];rfl
   exact U e nd
  ·show(if _ then none else s.heap.get? s.heap.objs.size)=none;refine U IQ ?_;split<;>rfl
  ·rcases qY v s5 with⟨_,h⟩|⟨h,_⟩|⟨h,_⟩
   ·exact h
   ·rw[hk]at h;cases h
   ·rw[hk]at h;cases h
  ·rcases qY v s5 with⟨h,_⟩|⟨_,h⟩|⟨h,_⟩
   ·rw[hk]at h;cases h
   ·refine aO (qM (L:=s.heap.objs.size+1) h) fun a ha=>?_;have ab:s.heap.objs.size<a:=x.above _ _ (mem_of_lookup ha);exact⟨h,a,_,ha,x.cell _ a ha,by show(if _ then none else s.heap.get? a)=none;refine U (sZ (fz ab)) ?_;split<;>rfl,zb (fz ab),tE (fz ab),g_ ab⟩
   ·rw[hk]at h;cases h
  ·rcases qY v s5 with⟨h,_⟩|⟨_,h⟩|⟨h,_⟩
   ·rw[hk]at h;cases h
   ·refine aO (qM (L:=s.heap.objs.size+1) h) fun a ha=>?_;intro e;exact a_ (AJ x.apart (mem_of_lookup ha) (mem_of_lookup (e▸ha)))
   ·rw[hk]at h;cases h
  ·rcases qY v s5 with⟨h,_⟩|⟨h,_⟩|⟨h,_⟩<;>(rw[hk]at h;cases h)
  ·rcases q:Y a with _|cl
   ·exact absurd q ha
   ·rfl
 have ok':Ok (c.at s.heap.objs.size) k (A.deeper (newEnv fd.scope s.heap.objs.size mainGlobals (cellsFrom (s.heap.objs.size+1) fd.scope.names []) (fd.qualname++".<locals>.") (some f) fd.code none builtinsNs)) s':=by
  refine d9 (ok.frames) fun l hl hf jP J=>?_;refine⟨?_,?_,⟨newEnv fd.scope s.heap.objs.size mainGlobals (cellsFrom (s.heap.objs.size+1) fd.scope.names []) (fd.qualname++".<locals>.") (some f) fd.code none builtinsNs::l,?_,⟨?_,?_,?_⟩,fun b hb=>?_,fun L e=>⟨_,_,rfl,e⟩⟩,fP ok.tok htk,ok.hand⟩
  ·show A.depth+1+k<900;have:=ok.depth;exact oH ‹_›
  ·show A.units+3+60*k<9000;have:=ok.units;exact B7 ‹_› (by decide)
  ·show A.frames.map _=_;refine U hl ?_;rfl
  ·show fd.scope.kind≠ .module;refine U eU.kind ?_;simp
  ·refine dS (x.toInCall.ns) fun o' es ep h1 h2 J=>?_;exact jz _ o' rfl (tE (aH _)) h1 (fun H=>by refine U h2 ?_;simp)
  ·exact hf.of_keeps fun b o' e J=>⟨o',x.toInCall.keep b o' e,rfl⟩
  ·refine bC hb ?_ fun hb=>?_
   ·refine wS (yk.fr) fun bR e1 gP=>?_;refine dS (x.toInCall.ns) fun o' es ep h1 h2 J=>?_;rw[h1]at e1;obtain rfl:=bf e1;exact fW _ h1 ⟨es,ep,h2⟩ gP
   ·refine wS (jP b hb) fun o' e' i=>?_;exact⟨o',x.toInCall.keep b o' e',i⟩
 refine n6 _ _ _ s' _ Z ok' w _ _ fun fZ dz s'' eH run jB fi bG=>?_;have aq:aN c Y s Z fZ.Y s'' eH:=by
  refine⟨Ev (fz qp) run.af.size,fun a o' ha e=>jB.keep a o' (by show(if _ then none else s.heap.get? a)=_;refine U ha ?_;exact e),fun b o' e h=>run.af.frames b o' (x.toInCall.keep b o' e) h,jB.rd.top,run.le,fun a o' e=>?_,jB.rd.sub,fun a h=>?_,fun a cl e=>let⟨⟨o,xz,hc⟩,r⟩:=jB.rd.cells a cl e;⟨⟨o,xz,hc.off⟩,r⟩,Ev htk run.af.tok,?_⟩
  ·rcases run.ext a o' e with e|e|e
   ·exact .inl e
   ·exact .inr (.inl e)
   ·exact .inr (.inr (Ev (fz qp) e))
  ·rcases run.ju a h with e|e
   ·exact .inl e
   ·exact .inr (Ev (fz qp) e)
  ·refine fE (x.toInCall.same) fun h1 t1 s4=>?_;subst s4;refine fE (run.af.rest) fun h2 fD s4=>?_;subst s4;exact⟨_,_,rfl⟩
 induction fi with
 |ret FS=>exact Pz _ _ _ _ _ (nQ.trans aq) FS bG
 |next=>exact Pz _ _ _ _ _ (nQ.trans aq) (.val _) bG
 |brk=>exact bG.elim
 |cont=>exact bG.elim
theorem cu.pc (h:cu c k f ds (fun J=>none) fun ck J=>ck=d):cg c k f ds d:=by
 intro A s Z H ok top sub aZ Q E g;refine h A s Z H ok top sub aZ (fun a cl e=>(by injection e)) Q E fun ck I v s' Z' aq FS e=>?_;subst e;exact g v s' Z' ⟨⟨aq.size,fun a o e=>aq.keep a o rfl e⟩,aq.top,⟨aq.le,fun a o e=>(aq.ext a o e).imp id fun h=>h.elim (fun h=>absurd rfl h) id⟩,aq.sub,aq.tok,aq.rest⟩ FS
theorem cu.less (h:cu c k f ds Y Sc) (hk:k≤k'):cu c k' f ds Y Sc:=fun A s Z H ok=>h A s Z H (ok.less hk)
theorem xQ:∀(names:List (Str×NameKind)) (L) (wP),cellsFrom L names wP=cellsFrom L names []++wP
 |[],_,_=>rfl
 |(n,k)::r,L,wP=>by
  rw[CH,CH];split
  ·rw[xQ r (L+1) ((n,L)::wP),xQ r (L+1) [(n,L)],jU];rfl
  ·exact xQ r L wP
theorem E5:∀(names:List (Str×NameKind)) (L) {n:Str} {a:Addr},(n,a)∈cellsFrom L names []→(n,NameKind.cell)∈names
 |[],_,_,_,h=>by simp[ae2]at h
 |(x,k)::r,L,n,a,h=>by
  rw[CH]at h;split at h
  ·rename_i hk;rw[xQ]at h;rcases b5.mp h with h|h
   ·exact .tail _ (E5 r _ h)
   ·rcases aY.mp h with e|h
    ·cases e;have:k= .cell:=by simpa using hk
     subst this;exact .head _
    ·cases h
  ·exact .tail _ (E5 r _ h)
noncomputable def MU (scope:Scope) (cl:List (Str×Addr)) (L:Addr) (outer:Env):Env:=
 {scope:=scope,locals:=L,globals:=outer.globals,cells:=cellsFrom (L+1) scope.names []++cl,qual:=outer.qual,func:=none,code:=outer.code,frame:=outer.frame,builtins:=outer.builtins}
theorem Su
 (h:∀h',h'.Ns s.heap.objs.size (fun J=>none)→(∀b o,s.heap.get? b=some o→h'.get? b=some o)→(∃o,h'.get? s.heap.objs.size=some o∧o.cls= .type "dict")→
  CellsOk h' (s.heap.objs.size+1) (cellsFrom (s.heap.objs.size+1) scope.names [])→Q (MU scope cl s.heap.objs.size outer) {s with heap:=h'}):
 wpAny M A (newFunctionEnv scope outer.globals cl [] outer.qual none .none (some outer)) Q E s:=by
 simp only[newFunctionEnv,Option.isSome_some,lH];refine u8 (wpAny_alloc ?_);refine u8 (wpAny_layCells _ (fun name kind cells=>by cases JG:kind==NameKind.cell<;>simp[JG]) _ _ _ _ ?_);have ok:=cellsFrom_ok scope.names (s.heap.push {cls:=.type "dict",data:=.dict #[]}) (s.heap.objs.size+1) [] ⟨fun J J hm=>(nomatch hm),List.Pairwise.nil⟩ (by rw[eS];exact aH _);rw[eS]at ok;refine U (show({s with heap:=s.heap.push {cls:=.type "dict",data:=.dict #[]}}:Shared).heap.objs.size=s.heap.objs.size+1 from eS ..) ?_;rw[xQ];simp only[A0];refine u8 (On (On ?_));exact h _ ((Heap.Ns.new s.heap (.type "dict")).keeps (u_ _ _)) (fun b o e=>u_ _ _ b o (bX _ e)) ⟨_,u_ _ _ _ _ (dN _ rfl),rfl⟩ ok
noncomputable def l7 (V:Env):List (Str×NameKind)→List (Str×Addr)→List (Str×Addr)
 |[],wP=>wP
 |(n,k)::r,wP=>if k== .free then l7 V r ((n,(V.cells.lookup n).getD 0)::wP)else l7 V r wP
theorem ES (V n k r wP):l7 V ((n,k)::r) wP=if k== .free then l7 V r ((n,(V.cells.lookup n).getD 0)::wP)else l7 V r wP:=rfl
theorem Wg (h:∀x∈scope.names,x.2= .free→(V.cells.lookup x.1).isSome=true):closureFor scope V=pure (l7 V scope.names []):=by
 have key:∀(names:List (Str×NameKind)) (wP:List (Str×Addr)),(∀x∈names,x.2= .free→(V.cells.lookup x.1).isSome=true)→
  (forIn names wP fun x cs=>(match x with|(name,kind)=>if kind== .free then(do let c←cellOf V name;pure (ForInStep.yield ((name,c)::cs)))else pure (ForInStep.yield cs):Sem (ForInStep (List (Str×Addr)))))=pure (l7 V names wP):=fun names=>by
  induction names with
  |nil=>intro wP _;rfl
  |cons x r ih=>
   intro wP hx;obtain⟨n,k⟩:=x;rw[pH];rw[ES];by_cases hk:(k== .free)=true
   ·have hf:k= .free:=by simpa using hk
    refine aO (xe.mp (hx (n,k) (.head _) hf)) fun a ha=>?_;have hc:cellOf V n=pure a:=by unfold cellOf;exact U ha rfl
    simp only[hk,lH,hc,pure_bind,ha,Bl];exact ih _ fun y No=>hx y (.tail _ No)
   ·simp only[hk,j7,jE,pure_bind];exact ih _ fun y No=>hx y (.tail _ No)
 unfold closureFor;have:=key scope.names [] h;simp only[bind_pure_comp]at this⊢
 first
  |refine U this ?_;rfl
  |simp[this]
theorem JC:∀{names:List (Str×NameKind)} {wP:List (Str×Addr)} {n:Str} {a:Addr},V.cells.lookup n=some a→((n,NameKind.free)∈names∨wP.lookup n=some a)→(l7 V names wP).lookup n=some a
 |[],wP,n,a,ha,h=>by
  rcases h with h|h
  ·cases h
  ·exact h
 |(x,k)::r,wP,n,a,ha,h=>by
  rw[ES];split
  ·rename_i hk;refine JC ha ?_;by_cases e:n=x
   ·subst e;right;rw[kT,rm,ha];rfl
   ·rcases h with h|h
    ·rcases aY.mp h with q|h
     ·cases q;exact absurd rfl e
     ·exact .inl h
    ·right;refine U kT (U (beq_false_of_ne e) ?_);exact h
  ·rename_i hk;refine JC ha ?_;rcases h with h|h
   ·rcases aY.mp h with q|h
    ·cases q;exact absurd rfl hk
    ·exact .inl h
   ·exact .inr h
theorem Er (h:scope.names.lookup n=some k):(relabel scope V).names.lookup n=some (if(k== .free&&V.scope.kind== .function&&V.kindOf n==some .cell)=true then .cell else k):=by
 unfold relabel;show(scope.names.map _).lookup n=_;revert h
 induction scope.names with
 |nil=>intro h;cases h
 |cons x r ih=>
  obtain⟨m,j⟩:=x;intro h;refine U aJ ?_
  induction hx:n==m with
  |true=>
   have e:=kX.mp hx;subst e;rw[kT,rm]at h;cases h;by_cases hc:(k== .free&&V.scope.kind== .function&&V.kindOf n==some .cell)=true
   ·simp only[hc,lH,kT,rm]
   ·simp only[hc,jE,kT,rm,j7]
  |false=>
   rw[kT,hx]at h;by_cases hc:(j== .free&&V.scope.kind== .function&&V.kindOf m==some .cell)=true
   ·simp only[hc,lH,kT,hx];exact ih h
   ·simp only[hc,jE,kT,hx,j7];exact ih h
section
noncomputable def nE (sc:Scope) (ts:List (Str×cZ)) (caps gs:List Str):Bool:=
 sc.kind== .function&&ts.all (fun x=>(x.2== .loc&&sc.names.lookup x.1==some .local)||(x.2== .aL&&sc.names.lookup x.1==some .cell))&&caps.all (fun x=>sc.names.lookup x==some .free)&&gs.all (fun x=>sc.names.lookup x==some .globalImplicit)&&
 sc.names.all (fun x=>x.2 != .free||caps.contains x.1)&&sc.names.all (fun x=>x.2 != .local||sc.names.lookup x.1==some .local)&&decide (ts.map Prod.fst++(caps++gs)).Nodup&&decide (sc.names.map Prod.fst).Nodup
structure GL (sc:Scope) (ts:List (Str×cZ)) (caps gs:List Str):Prop where
 kind:sc.kind= .function
 B_:∀x∈ts,(x.2= .loc∧sc.names.lookup x.1=some .local)∨(x.2= .aL∧sc.names.lookup x.1=some .cell)
 Vy:∀x∈caps,sc.names.lookup x=some .free
 aa5:∀x∈gs,sc.names.lookup x=some .globalImplicit
 free:∀x∈sc.names,x.2= .free→x.1∈caps
 loc:∀x∈sc.names,x.2= .local→sc.names.lookup x.1=some .local
 nodup:(ts.map Prod.fst++(caps++gs)).Nodup
 once:(sc.names.map Prod.fst).Nodup
theorem VA {sc:Scope} {ts:List (Str×cZ)} {caps gs:List Str} (h:nE sc ts caps gs=true):GL sc ts caps gs:=by
 unfold nE at h;simp only[kJ,jQ,rQ,oB,kX,yv,zM]at h;refine Op h fun aG q4=>?_;refine Op aG fun aG ia=>?_;refine Op aG fun U_ h6=>?_;obtain⟨⟨⟨⟨h1,h2⟩,h3⟩,h4⟩,h5⟩:=U_;exact⟨h1,h2,h3,h4,fun x hx e=>(h5 x hx).resolve_left fun n=>n e,fun x hx e=>(h6 x hx).resolve_left fun n=>n e,ia,q4⟩
noncomputable def gy (ts:List (Str×cZ)) (os:List (Option D)) (caps:List (Str×D)) (gs:List (Str×Value)):XV:=
 (ts.zip os).map (fun x=>⟨x.1.1,x.1.2,x.2⟩)++(caps.map (fun x=>⟨x.1,.gn,some x.2⟩)++gs.map (fun x=>⟨x.1,.bw,some (.val x.2)⟩))
noncomputable def kh (ts:List (Str×cZ)):List (Option D):=ts.map fun J=>none
theorem aap {ts:List (Str×cZ)} {x:(Str×cZ)×Option D}:x∈ts.zip (kh ts)→x.1∈ts∧x.2=none:=by
 induction ts with
 |nil=>intro h;exact(d_ h).elim
 |cons t ts ih=>
  intro h;rw[kh,aJ,oY]at h;refine bC h ?_ fun h=>?_
  ·exact⟨.head _,rfl⟩
  ·exact⟨.tail _ (ih h).1,(ih h).2⟩
theorem QZ:∀(ts:List (Str×cZ)),((ts.zip (kh ts)).map (fun x=>(⟨x.1.1,x.1.2,x.2⟩:iu))).map (fun x=>x.name)=ts.map Prod.fst
 |[]=>rfl
 |t::ts=>by
  rw[kh,aJ,oY,aJ,aJ,aJ];exact cN _ (QZ ts)
theorem Y7 (ts:List (Str×cZ)) (caps:List (Str×D)) (gs:List (Str×Value)):(gy ts (kh ts) caps gs).map (fun x=>x.name)=ts.map Prod.fst++(caps.map Prod.fst++gs.map Prod.fst):=by
 rw[gy,gA,QZ,gA,cJ,cJ];rfl
theorem Gv:∀{names:List (Str×NameKind)} {wP:List (Str×Addr)} {n:Str} {a:Addr},(n,a)∈l7 V names wP→(n,a)∈wP∨((n,NameKind.free)∈names∧a=(V.cells.lookup n).getD 0)
 |[],_,_,_,h=>.inl h
 |(x,kd)::r,wP,n,a,h=>by
  rw[ES]at h;split at h
  ·rename_i hk;rcases Gv h with h|⟨h,e⟩
   ·rcases aY.mp h with q|h
    ·cases q;have:kd= .free:=by simpa using hk
     subst this;exact .inr ⟨.head _,rfl⟩
    ·exact .inl h
   ·exact .inr ⟨.tail _ h,e⟩
  ·rcases Gv h with h|⟨h,e⟩
   ·exact .inl h
   ·exact .inr ⟨.tail _ h,e⟩
theorem Jd {α:Type}:∀{l r:List (Str×α)} {n:Str},(l++r).lookup n=(l.lookup n).or (r.lookup n)
 |[],r,n=>rfl
 |(x,v)::l,r,n=>by
  refine U m9 (U kT (U kT ?_))
  induction n==x with
  |true=>rfl
  |false=>exact Jd
theorem acq {l:List (Str×NameKind)} {n:Str} {k k':NameKind}:(l.map Prod.fst).Nodup→(n,k)∈l→l.lookup n=some k'→k=k':=by
 induction l with
 |nil=>intro _ h;exact(d_ h).elim
 |cons p l ih=>
  intro nd h e;rw[aJ,dg]at nd;rw[kT]at e
  induction hb:n==p.1 with
  |true=>
   rw[hb]at e;obtain rfl:=bf e;refine rB h (fun q=>?_) fun h=>?_
   ·exact ZB q rfl
   ·exact absurd (by refine ZB (kX.mp hb) ?_;exact cz (f:=Prod.fst) h) nd.1
  |false=>
   rw[hb]at e;refine rB h (fun q=>?_) fun h=>ih nd.2 h e;rw[←q,rm]at hb;injection hb
noncomputable abbrev k6 (sc:Scope) (V:Env) (L:Addr):Env:={MU sc (l7 V sc.names []) L V with scope:=relabel sc V}
section
variable {c:ah} {k:Nat} {O:XV} {Y:B} {V:Env} {s aF:Shared} {Z er:TW} {h₄:Heap} {sc:Scope} {ts:List (Str×cZ)} {caps:List (Str×D)} {gs:List (Str×Value)}
theorem Jg (r:bz c Z s.heap V O Y) (h:∃kd,(kd=cZ.aL∨kd= .gn)∧(⟨n,kd,some d⟩:iu)∈O):∃x a,Tells Z x d∧V.kindOf n=some .cell∧V.cells.lookup n=some a∧s.heap.IsCell a (some x):=by
 refine wS h fun kd hk hm=>?_;refine wS (r.vars _ hm d rfl) fun x t l=>?_;rcases hk with rfl|rfl
 ·refine Op l fun a acJ=>wS acJ fun b e f=>?_;exact jz x b t a e f
 ·refine Op l fun a Sd=>wS Sd fun b e f=>?_;exact jz x b t a e f
theorem Pr (r:bz c Z s.heap V O Y) (K:GL sc ts (caps.map Prod.fst) (gs.map Prod.fst)) (fL:∀x∈caps,∃kd,(kd=cZ.aL∨kd= .gn)∧(⟨x.1,kd,some x.2⟩:iu)∈O)
 (qv:CellsOk h₄ (L+1) (cellsFrom (L+1) sc.names [])) (e:(k6 sc V L).cells.lookup n=some a):
 (L+1≤a∧h₄.IsCell a none∧(n,a)∈cellsFrom (L+1) sc.names [])∨(∃m,V.cells.lookup m=some a):=by
 have hm:=mem_of_lookup e;rcases b5.mp hm with hm|hm
 ·refine Op (qv.empty _ _ hm) fun h1 h2=>?_;exact .inl ⟨h2,h1,hm⟩
 ·rcases Gv hm with h|⟨h,q⟩
  ·cases h
  ·have:=K.free _ h rfl;refine wS (ao.mp this) fun x hx s4=>?_;subst s4;refine jJ (Jg r (fL x hx)) fun J b J J e' J=>?_;rw[e']at q;exact .inr ⟨x.1,by refine U e' ?_;exact cN some q.symm⟩
theorem bu.comp (r:bz c Z s.heap V O Y) (t:Step c s Z aF er) (K:GL sc ts (caps.map Prod.fst) (gs.map Prod.fst)) (fL:∀x∈caps,∃kd,(kd=cZ.aL∨kd= .gn)∧(⟨x.1,kd,some x.2⟩:iu)∈O) (gp:∀x∈gs,gv c.H0 x.1 x.2)
 (ns:h₄.Ns aF.heap.objs.size (fun J=>none)) (dI:∀b o,aF.heap.get? b=some o→h₄.get? b=some o) (qv:CellsOk h₄ (aF.heap.objs.size+1) (cellsFrom (aF.heap.objs.size+1) sc.names []))
 (HN:∀a cl,gm a=some cl→s.heap.objs.size≤a∧a<aF.heap.objs.size∧er a=none∧∃o,aF.heap.get? a=some o∧eN c er o cl):
 bu c (fun a=>s.heap.get? a) er h₄ (k6 sc V aF.heap.objs.size) (gy ts (kh ts) caps gs) gm:=by
 have KU:s.heap.objs.size≤aF.heap.objs.size:=t.grow.1;have SH:c.H0.StaysIn h₄:=fun b o e=>dI b o (t.top b o e);have Fg:∀{a:Addr},(a<s.heap.objs.size∨aF.heap.objs.size≤a)→gm a=none:=fun{a} h=>by
  rcases q:gm a with _|cl
  ·rfl
  ·refine b4 (HN a cl q) fun h1 h2 J=>?_;rcases h with h|h
   ·exact absurd h (eB.mpr h1)
   ·exact absurd h2 (eB.mpr h)
 have lk:∀{n:Str} {kd:NameKind},sc.names.lookup n=some kd→kd≠ .free→(k6 sc V aF.heap.objs.size).kindOf n=some kd:=fun{n kd} e a_=>by
  show(relabel sc V).names.lookup n=some kd;refine U (Er e) ?_;have:(kd==NameKind.free)=false:=by simpa using a_
  refine U this ?_;rfl
 have E9:∀x∈ts,x.2= .aL→∃a,(k6 sc V aF.heap.objs.size).cells.lookup x.1=some a∧(x.1,a)∈cellsFrom (aF.heap.objs.size+1) sc.names []∧h₄.IsCell a none∧aF.heap.objs.size+1≤a:=fun x hx hk=>by
  have hl:sc.names.lookup x.1=some .cell:=by
   rcases K.B_ x hx with⟨h,_⟩|⟨_,h⟩
   ·rw[hk]at h;injection h
   ·exact h
  refine aO (HQ (L:=aF.heap.objs.size+1) (wP:=[]) (.inr (mem_of_lookup hl))) fun agq XM=>?_;refine aO (HJ XM) fun a ha=>?_;have hm:=mem_of_lookup ha;refine Op (qv.empty _ _ hm) fun h1 h2=>?_;refine ur a ?_ hm h1 h2;show(cellsFrom _ _ _++l7 _ _ _).lookup x.1=some a;refine U Jd (U ha ?_);rfl
 have mem:∀v∈gy ts (kh ts) caps gs,(∃x∈ts,v=⟨x.1,x.2,none⟩)∨(∃x∈caps,v=⟨x.1,.gn,some x.2⟩)∨(∃x∈gs,v=⟨x.1,.bw,some (.val x.2)⟩):=fun v s5=>by
  rcases b5.mp s5 with s5|s5
  ·refine wS (ao.mp s5) fun x hx s4=>?_;subst s4;refine Op (aap hx) fun h1 h2=>?_;exact .inl ⟨x.1,h1,by exact U h2 rfl⟩
  ·rcases b5.mp s5 with s5|s5
   ·refine wS (ao.mp s5) fun x hx s4=>?_;subst s4;exact .inr (.inl ⟨x,hx,rfl⟩)
   ·refine wS (ao.mp s5) fun x hx s4=>?_;subst s4;exact .inr (.inr ⟨x,hx,rfl⟩)
 have L1:∀x∈caps,∃a y,(k6 sc V aF.heap.objs.size).cells.lookup x.1=some a∧(k6 sc V aF.heap.objs.size).kindOf x.1=some .cell∧Tells Z y x.2∧s.heap.IsCell a (some y):=fun x hx=>by
  refine jJ (Jg r (fL x hx)) fun y a ty hk hl hc=>?_;have hf:=K.Vy x.1 (cz hx);refine jz a y ?_ ?_ ty hc
  ·show(cellsFrom _ _ _++l7 _ _ _).lookup x.1=some a;refine U Jd ?_;have M2:(cellsFrom (aF.heap.objs.size+1) sc.names []).lookup x.1=none:=by
    rcases q:(cellsFrom (aF.heap.objs.size+1) sc.names []).lookup x.1 with _|b
    ·rfl
    ·have:=acq K.once (E5 _ _ (mem_of_lookup q)) hf;injection this
   exact U M2 (JC hl (.inl (mem_of_lookup hf)))
  ·show(relabel sc V).names.lookup x.1=some .cell;refine U (Er hf) (U r.fn (U hk ?_));rfl
 refine⟨⟨K.kind,SH,fun b o e=>⟨dI b o (t.sub.get e),(t.sub b o e).2⟩,fun v s5 d hd=>?_,fun a cl e=>?_,⟨⟨Fg (.inr (aH _)),ns.lt⟩,fun n a e=>?_⟩,r.glob⟩,fun a o e=>?_,?_,⟨_,ns⟩,⟨sZ KU,gC t.sub (aH _),mG t.top (aH _)⟩,fun v s5 hk=>?_,fun v s5 hk=>?_,fun v s5 v' gT hk hk' a_=>?_,fun v s5 hk=>?_,fun a ha=>?_⟩
 ·rcases mem v s5 with⟨x,hx,rfl⟩|⟨x,hx,rfl⟩|⟨x,hx,rfl⟩
  ·injection hd
  ·obtain rfl:=bf hd;refine jJ (L1 x hx) fun a y h1 h2 h3 h4=>?_;refine wS h4 fun o xz H_=>?_;refine wS (t.grow.2 _ _ xz) fun o' e' q=>?_;exact⟨y,h3.mono t.le,h2,a,h1,o',dI _ _ e',q.data.trans H_⟩
  ·obtain rfl:=bf hd;exact As _ (.val _) (lk (K.aa5 x.1 (cz hx)) (by simp)) r.glob.1 r.glob.2.1 (gp x hx)
 ·refine lN (HN a cl e) fun h1 h2 h3 aa7=>wS aa7 fun o xz hc=>?_;exact⟨⟨o,dI _ _ xz,hc⟩,h3,mG r.top h1⟩
 ·rcases Pr r K fL qv e with⟨h1,h2,_⟩|⟨m,h⟩
  ·exact⟨Fg (.inr (gZ h1)),Ir h2⟩
  ·have o:=r.own.2 _ _ h;refine⟨Fg (.inl o.2),?_⟩;have:=ns.lt;exact fP o.2 (Ev KU (fz this))
 ·refine wS (t.grow.2 _ _ e) fun o' e' q=>?_;exact⟨o',dI _ _ e',q⟩
 ·rw[Y7];exact K.nodup
 ·rcases mem v s5 with⟨x,hx,rfl⟩|⟨x,hx,rfl⟩|⟨x,hx,rfl⟩
  ·rcases K.B_ x hx with⟨_,h⟩|⟨h,_⟩
   ·exact lk h (by simp)
   ·rw[show x.2=cZ.loc from hk]at h;injection h
  ·injection hk
  ·injection hk
 ·rcases mem v s5 with⟨x,hx,rfl⟩|⟨x,hx,rfl⟩|⟨x,hx,rfl⟩
  ·refine d9 (E9 x hx hk) fun a h1 h2 h3 h4=>?_;refine⟨?_,a,_,h1,h3,sZ (Ev ‹_› (fz ‹_›)),gC t.sub (by exact fz ‹_›),mG t.top (by exact fz ‹_›),?_⟩
   ·rcases K.B_ x hx with⟨h,_⟩|⟨_,h⟩
    ·rw[show x.2=cZ.aL from hk]at h;injection h
    ·exact lk h (by simp)
   ·exact g_ h4
  ·injection hk
  ·injection hk
 ·rcases mem v s5 with⟨x,hx,rfl⟩|⟨x,hx,rfl⟩|⟨x,hx,rfl⟩
  ·rcases mem v' gT with⟨mU,ic,rfl⟩|⟨mU,ic,rfl⟩|⟨mU,ic,rfl⟩
   ·refine aS (E9 x hx hk) fun a h1 h2 J=>?_;refine aS (E9 mU ic hk') fun ji IB WA J=>?_;refine U h1 (U IB ?_);intro q;obtain rfl:=bf q;exact a_ (AJ qv.apart h2 WA)
   ·injection hk'
   ·injection hk'
  ·injection hk
  ·injection hk
 ·rcases mem v s5 with⟨x,hx,rfl⟩|⟨x,hx,rfl⟩|⟨x,hx,rfl⟩
  ·rcases K.B_ x hx with⟨h,_⟩|⟨h,_⟩<;>(rw[show x.2=cZ.gn from hk]at h;injection h)
  ·refine jJ (L1 x hx) fun a y h1 _ _ acO=>wS acO fun o xz H_=>?_;exact uc a o _ h1 xz H_
  ·injection hk
 ·refine aO (nZ.mp ha) fun cl e=>?_;exact sZ (HN a cl e).1
end
end
section
structure uu (S:List Addr) (h h':Heap):Prop where
 size:h.objs.size≤h'.objs.size
 keep:∀b o,b∉S→h.get? b=some o→∃o',h'.get? b=some o'∧i7 o o'
theorem gk.chg (x:gk h h') (S):uu S h h':=⟨x.1,fun b o J e=>x.2 b o e⟩
theorem uu.of_same (x:Heap.SameBut a h h') (ha:a∈S):uu S h h':=⟨bT x.1.symm,fun b o hb e=>⟨o,(x.2 b fun q=>hb (q▸ha)).trans e,.refl _⟩⟩
theorem uu.abt (x:Heap.ExtBut a h h') (s:h.objs.size≤h'.objs.size) (ha:a∈S):uu S h h':=⟨s,fun b o hb e=>⟨o,x b o (fun q=>hb (q▸ha)) e,.refl _⟩⟩
noncomputable abbrev Objs:=List (Addr×Obj)
noncomputable def B.add (Y:B) (os:Objs):B:=fun a=>match os.lookup a with
 |some o=>some (.raw o)
 |none=>Y a
theorem Vd {os:Objs} (nd:(os.map Prod.fst).Nodup) {p:Addr×Obj} (hp:p∈os):os.lookup p.1=some p.2:=by
 induction os with
 |nil=>cases hp
 |cons q os ih=>
  obtain⟨a,o⟩:=q;rw[aJ,dg]at nd;refine bC hp ?_ fun hp=>?_
  ·rw[kT,rm]
  ·refine U kT ?_
   induction hb:p.1==a with
   |true=>exact absurd (by refine ZB (kX.mp hb) ?_;exact cz (a:=p) (f:=Prod.fst) hp) nd.1
   |false=>exact ih nd.2 hp
theorem aee {os:Objs} {a:Addr} {o:Obj} (h:os.lookup a=some o):(a,o)∈os:=by
 induction os with
 |nil=>injection h
 |cons q os ih=>
  obtain⟨b,o'⟩:=q;rw[kT]at h
  induction hb:a==b with
  |true=>rw[hb]at h;obtain rfl:=bf h;refine U (kX.mp hb) ?_;exact .head _
  |false=>rw[hb]at h;exact .tail _ (ih h)
theorem B.jo {Y:B} {os:Objs} {a:Addr} (h:a∉os.map Prod.fst):Y.add os a=Y a:=by
 unfold B.add
 induction q:os.lookup a with
 |none=>rfl
 |some o=>exact absurd (cz (f:=Prod.fst) (aee q)) h
theorem B.l9 {Y:B} {os:Objs} (nd:(os.map Prod.fst).Nodup) {p:Addr×Obj} (hp:p∈os):Y.add os p.1=some (.raw p.2):=by
 unfold B.add;exact U (Vd nd hp) rfl
section
variable {c:ah} {bs Z Z':TW} {h h':Heap} {V:Env} {O:XV} {Y:B} {a:Addr} {cl eu:g7} {o o':Obj}
noncomputable def putL (bs:TW):List (Addr×Obj)→TW
 |[]=>bs
 |p::os=>putL (TW.put bs p.1 p.2) os
theorem ED (bs p os):putL bs (p::os)=putL (TW.put bs p.1 p.2) os:=rfl
theorem nB:∀{os:Objs} {bs:TW} {a:Addr},a∉os.map Prod.fst→putL bs os a=bs a
 |[],_,_,_=>rfl
 |p::os,bs,a,h=>by
  rw[aJ,aY,pY]at h;rw[ED,nB h.2];exact Tk h.1
theorem Jm {os:Objs} {p:Addr×Obj} (hp:p∈os):∀{bs:TW},(os.map Prod.fst).Nodup→putL bs os p.1=some p.2:=by
 induction os with
 |nil=>cases hp
 |cons q os ih=>
  intro bs nd;rw[aJ,dg]at nd;refine bC hp ?_ fun hp=>?_
  ·rw[ED,nB nd.1];exact TW.ai ..
  ·rw[ED];exact ih hp nd.2
theorem bu.afy {os:Objs} (w:bu c bs Z h V O (Y.add os)) (nd:(os.map Prod.fst).Nodup) (xz:∀p∈os,h.get? p.1=some p.2) (hm:∀p∈os,Y p.1=none):bu c (putL bs os) Z h V O Y:=by
 have le:∀{a:Addr} {cl:g7},Y a=some cl→Y.add os a=some cl:=fun{a cl} e=>by
  rw[B.jo];exact e;intro hx;refine wS (ao.mp hx) fun p hp s4=>?_;subst s4;rw[hm p hp]at e;injection e
 have rY:∀{a:Addr},lu (Y.add os) h a→lu Y h a∧a∉os.map Prod.fst:=fun{a} x=>by
  have:a∉os.map Prod.fst:=fun hx=>by
   refine wS (ao.mp hx) fun p hp s4=>?_;subst s4;have:=x.1;rw[B.l9 nd hp]at this;injection this
  exact⟨⟨by have:=x.1;rwa [B.jo ‹_›]at this,x.2⟩,this⟩
 refine⟨⟨w.rd.fn,w.rd.top,w.rd.sub,w.rd.vars,fun a cl e=>w.rd.cells a cl (le e),⟨(rY w.rd.own.1).1,fun n a e=>(rY (w.rd.own.2 n a e)).1⟩,w.rd.glob⟩,fun a o e=>?_,w.names,w.ns,⟨?_,w.iB.2⟩,w.locs,fun v s5 hk=>?_,w.apart,fun v s5 hk=>?_,fun a ha=>?_⟩
 ·by_cases q:a∈os.map Prod.fst
  ·refine wS (ao.mp q) fun p hp s4=>?_;subst s4;rw[Jm hp nd]at e;obtain rfl:=bf e;exact⟨_,xz p hp,.refl _⟩
  ·rw[nB q]at e;exact w.keep a o e
 ·exact U (nB (rY w.rd.own.1).2) w.iB.1
 ·refine Op (w.kq v s5 hk) fun k1 Ut=>jJ Ut fun b y k2 k3 tZ k5=>?_;exact⟨k1,b,y,k2,k3,by refine U (nB (rY (w.rd.own.2 _ _ k2)).2) ?_;exact tZ,k5⟩
 ·refine dS (w.caps v s5 hk) fun b j4 y k2 k3 tZ=>?_;refine uc b j4 y k2 ?_ tZ;exact U (nB (rY (w.rd.own.2 _ _ k2)).2) k3
 ·have hx:a∉os.map Prod.fst:=fun hx=>by
   refine wS (ao.mp hx) fun p hp s4=>?_;subst s4;exact ha (hm p hp)
  refine U (nB hx) ?_;refine aO (nZ.mp ha) fun cl e=>?_;exact w.mem a (by refine U (le e) ?_;simp)
theorem bu.Sf {os:Objs} (w:bu c (putL bs os) Z h V O Y) (nd:(os.map Prod.fst).Nodup) (hp:∀p∈os,bs p.1=none∧Z p.1=none∧c.H0.get? p.1=none∧p.2.cls≠ .type "frame"∧∀x,p.2.data≠ .cell x)
 (hl:V.locals∉os.map Prod.fst) (hc:∀n a,V.cells.lookup n=some a→a∉os.map Prod.fst):(∀p∈os,h.get? p.1=some p.2)∧(∀p∈os,Y p.1=none)∧bu c bs Z h V O (Y.add os):=by
 have xz:∀p∈os,h.get? p.1=some p.2:=fun p eF=>by
  refine wS (w.keep p.1 p.2 (Jm eF nd)) fun bR e1 q=>?_;rw[q.eq (hp p eF).2.2.2.1]at e1;exact e1
 have hm:∀p∈os,Y p.1=none:=fun p eF=>w.J_ (Jm eF nd);have rY:∀{a:Addr},lu Y h a→a∉os.map Prod.fst→lu (Y.add os) h a:=fun{a} x hx=>⟨by refine U (B.jo hx) ?_;exact x.1,x.2⟩;have lQ:∀{a:Addr},bs a≠none→a∉os.map Prod.fst:=fun{a} e hx=>by
  refine wS (ao.mp hx) fun p eF s4=>?_;subst s4;exact e (hp p eF).1
 refine⟨xz,hm,⟨⟨w.rd.fn,w.rd.top,w.rd.sub,w.rd.vars,fun a cl e=>?_,⟨rY w.rd.own.1 hl,fun n a e=>rY (w.rd.own.2 n a e) (hc n a e)⟩,w.rd.glob⟩,fun a o e=>w.keep a o ?_,w.names,w.ns,⟨?_,w.iB.2⟩,w.locs,fun v s5 hk=>?_,w.apart,fun v s5 hk=>?_,fun a ha=>?_⟩⟩
 ·by_cases q:a∈os.map Prod.fst
  ·refine wS (ao.mp q) fun p eF s4=>?_;subst s4;rw[B.l9 nd eF]at e;obtain rfl:=bf e;exact⟨⟨_,xz p eF,rfl,(hp p eF).2.2.2.1⟩,(hp p eF).2.1,(hp p eF).2.2.1⟩
  ·rw[B.jo q]at e;exact w.rd.cells a cl e
 ·refine U (nB (lQ (by refine U e ?_;simp))) ?_;exact e
 ·have:=w.iB.1
  rwa [nB hl]at this
 ·refine Op (w.kq v s5 hk) fun k1 YN=>jJ YN fun b y k2 k3 tZ k5=>?_;exact⟨k1,b,y,k2,k3,by rwa [nB (hc _ _ k2)]at tZ,k5⟩
 ·refine dS (w.caps v s5 hk) fun b j4 y k2 k3 tZ=>?_;exact uc b j4 y k2 (by rwa [nB (hc _ _ k2)]at k3) tZ
 ·by_cases q:a∈os.map Prod.fst
  ·refine wS (ao.mp q) fun p eF s4=>?_;subst s4;exact(hp p eF).1
  ·rw[B.jo q]at ha;have:=w.mem a ha
   rwa [nB q]at this
theorem aN.chg (r:gj c Z s.heap Y) (x:uu S s.heap s'.heap) (hS:∀a∈S,Y a≠none) (hf:∀a∈S,∀o,s.heap.get? a=some o→j0 o→∃o',s'.heap.get? a=some o'∧j0 o')
 (top:c.H0.StaysIn s'.heap) (ex:qP s.heap Z Z') (sub:Sub Z' s'.heap) (same:∀a,a∉S→I a=Y a) (ju:∀a∈S,∀cl,I a=some cl→∃o,s'.heap.get? a=some o∧eN c Z' o cl)
 (tok:s.toks≤s'.toks) (rest:∃h t,s'={s with heap:=h,toks:=t}):aN c Y s Z I s' Z':=by
 have zn:∀{a:Addr} {o:Obj},s.heap.get? a=some o→Z a=none→Z' a=none:=fun{a o} e h=>by
  induction q:Z' a with
  |none=>rfl
  |some fZ=>
   rcases ex.2 a fZ q with e'|e'
   ·rw[h]at e';injection e'
   ·exact absurd (cE e) (eB.mpr e')
 refine⟨x.size,fun a o ha e=>x.keep a o (fun hx=>hS a hx ha) e,fun b o e h=>?_,top,ex.1,fun a o e=>(ex.2 a o e).imp id .inr,sub,fun a h=>?_,fun a cl e=>?_,tok,rest⟩
 ·by_cases q:b∈S
  ·exact hf b q o e h
  ·refine wS (x.keep b o q e) fun o' e' q'=>?_;exact⟨o',e',q'.AV h⟩
 ·by_cases q:a∈S
  ·exact .inl (hS a q)
  ·rw[same a q]at h;exact .inl h
 ·by_cases q:a∈S
  ·refine aO (nZ.mp (hS a q)) fun uT iQ=>?_;refine b4 (r a uT iQ) fun aG hz h0=>?_;refine wS aG fun o xz J=>?_;exact⟨ju a q cl e,zn xz hz,h0⟩
  ·rw[same a q]at e;refine b4 (r a cl e) fun aG hz h0=>?_;refine wS aG fun o xz hc=>?_;refine wS (x.keep a o q xz) fun o' e' q'=>?_;exact⟨⟨o',e',(hc.same q').mono ex.1⟩,zn xz hz,h0⟩
theorem aN.put (r:gj c Z s.heap Y) (top:c.H0.StaysIn s.heap) (sub:Sub Z s.heap) (ha:Y a≠none∧Y a≠some .any) (av:Heap.SameBut a s.heap h') (xz:h'.get? a=some o') (hf:∀H,o'.data≠ .fields H) (hc:eN c Z o' eu) (tok:s.toks≤t):aN c Y s Z (Y.put a (some eu)) {s with heap:=h',toks:=t} Z:=by
 refine aO (nZ.mp ha.1) fun uT iQ=>?_;refine b4 (r a uT iQ) fun aG hz h0=>?_;obtain⟨abh,Hx,Fd⟩:=aG;refine aN.chg (S:=[a]) r (.of_same av (.head _)) (fun b hb=>by refine U (fq.mp hb) ?_;exact ha.1) (fun b hb o e h=>?_) (fun b o e=>?_) (.refl ..) (fun b o e=>?_) (fun b hb=>Tk (fun q=>hb (by refine U q ?_;exact .head _))) (fun b hb cl e=>?_) tok ⟨_,_,rfl⟩
 ·rw[fq.mp hb,Hx]at e;obtain rfl:=bf e;exact absurd h.2 (Fd.RW (by rintro rfl;exact ha.2 iQ))
 ·exact(av.2 b (by rintro rfl;rw[h0]at e;injection e)).trans (top b o e)
 ·exact⟨(av.2 b (by rintro rfl;rw[hz]at e;injection e)).trans (sub.get e),(sub b o e).2⟩
 ·rw[fq.mp hb]at e⊢;rw[B.ai]at e;obtain rfl:=bf e;exact⟨o',xz,hc⟩
theorem aN.new (r:gj c Z s.heap Y) (top:c.H0.StaysIn s.heap) (sub:Sub Z s.heap) (hf:o.isFreed=false) (hc:eN c Z o cl) (tok:s.toks≤t):aN c Y s Z (Y.put s.heap.objs.size (some cl)) {s with heap:=s.heap.push o,toks:=t} Z:=by
 have M2:Y s.heap.objs.size=none:=by
  induction q:Y s.heap.objs.size with
  |none=>rfl
  |some cl=>
   refine Op (r _ cl q) fun aG J=>?_;refine wS aG fun o' e' J=>?_;exact absurd (cE e') (yy _)
 refine⟨by rw[eS];exact bV _ _,fun a o' J e=>⟨o',bX _ e,.refl _⟩,fun b o' e h=>⟨o',bX _ e,h⟩,fun b o' e=>bX _ (top b o' e),.refl _,fun J J e=>.inl e,fun b o' e=>⟨bX _ (sub.get e),(sub b o' e).2⟩,fun a h=>?_,fun a eu e=>?_,tok,⟨_,_,rfl⟩⟩
 ·by_cases q:a=s.heap.objs.size
  ·exact .inr (bT q.symm)
  ·rw[B.aa _ _ q]at h;exact .inl h
 ·by_cases q:a=s.heap.objs.size
  ·subst q;rw[B.ai]at e;obtain rfl:=bf e;exact⟨⟨o,dN _ hf,hc⟩,gC sub (aH _),mG top (aH _)⟩
  ·rw[B.aa _ _ q]at e;refine Op (r a eu e) fun aG h2=>?_;refine wS aG fun o' e' h'=>?_;exact⟨⟨o',bX _ e',h'⟩,h2⟩
theorem gj.fresh (r:gj c Z h Y) (ha:h.objs.size≤a):Y a=none:=by
 induction q:Y a with
 |none=>rfl
 |some cl=>
  refine Op (r _ cl q) fun aG J=>?_;refine wS aG fun o' e' J=>?_;exact absurd (cE e') (eB.mpr ha)
end
end
structure dG (c:ah) (S:List Addr) (s s':Shared) (Z Z':TW):Prop where
 chg:uu S s.heap s'.heap
 top:c.H0.StaysIn s'.heap
 ext:qP s.heap Z Z'
 sub:Sub Z' s'.heap
 up:cy s s'
 fld:∀b o,s.heap.get? b=some o→j0 o→∃o',s'.heap.get? b=some o'∧j0 o'
 rest:∃h t,s'={s with heap:=h,toks:=t}
noncomputable def fT (h:Heap) (os:Objs):Prop:=∀p∈os,h.get? p.1=some p.2
noncomputable def Rows (os:Objs):Prop:=(os.map Prod.fst).Nodup∧∀p∈os,p.2.cls≠ .type "frame"∧∀x,p.2.data≠ .cell x
theorem dG.af {c:ah} {os:Objs} {s s':Shared} {Z Z':TW} (x:dG c (os.map Prod.fst) s s' Z Z') (xz:fT s.heap os) (hr:Rows os):ki s s':=
 ⟨fun b j4 e hb=>x.fld b j4 e hb,x.up.size,x.up.toks,x.rest⟩
structure qT (c:ah) (J:TW→List D→Addr→Objs→Prop) (Src:B→Prop) (oz:Expr→Prop:=fun K=>True):Prop where
 mono:∀{Z Z':TW} {l:List D} {it:Addr} {os:Objs},fK Z Z'→J Z l it os→J Z' l it os
 rows:∀{Z:TW} {l:List D} {it:Addr} {os:Objs},J Z l it os→Rows os
 iter:∀{A:Around} {s:Shared} {Z:TW} {it:Addr} {os:Objs} {l:List D} {Q:Value→Shared→Prop} {E:Value→Shared→Prop},fT s.heap os→J Z l it os→Q (.ref it) s→wpAny c.M A (pyIter (.ref it)) Q E s
 go:∀{A:Around} {s:Shared} {Z:TW} {it:Addr} {os:Objs} {l:List D} {v:Value} {bk:Expr} {Q:Unit→Shared→Prop} {E:Value→Shared→Prop},oz bk→Sub Z s.heap→c.H0.StaysIn s.heap→(∀p∈os,Z p.1=none∧c.H0.get? p.1=none)→fT s.heap os→J Z l it os→
  (∀s' bq,dG c (os.map Prod.fst) s s' Z Z→bq.map Prod.fst=os.map Prod.fst→fT s'.heap bq→J Z l it bq→Q () s')→wpAny c.M A (letOwnedTupleGo bk (.ref it) v) Q E s
 next:∀{A:Around} {V:Env} {s:Shared} {Z:TW} {O:XV} {Y:B} {it:Addr} {os:Objs} {d:D} {l:List D} {Q:Option Value→Shared→Prop} {E:Value→Shared→Prop},A.handled=none→bz c Z s.heap V O Y→Src Y→(∀p∈os,Z p.1=none∧c.H0.get? p.1=none)→fT s.heap os→J Z (d::l) it os→
  (∀v s' Z' bq,dG c (os.map Prod.fst) s s' Z Z'→bq.map Prod.fst=os.map Prod.fst→fT s'.heap bq→J Z' l it bq→Tells Z' v d→Q (some v) s')→wpAny c.M A (pyNext (.ref it)) Q E s
 fin:∀{A:Around} {V:Env} {s:Shared} {Z:TW} {O:XV} {Y:B} {it:Addr} {os:Objs} {Q:Option Value→Shared→Prop} {E:Value→Shared→Prop},A.handled=none→bz c Z s.heap V O Y→Src Y→(∀p∈os,Z p.1=none∧c.H0.get? p.1=none)→fT s.heap os→J Z [] it os→
  (∀s' Z',dG c (os.map Prod.fst) s s' Z Z'→Q none s')→wpAny c.M A (pyNext (.ref it)) Q E s
structure jT (c:ah) (J:TW→List D→Addr→Objs→Prop) (Src:B→Prop) (oz:Expr→Prop:=fun K=>True):Prop where
 mono:∀{Z Z':TW} {l:List D} {it:Addr} {os:Objs},fK Z Z'→J Z l it os→J Z' l it os
 rows:∀{Z:TW} {l:List D} {it:Addr} {os:Objs},J Z l it os→Rows os
 iter:∀{A:Around} {s:Shared} {Z:TW} {it:Addr} {os:Objs} {l:List D} {Q:Value→Shared→Prop} {E:Value→Shared→Prop},fT s.heap os→J Z l it os→Q (.ref it) s→wpAny c.M A (pyIter (.ref it)) Q E s
 next:∀{A:Around} {V:Env} {s:Shared} {Z:TW} {O:XV} {Y:B} {it:Addr} {os:Objs} {d:D} {l:List D} {Q:Option Value→Shared→Prop} {E:Value→Shared→Prop},A.handled=none→bz c Z s.heap V O Y→Src Y→(∀p∈os,Z p.1=none∧c.H0.get? p.1=none)→fT s.heap os→J Z (d::l) it os→
  (∀v s' Z' bq,dG c (os.map Prod.fst) s s' Z Z'→bq.map Prod.fst=os.map Prod.fst→fT s'.heap bq→Rows bq→Tells Z' v d→
   (∀{P9:Around} {bk:Expr} {xj:Unit→Shared→Prop} {lU:Value→Shared→Prop},oz bk→(∀p∈bq,Z' p.1=none∧c.H0.get? p.1=none)→
    (∀s'' vE,dG c (bq.map Prod.fst) s' s'' Z' Z'→vE.map Prod.fst=bq.map Prod.fst→fT s''.heap vE→J Z' l it vE→xj () s'')→wpAny c.M P9 (letOwnedTupleGo bk (.ref it) v) xj lU s')→Q (some v) s')→wpAny c.M A (pyNext (.ref it)) Q E s
 fin:∀{A:Around} {V:Env} {s:Shared} {Z:TW} {O:XV} {Y:B} {it:Addr} {os:Objs} {Q:Option Value→Shared→Prop} {E:Value→Shared→Prop},A.handled=none→bz c Z s.heap V O Y→Src Y→(∀p∈os,Z p.1=none∧c.H0.get? p.1=none)→fT s.heap os→J Z [] it os→
  (∀s' Z',dG c (os.map Prod.fst) s s' Z Z'→Q none s')→wpAny c.M A (pyNext (.ref it)) Q E s
theorem qT.c7 (x:qT c J Src oz):jT c J Src oz:=
 ⟨x.mono,x.rows,x.iter,fun hh r src cH st mO q=>x.next hh r src cH st mO fun v s' Z' bq i8 hk xz vh tv=>q v s' Z' bq i8 hk xz (x.rows vh) tv fun uz IK q'=>x.go uz i8.sub i8.top IK xz vh q',x.fin⟩
noncomputable def bA (c:ah) (k:Nat) (O:XV) (Y:B) (e:Expr) (J:TW→List D→Addr→Objs→Prop) (items:List D):Prop:=
 ∀(A:Around) (V:Env) (s:Shared) (Z:TW),Ok c k A s→bz c Z s.heap V O Y→∀(Q E:Value→Shared→Prop),
  (∀a os s' Z',Step c s Z s' Z'→fT s'.heap os→(∀p∈os,s.heap.objs.size≤p.1∧Z' p.1=none)→J Z' items a os→Q (.ref a) s')→wpAny c.M A (eval e V) (fun x s₁=>wpAny c.M A (pyIter x) Q E s₁) E s
noncomputable def bh (c:ah) (O:XV) (Y:B) (t:Expr) (d:D) (aV:XV→Prop):Prop:=
 ∀(A:Around) (V:Env) (s:Shared) (bs Z:TW) (v:Value),A.handled=none→bu c bs Z s.heap V O Y→Tells Z v d→∀(Q:Unit→Shared→Prop) (E:Value→Shared→Prop),
  (∀NE s' Z',Run Y s Z Y s' Z'→bu c bs Z' s'.heap V NE Y→aV NE→Q () s')→wpAny c.M A (assign t V v) Q E s
theorem bh.name (eV:dU n d O NE) (h:aV NE):bh c O Y (.Name n p) d aV:=
 fun A V s bs Z v hh w t Q E q=>w6 (nk w eV t fun s' m cP=>q NE s' Z ⟨m,.refl _,fun K K h=>.inl h,fun K h=>.inl h⟩ cP h)
theorem dG.DO {c:ah} {os bq:Objs} {Y:B} {s s':Shared} {Z Z':TW} (x:dG c (os.map Prod.fst) s s' Z Z') (r:gj c Z s.heap (Y.add os)) (xz:fT s.heap os) (hr:Rows os) (sN:Rows bq) (hk:bq.map Prod.fst=os.map Prod.fst) (bG:fT s'.heap bq):aN c (Y.add os) s Z (Y.add bq) s' Z':=by
 refine aN.chg r x.chg (fun a ha=>?_) (fun a ha o e h=>?_) x.top x.ext x.sub (fun a ha=>?_) (fun a ha cl e=>?_) x.up.toks x.rest
 ·refine wS (ao.mp ha) fun p hp s4=>?_;subst s4;refine U (B.l9 hr.1 hp) ?_;simp
 ·exact x.fld a o e h
 ·exact U (B.jo ha) (U (B.jo (by refine U hk ?_;exact ha)) rfl)
 ·rw[←hk]at ha;refine wS (ao.mp ha) fun p hp s4=>?_;subst s4;rw[B.l9 sN.1 hp]at e;obtain rfl:=bf e;exact fW _ (bG p hp) rfl ((sN.2 p hp).1)
theorem dG.toEnd {c:ah} {os:Objs} {Y:B} {s s':Shared} {Z Z':TW} (x:dG c (os.map Prod.fst) s s' Z Z') (r:gj c Z s.heap (Y.add os)) (xz:fT s.heap os) (hr:Rows os) (hm:∀p∈os,Y p.1=none):aN c (Y.add os) s Z Y s' Z':=by
 refine aN.chg r x.chg (fun a ha=>?_) (fun a ha o e h=>?_) x.top x.ext x.sub (fun a ha=>?_) (fun a ha cl e=>?_) x.up.toks x.rest
 ·refine wS (ao.mp ha) fun p hp s4=>?_;subst s4;refine U (B.l9 hr.1 hp) ?_;simp
 ·exact x.fld a o e h
 ·exact U (B.jo ha) rfl
 ·refine wS (ao.mp ha) fun p hp s4=>?_;subst s4;rw[hm p hp]at e;injection e
theorem dG.u7 {c:ah} {os:Objs} {s s':Shared} {Z Z':TW} (x:dG c (os.map Prod.fst) s s' Z Z') (xz:fT s.heap os) (hr:Rows os) (Y):Run Y s Z Y s' Z':=⟨x.af xz hr,x.ext.1,fun a o e=>(x.ext.2 a o e).imp id .inr,fun K h=>.inl h⟩
theorem bu.shrink (w:bu c bs Z h V O Y) (le:∀a cl,I a=some cl→Y a=some cl):bu c bs Z h V O I:=by
 have no:∀{a:Addr},Y a=none→I a=none:=fun{a} e=>by
  induction q:I a with
  |none=>rfl
  |some cl=>rw[le a cl q]at e;injection e
 refine⟨⟨w.rd.fn,w.rd.top,w.rd.sub,w.rd.vars,fun a cl e=>w.rd.cells a cl (le a cl e),⟨⟨no w.rd.own.1.1,w.rd.own.1.2⟩,fun n a e=>⟨no (w.rd.own.2 n a e).1,(w.rd.own.2 n a e).2⟩⟩,w.rd.glob⟩,w.keep,w.names,w.ns,w.iB,w.locs,w.kq,w.apart,w.caps,fun a ha=>?_⟩;refine aO (nZ.mp ha) fun cl e=>?_;exact w.mem a (by refine U (le a cl e) ?_;simp)
theorem bu.news {c:ah} {bs Z aC:TW} {s s₁:Shared} {V:Env} {O:XV} {Y:B} {os:Objs} (w:bu c bs Z s.heap V O Y) (t:Step c s Z s₁ aC) (hr:Rows os) (xz:fT s₁.heap os) (M2:∀p∈os,s.heap.objs.size≤p.1∧aC p.1=none):(∀p∈os,Y p.1=none)∧bu c bs aC s₁.heap V O (Y.add os):=by
 have w₁:=w.step t;have out:∀{a:Addr},a<s.heap.objs.size→a∉os.map Prod.fst:=fun{a} h hx=>by
  refine wS (ao.mp hx) fun p hp s4=>?_;subst s4;exact absurd h (eB.mpr (M2 p hp).1)
 have hm:∀p∈os,Y p.1=none:=fun p hp=>w.rd.fresh (M2 p hp).1;refine⟨hm,⟨w₁.rd.fn,w₁.rd.top,w₁.rd.sub,w₁.rd.vars,fun a cl e=>?_,⟨?_,fun n a e=>?_⟩,w₁.rd.glob⟩,w₁.keep,w₁.names,w₁.ns,w₁.iB,w₁.locs,w₁.kq,w₁.apart,w₁.caps,fun a ha=>?_⟩
 ·by_cases q:a∈os.map Prod.fst
  ·refine wS (ao.mp q) fun p hp s4=>?_;subst s4;rw[B.l9 hr.1 hp]at e;obtain rfl:=bf e;exact⟨⟨_,xz p hp,rfl,(hr.2 p hp).1⟩,(M2 p hp).2,mG w.rd.top (M2 p hp).1⟩
  ·rw[B.jo q]at e;exact w₁.rd.cells a cl e
 ·exact⟨by refine U (B.jo (out w.rd.own.1.2)) ?_;exact w₁.rd.own.1.1,w₁.rd.own.1.2⟩
 ·exact⟨by refine U (B.jo (out (w.rd.own.2 n a e).2)) ?_;exact(w₁.rd.own.2 n a e).1,(w₁.rd.own.2 n a e).2⟩
 ·by_cases q:a∈os.map Prod.fst
  ·refine wS (ao.mp q) fun p hp s4=>?_;subst s4
   induction om:bs p.1 with
   |none=>rfl
   |some o=>exact absurd (w.lt om) (eB.mpr (M2 p hp).1)
  ·rw[B.jo q]at ha;exact w₁.mem a ha
theorem FM.for (hh:c.hd=false) (c7:jT c J Src oz)
 (hi:bA c k O Y iter J items) (Inv:List D→XV→B→Prop) (h0:Inv items O Y) (fO:∀l NE I,Inv l NE I→Src I)
 (turn:∀d rest NE I,Inv (d::rest) NE I→bh c NE I bk d fun dF=>wE c k dF I body (EF (Inv rest) Sc))
 (fin:∀NE I,Inv [] NE I→wE c k NE I orelse Sc)
 (hs:∀V x,foldedSetIterable iter V x=pure x:=by intros;rfl) (uz:oz bk:=by trivial):FM c k O Y (.For bk iter body orelse pos) Sc:=by
 intro A V s bs Z ok w Q E q;have hand:=ok.hand hh;refine wpAny_For (hi A V s Z ok w.rd _ E fun a os s₁ aC EQ xz oU mO=>?_) (hs V);have sh:=c7.rows mO;have apart:∀p∈os,bs p.1=none∧c.H0.get? p.1=none:=fun p hp=>⟨by
  rcases om:bs p.1 with _|o
  ·rfl
  ·exact absurd (w.lt om) (eB.mpr (oU p hp).1),mG w.rd.top (oU p hp).1⟩
 have Zq:V.locals∉os.map Prod.fst:=fun hx=>by
  refine wS (ao.mp hx) fun p hp e=>?_;exact absurd w.rd.own.1.2 (eB.mpr (by refine ZB e ?_;exact(oU p hp).1))
 have cout:∀n a,V.cells.lookup n=some a→a∉os.map Prod.fst:=fun n a ha hx=>by
  refine wS (ao.mp hx) fun p hp e=>?_;exact absurd (w.rd.own.2 n a ha).2 (eB.mpr (by refine ZB e ?_;exact(oU p hp).1))
 refine Op (w.news EQ sh xz oU) fun hm acF=>?_;refine codeAny_forLoop_any (fun n s₂=>∃aD NE I Z' bq,n=aD.length∧Inv aD NE I∧bu c bs Z' s₂.heap V NE (I.add bq)∧fT s₂.heap bq∧bq.map Prod.fst=os.map Prod.fst∧(∀p∈bq,I p.1=none)∧J Z' aD a bq∧Run Y s Z I s₂ Z') ?_ items.length ⟨items,O,Y,aC,os,rfl,h0,acF,xz,rfl,hm,mO,EQ.run Y⟩;intro n s₂ Go;refine X5 Go fun aD NE I bx Kw s4 inv w₂ vV Vn hm₂ Hu sY=>?_;subst s4;have yg:=c7.rows Hu;have ap:∀{bq:Objs},bq.map Prod.fst=os.map Prod.fst→∀p∈bq,bs p.1=none∧c.H0.get? p.1=none:=fun{bq} e p hp=>by
  have:p.1∈os.map Prod.fst:=by refine ZB e ?_;exact cz hp
  refine wS (ao.mp this) fun c6 eF e'=>?_;exact ZB e' (apart c6 eF)
 have MG:bz c bx s₂.heap V NE I:=(w₂.shrink (I:=I) fun a cl e=>by
  rw[B.jo];exact e;intro hx;refine wS (ao.mp hx) fun p hp s4=>?_;subst s4;rw[hm₂ p hp]at e;injection e).rd
 have MW:∀p∈Kw,bx p.1=none∧c.H0.get? p.1=none:=fun p hp=>(w₂.rd.cells p.1 _ (B.l9 yg.1 hp)).2;have lI:=ok.af sY.af;rcases aD with _|⟨d,rest⟩
 ·refine c7.fin hand MG (fO _ _ _ inv) MW vV Hu fun aF er i8=>?_;have nJ:=sY.trans (i8.u7 vV yg I);refine fin NE I inv A V aF bs er (ok.af nJ.af) (w₂.after (i8.toEnd w₂.rd.cells vV yg hm₂)) _ _ fun fZ f iY oh Z3 iP dz h=>?_;exact q fZ f iY oh (nJ.trans Z3) iP dz h
 ·refine c7.next hand MG (fO _ _ _ inv) MW vV Hu fun v aF er Gk i8 vC qJ qE tv FN=>?_;have nJ:=sY.trans (i8.u7 vV yg I);have w₃:=w₂.after (i8.DO w₂.rd.cells vV yg qE vC qJ);have IA:∀p∈Gk,er p.1=none∧c.H0.get? p.1=none:=fun p hp=>(w₃.rd.cells p.1 _ (B.l9 qE.1 hp)).2;refine FN uz IA fun iY kN z4 xM Aq za=>?_;have r6:=c7.rows za;have D6:=nJ.trans (z4.u7 qJ qE I);have iP:=w₃.after (z4.DO w₃.rd.cells qJ qE r6 xM Aq);have adJ:∀p∈kN,er p.1=none∧c.H0.get? p.1=none:=fun p hp=>(iP.rd.cells p.1 _ (B.l9 r6.1 hp)).2;have oQ:kN.map Prod.fst=os.map Prod.fst:=xM.trans (vC.trans Vn);have NG:∀p∈kN,I p.1=none:=fun p hp=>by
   have:p.1∈Kw.map Prod.fst:=by refine ZB vC (ZB xM ?_);exact cz hp
   refine wS (ao.mp this) fun c6 eF e'=>?_;exact ZB e' (hm₂ c6 eF)
  refine turn d rest NE I inv A V iY (putL bs kN) er v hand (iP.afy r6.1 Aq NG) tv _ _ fun BO gY t9 Ah g6 dH=>?_;refine dH A V gY (putL bs kN) t9 (ok.af (D6.trans Ah).af) g6 _ _ fun fZ f tC oJ Yw nh dz h=>?_;have FL:=Ah.trans Yw;have Cu:=D6.trans FL;obtain⟨PN,FP,vP⟩:=bu.Sf nh r6.1 (fun p hp=>by
   have lt:=cE (Aq p hp);refine Op (r6.2 p hp) fun hf hd=>?_;exact AA ((ap oQ p hp).1) (FL.CP (adJ p hp).1 (NG p hp) lt) ((ap oQ p hp).2) hf hd) (by refine U oQ ?_;exact Zq) (fun n a e=>by refine U oQ ?_;exact cout n a e)
  have Gr:bu c bs oJ tC.heap V fZ.O fZ.Y:=vP.shrink fun a cl e=>by
   rw[B.jo];exact e;intro hx;refine wS (ao.mp hx) fun p hp s4=>?_;subst s4;rw[FP p hp]at e;injection e
  have O1:J oJ rest a kN:=c7.mono FL.le za
  induction dz with
  |next=>exact⟨rest.length,jy _,rest,_,_,oJ,kN,rfl,h,vP,PN,oQ,FP,O1,Cu⟩
  |cont=>exact⟨rest.length,jy _,rest,_,_,oJ,kN,rfl,h,vP,PN,oQ,FP,O1,Cu⟩
  | @brk GK kg=>exact q (.next GK kg) .next tC oJ Cu Gr .next h
  |ret t=>exact q _ _ tC oJ Cu Gr (.ret t) h
theorem Step.alloc (top:c.H0.StaysIn s.heap) (sub:Sub Z s.heap) (o):Step c s Z {s with heap:=s.heap.push o} Z:=
 ⟨.push ..,fun a o' e=>bX _ (top a o' e),.refl ..,fun a o' e=>⟨bX _ (sub.get e),(sub a o' e).2⟩,aH _,⟨_,_,rfl⟩⟩
theorem Rl {c:ah} {a:Addr} {h h':Heap} (top:c.H0.StaysIn h) (n:c.H0.get? a=none) (x:Heap.ExtBut a h h'):c.H0.StaysIn h':=fun b o e=>x b o (by rintro rfl;rw[n]at e;injection e) (top b o e)
theorem Ly (sub:Sub Z h) (n:Z a=none) (x:Heap.ExtBut a h h'):Sub Z h':=fun b o e=>⟨x b o (by rintro rfl;rw[n]at e;injection e) (sub.get e),(sub b o e).2⟩
theorem dG.same (top:c.H0.StaysIn s.heap) (sub:Sub Z s.heap) (n:Z a=none∧c.H0.get? a=none) (x:Heap.SameBut a s.heap h') (ha:a∈S) (FS:s.toks≤t) (hf:∃o H,s.heap.get? a=some o∧o.data= .fields H):dG c S s {s with heap:=h',toks:=t} Z Z:=
 ⟨.of_same x ha,Rl top n.2 x.extBut,.refl ..,Ly sub n.1 x.extBut,⟨FS,bT x.1.symm⟩,fun b o e hb=>⟨o,x.extBut b o (by rintro rfl;refine eG hf fun o' H e' hd=>?_;rw[e]at e';obtain rfl:=bf e';exact hb.qX H hd) e,hb⟩,⟨_,_,rfl⟩⟩
theorem dG.ext' (top:c.H0.StaysIn s.heap) (sub:Sub Z s.heap) (n:Z a=none∧c.H0.get? a=none) (x:Heap.ExtBut a s.heap h') (ha:a∈S) (u:cy s {s with heap:=h'}) (hf:∃o H,s.heap.get? a=some o∧o.data= .fields H):dG c S s {s with heap:=h'} Z Z:=
 ⟨.abt x u.size ha,Rl top n.2 x,.refl ..,Ly sub n.1 x,u,fun b o e hb=>⟨o,x b o (by rintro rfl;refine eG hf fun o' H e' hd=>?_;rw[e]at e';obtain rfl:=bf e';exact hb.qX H hd) e,hb⟩,⟨_,_,rfl⟩⟩
theorem dG.id (top:c.H0.StaysIn s.heap) (sub:Sub Z s.heap):dG c S s s Z Z:=⟨(gk.refl _).chg S,top,.refl ..,sub,.refl _,fun b o e h=>⟨o,e,h⟩,⟨_,_,rfl⟩⟩
theorem we {c:ah} {A:Around} {s:Shared} {it:Addr} {o:Obj} {n:String} {H:Array Value} {v:Value} {bk:Expr} {Q:Unit→Shared→Prop} {E:Value→Shared→Prop} (xz:s.heap.get? it=some o) (hc:o.cls= .type n) (hd:o.data= .fields H)
 (M2:["enumerate","zip","dict_itemiterator","dict_reverseitemiterator","odict_iterator","itertools.zip_longest","itertools.pairwise"].contains n=false) (h:Q () s):wpAny c.M A (letOwnedTupleGo bk (.ref it) v) Q E s:=by
 have key:∀(v:Value),wpAny c.M A (do
  let(.ref r,.ref a):=(Value.ref it,v)|return
  let o←load r
  match o.cls,o.data with
  | .type n,.fields H=>
   if ["enumerate","zip","dict_itemiterator","dict_reverseitemiterator","odict_iterator","itertools.zip_longest","itertools.pairwise"].contains n&&H[0]?==some (rawInt a)then
    rule "for.unpacks-the-owned-tuple"
    updateField r 0 .none
  |_,_=>pure ()) Q E s:=fun v=>by
  induction v with
  |ref a=>
   refine u8 (kR xz ?_);refine U hc (U hd ?_);simp only[M2,Bool.false_and,j7,jE];exact On h
  |_=>exact On h
 cases bk with
 |Tuple=>exact key v
 |List=>exact key v
 |_=>exact On h
inductive A6 (Z:TW) (l:List D) (it:Addr):Objs→Prop
 |mk (o:Obj) (a:Addr) (H:Array Value) (n i:Nat):o.cls= .type "list_iterator"→o.data= .fields #[.ref a,.int (i:Nat) 0]→Z a=some {cls:=.type "list",data:=.seq H n}→au Z (H.toList.drop i) l→A6 Z l it [(it,o)]
inductive Df (Z:TW) (l:List D) (it:Addr):Objs→Prop
 |mk (o:Obj) (a:Addr) (H:Array Value) (n i:Nat):o.cls= .type "tuple_iterator"→o.data= .fields #[.ref a,.int (i:Nat) 0]→Z a=some {cls:=.type "tuple",data:=.seq H n}→au Z (H.toList.drop i) l→Df Z l it [(it,o)]
theorem r8 {H:Array Value} {i:Nat} {v:Value} {r:List Value} (h:H.toList.drop i=v::r):H[i]?=some v∧H.toList.drop (i+1)=r:=by
 constructor
 ·have:(H.toList.drop i)[0]?=some v:=by refine U h ?_;rfl
  rw[List.getElem?_drop]at this;rw[←vX];simpa using this
 ·have:(H.toList.drop i).drop 1=r:=by refine U h ?_;rfl
  rw[List.drop_drop]at this;exact this
theorem w5 {H:Array Value} {i:Nat} (h:H.toList.drop i=[]):H[i]?=none:=by
 rw[IG]at h;rw[←vX];exact List.getElem?_eq_none h
theorem xg (hc:o.cls= .type n) (M2:n≠"frame") (hd:o.data= .fields H):Rows [(it,o)]:=
 ⟨by simp,fun p hp=>by refine bC hp ?_ fun hp=>?_;exact⟨by refine U hc ?_;simpa using M2,fun x=>by refine U hd ?_;simp⟩;cases hp⟩
theorem cL:fT h [(it,o)]↔h.get? it=some o:=⟨fun x=>x _ (.head _),fun x p hp=>by refine bC hp ?_ fun hp=>?_;exact x;cases hp⟩
theorem S5:qT c A6 (fun J=>True) where
 mono:=fun le ⟨o,a,H,n,i,h2,h3,h4,h5⟩=>⟨o,a,H,n,i,h2,h3,le _ _ h4,h5.mono le⟩
 rows:=fun⟨o,a,H,n,i,h2,h3,h4,h5⟩=>xg h2 (by decide) h3
 iter:=by
  intro A s Z it os l Q E st Go q;obtain⟨o,a,H,n,i,h2,h3,h4,h5⟩:=Go;exact wpAny_pyIter_listiter ⟨o,cL.mp st,h2,h3⟩ q
 go:=by
  intro A s Z it os l v bk Q E _ sub top cH st Go q;obtain⟨o,a,H,n,i,h2,h3,h4,h5⟩:=Go;exact we (cL.mp st) h2 h3 (by decide) (q s _ (.id top sub) rfl st ⟨o,a,H,n,i,h2,h3,h4,h5⟩)
 next:=by
  intro A V s Z O Y it os d l Q E hh r _ cH st Go q;obtain⟨o,a,H,n,i,h2,h3,h4,h5⟩:=Go;rcases Ch:H.toList.drop i with _|⟨v,r'⟩
  ·rw[Ch]at h5;cases h5
  ·rw[Ch]at h5;obtain⟨g1,g2⟩:=r8 Ch;cases h5 with
   |cons t1 fD=>
    refine Dd ⟨o,cL.mp st,h2,h3⟩ ⟨_,r.sub.get h4,rfl,n,rfl⟩ g1 fun h' Yq av=>aS Yq fun o' bG i6 hd'=>?_;exact q v {s with heap:=h'} Z [(it,o')] (dG.same r.top r.sub (cH _ (.head _)) av (.head _) (aH _) ⟨o,_,cL.mp st,h3⟩) rfl (cL.mpr bG) ⟨o',a,H,n,i+1,i6,hd',h4,g2▸fD⟩ t1
 fin:=by
  intro A V s Z O Y it os Q E hh r _ cH st Go q;obtain⟨o,a,H,n,i,h2,h3,h4,h5⟩:=Go;have Ch:H.toList.drop i=[]:=by induction Ch:H.toList.drop i with|nil=>rfl|cons v r'=>rw[Ch]at h5;cases h5
  exact g9 (Gp hh ⟨o,cL.mp st,h2,h3⟩ ⟨_,r.sub.get h4,rfl,n,rfl⟩ (w5 Ch) fun h' x u=>q _ Z (dG.ext' r.top r.sub (cH _ (.head _)) x (.head _) u ⟨o,_,cL.mp st,h3⟩))
theorem gG:jT c A6 (fun J=>True):=S5.c7
theorem SK:qT c Df (fun J=>True) where
 mono:=fun le ⟨o,a,H,n,i,h2,h3,h4,h5⟩=>⟨o,a,H,n,i,h2,h3,le _ _ h4,h5.mono le⟩
 rows:=fun⟨o,a,H,n,i,h2,h3,h4,h5⟩=>xg h2 (by decide) h3
 iter:=by
  intro A s Z it os l Q E st Go q;obtain⟨o,a,H,n,i,h2,h3,h4,h5⟩:=Go;exact wpAny_pyIter_tupleiter ⟨o,cL.mp st,h2,h3⟩ q
 go:=by
  intro A s Z it os l v bk Q E _ sub top cH st Go q;obtain⟨o,a,H,n,i,h2,h3,h4,h5⟩:=Go;exact we (cL.mp st) h2 h3 (by decide) (q s _ (.id top sub) rfl st ⟨o,a,H,n,i,h2,h3,h4,h5⟩)
 next:=by
  intro A V s Z O Y it os d l Q E hh r _ cH st Go q;obtain⟨o,a,H,n,i,h2,h3,h4,h5⟩:=Go;rcases Ch:H.toList.drop i with _|⟨v,r'⟩
  ·rw[Ch]at h5;cases h5
  ·rw[Ch]at h5;obtain⟨g1,g2⟩:=r8 Ch;cases h5 with
   |cons t1 fD=>
    refine wpAny_pyNext_tuple_item ⟨o,cL.mp st,h2,h3⟩ ⟨_,r.sub.get h4,rfl,n,rfl⟩ g1 fun h' Z7 av=>aS Z7 fun o' bG i6 hd'=>?_;exact q v {s with heap:=h'} Z [(it,o')] (dG.same r.top r.sub (cH _ (.head _)) av (.head _) (aH _) ⟨o,_,cL.mp st,h3⟩) rfl (cL.mpr bG) ⟨o',a,H,n,i+1,i6,hd',h4,g2▸fD⟩ t1
 fin:=by
  intro A V s Z O Y it os Q E hh r _ cH st Go q;obtain⟨o,a,H,n,i,h2,h3,h4,h5⟩:=Go;have Ch:H.toList.drop i=[]:=by induction Ch:H.toList.drop i with|nil=>rfl|cons v r'=>rw[Ch]at h5;cases h5
  exact g9 (wpAny_pyNext_tuple_end hh ⟨o,cL.mp st,h2,h3⟩ ⟨_,r.sub.get h4,rfl,n,rfl⟩ (w5 Ch) fun h' x u=>q _ Z (dG.ext' r.top r.sub (cH _ (.head _)) x (.head _) u ⟨o,_,cL.mp st,h3⟩))
theorem vU:jT c Df (fun J=>True):=SK.c7
theorem bA.list (he:f8 c k O Y e (.list l)):bA c k O Y e A6 l:=by
 intro A V s Z ok r Q E q;refine he A V s Z ok r _ E fun v s₁ aC EQ s5=>?_;refine s5.l fun{a H n} h hl=>?_;refine wJ ⟨_,EQ.sub.get h,rfl,_,rfl⟩ ?_;have st:=EQ.trans (Step.alloc EQ.top EQ.sub {cls:=.type "list_iterator",data:=.fields #[.ref a,.int 0 0]});refine q _ [(_,_)] _ _ st (cL.mpr (dN _ rfl)) (fun p hp=>?_) ⟨_,_,_,_,0,rfl,rfl,h,hl⟩;refine bC hp ?_ fun hp=>?_
 ·exact⟨EQ.grow.1,gC EQ.sub (aH _)⟩
 ·cases hp
theorem bA.tup (he:f8 c k O Y e (.tup l)):bA c k O Y e Df l:=by
 intro A V s Z ok r Q E q;refine he A V s Z ok r _ E fun v s₁ aC EQ s5=>?_;refine s5.t fun{a H n} h hl=>?_;refine wpAny_pyIter_tuple ⟨_,EQ.sub.get h,rfl,_,rfl⟩ ?_;have st:=EQ.trans (Step.alloc EQ.top EQ.sub {cls:=.type "tuple_iterator",data:=.fields #[.ref a,.int 0 0]});refine q _ [(_,_)] _ _ st (cL.mpr (dN _ rfl)) (fun p hp=>?_) ⟨_,_,_,_,0,rfl,rfl,h,hl⟩;refine bC hp ?_ fun hp=>?_
 ·exact⟨EQ.grow.1,gC EQ.sub (aH _)⟩
 ·cases hp
section
noncomputable def intsFrom (x:Int):Nat→List D
 |0=>[]
 |n+1=>.int x::intsFrom (x+1) n
inductive AW (Z:TW) (l:List D) (it:Addr):Objs→Prop
 |mk (x:Int) (n:Nat):l=intsFrom x n→AW Z l it [(it,{cls:=.type "range_iterator",dict:=none,data:=.fields #[rawInt x,rawInt (n:Nat),rawInt 1],slots:=#[]})]
theorem aez:qT c AW (fun J=>True) where
 mono:=fun J ⟨x,n,h⟩=>⟨x,n,h⟩
 rows:=fun⟨x,n,h2⟩=>xg rfl (by decide) rfl
 iter:=by
  intro A s Z it os l Q E st Go q;obtain⟨x,n,h2⟩:=Go;exact wpAny_pyIter_rangeiter (cL.mp st) q
 go:=by
  intro A s Z it os l v bk Q E _ sub top cH st Go q;obtain⟨x,n,h2⟩:=Go;exact we (cL.mp st) rfl rfl (by decide) (q s _ (.id top sub) rfl st ⟨x,n,h2⟩)
 next:=by
  intro A V s Z O Y it os d l Q E hh r _ cH st Go q;obtain⟨x,n,h2⟩:=Go;rcases n with _|n
  ·injection h2
  ·refine Op (jd h2) fun s4 eg=>?_;subst s4 eg;refine wpAny_pyNext_range_item (cL.mp st) (Int.natCast_pos.2 (Nat.succ_pos n)) fun h' hit av=>?_;have e:((n+1:Nat):Int)-1=(n:Nat):=dV rfl;rw[e]at hit;exact q _ _ Z [(it,{cls:=.type "range_iterator",dict:=none,data:=.fields #[rawInt (x+1),rawInt (n:Nat),rawInt 1],slots:=#[]})] (dG.same r.top r.sub (cH _ (.head _)) av (.head _) (b7 _) ⟨_,_,cL.mp st,rfl⟩) rfl (cL.mpr hit) ⟨x+1,n,rfl⟩ (.int _ _)
 fin:=by
  intro A V s Z O Y it os Q E hh r _ cH st Go q;obtain⟨x,n,h2⟩:=Go;rcases n with _|n
  ·exact g9 (wpAny_pyNext_range_end hh (cL.mp st) (by simp) fun h' y u=>q _ Z (dG.ext' r.top r.sub (cH _ (.head _)) y (.head _) u ⟨_,_,cL.mp st,rfl⟩))
  ·injection h2
theorem tH:jT c AW (fun J=>True):=aez.c7
section
variable {c:ah} {k:Nat} {O:XV} {Y:B}
theorem bA.range {p pos:Pos} {e:Expr} {n:Nat} (hf:f8 c k O Y (.Name "range" p) (.val (.type "range"))) (he:f8 c k O Y e (.int n)) (M2:n≤1000000)
 (hs:∀V,starEach [e] V=[(false,eval e V)]:=by intro;rfl):bA c k O Y (.Call (.Name "range" p) [e] [] pos) AW (intsFrom 0 n):=by
 intro A V s Z ok r Q E q;refine rq (hf A V s Z ok r _ E fun v s₁ aC EQ s5=>?_);refine s5.v ?_;show wpAny c.M A (callWith pos (.type "range") [] (backTo pos (starEach [e] V)) []) _ E s₁;refine lR (.inl fun a e=>(by injection e)) (nu (.cons he .nil hs) (ok.step EQ) (r.step EQ) (fun V=>by rw[hs];rfl) fun H s₂ bx t₂ aZ=>⟨t₂.top,?_⟩);refine wS (iF aZ) fun v s4 s5=>?_;subst s4;refine s5.i fun t=>?_;refine call_range_1 ?_;have t₃:=(Step.alloc t₂.top t₂.sub {cls:=.type "range",data:=.fields #[.int 0 s₂.toks,.int n t,.int 1 (s₂.toks+1)]}).toks (t:=s₂.toks+1+1) (bV s₂.toks 2);have rs:Builtin.Range.rangeSize 0 n 1=n:=by rw[rangeSize_one];split<;>lia
 have sm:Builtin.Range.small 0 n 1=true:=by
  have dz:∀x:Int,-1000001≤x→x≤1000001→Builtin.Range.rangeFitsLong x=true:=fun x h1 h2=>by
   unfold Builtin.Range.rangeFitsLong;simp only[kJ,rQ];exact Xc h2 h1
  have f:=dz n (qk (by decide) (kr n)) (qk (tD.2 M2) (by decide));unfold Builtin.Range.small;rw[rs,dz 0 (by decide) (by decide),f,dz 1 (by decide) (by decide)];simp only[vM,Bool.true_and,oB];right;exact U (ak (by decide)) f
 refine wpAny_pyIter_range (IsRange.new ..) sm ?_;refine U rs ?_;have t₄:=Step.alloc t₃.top t₃.sub {cls:=.type "range_iterator",data:=.fields #[rawInt 0,rawInt n,rawInt 1]};refine q _ [(_,_)] _ bx (((EQ.trans t₂).trans t₃).trans t₄) (cL.mpr (dN _ rfl)) (fun p hp=>?_) ⟨0,n,rfl⟩;refine bC hp ?_ fun hp=>?_
 ·exact⟨((EQ.trans t₂).trans t₃).grow.1,gC t₃.sub (aH _)⟩
 ·cases hp
noncomputable def rz (c:ah) (Y:B):List Expr→List D→(XV→Prop)→XV→Prop
 |[],[],aV,O=>aV O
 |t::ts,d::ds,aV,O=>bh c O Y t d (rz c Y ts ds aV)
 |_,_,_,_=>False
theorem Mp (hh:A.handled=none):∀{ts:List Expr} {ds:List D} {H:List Value} {O:XV} {s:Shared} {Z:TW},
 rz c Y ts ds aV O→bu c bs Z s.heap V O Y→au Z H ds→(∀NE s' Z',Run Y s Z Y s' Z'→bu c bs Z' s'.heap V NE Y→aV NE→Q () s')→wpAny c.M A (assignInOrder (ts.map fun t=>assign t V) H) Q E s
 |[],[],_,O,s,Z,h,w,_,q=>assignInOrder_nil (q O s Z (.refl ..) w h)
 |[],_::_,_,_,_,_,h,_,_,_=>h.elim
 |_::_,[],_,_,_,_,h,_,_,_=>h.elim
 |t::ts,d::ds,_,O,s,Z,h,w,.cons s5 hl,q=>by
  refine Cd (h A V s bs Z _ hh w s5 _ E fun BB s₁ aC r₁ w₁ h₁=>?_);exact Mp hh h₁ w₁ (hl.mono r₁.le) fun NE s' Z' r' cP h'=>q NE s' Z' (r₁.trans r') cP h'
theorem M0 (hh:A.handled=none) (top:c.H0.StaysIn s.heap) (sub:Sub Z s.heap) (s5:Tells Z v (.tup ds)) (M2:n=ds.length)
 (q:∀H s',Step c s Z s' Z→au Z H ds→Q H s'):wpAny c.M A (unpackItems v n none) Q E s:=by
 refine s5.t fun{a H m} h hl=>?_;have e:n=H.size:=by exact U M2 (ZB hl.length (U gB rfl))
 subst e;refine g9 (wpAny_unpackItems_tuple hh ⟨_,sub.get h,rfl,_,rfl⟩ fun h' x u=>q _ _ ⟨⟨u.size,fun b o e=>⟨o,x b o (fm (cE e)) e,.refl _⟩⟩,fun b o e=>x b o (fm (cE (top b o e))) (top b o e),.refl ..,fun b o e=>⟨x b o (fm (cE (sub.get e))) (sub.get e),(sub b o e).2⟩,u.toks,⟨_,_,rfl⟩⟩ hl)
theorem bh.tuple {O:XV} {ts:List Expr} {ds:List D} {n:Nat} {pos:Pos} {aV:XV→Prop} (h:rz c Y ts ds aV O) (hl:ts.length=ds.length:=by rfl)
 (he:∀V,assignEach ts V=ts.map fun t=>(false,assign t V):=by intro;rfl):bh c O Y (.Tuple ts n pos) (.tup ds) aV:=by
 intro A V s bs Z v hh w s5 Q E q;rw[arm_assign_Tuple];refine u8 (f6 ?_);unfold unpack;have h1:(assignEach ts V).length=ts.length:=by rw[he,b8]
 have h2:(assignEach ts V).findIdx? Prod.fst=none:=by
  rw[he,List.findIdx?_eq_none_iff];intro x hx;refine wS (ao.mp hx) fun t J s4=>?_;subst s4;rfl
 have h3:(assignEach ts V).map Prod.snd=ts.map fun t=>assign t V:=by rw[he,cJ];rfl
 refine U h1 (U h2 (U h3 ?_));refine u8 (bW (M0 hh w.rd.top w.rd.sub s5 hl fun H s₁ EQ aZ=>?_));exact Mp hh h (w.step EQ) aZ fun NE s' Z' r' cP h'=>q NE s' Z' ((EQ.run Y).trans r') cP h'
theorem FM.J8 {Sc:fy→Prop} (hh:c.hd=false) {ts:List Expr} {n:Nat} {p pos:Pos} {e:Expr} (he:aE c k O Y e fun d I=>bh c O I (.Tuple ts n p) d fun NE=>Sc (.next NE I))
 (hs:∀V,swapsWithSole [.Tuple ts n p] e pos.line V=pure false:=by intro;rfl)
 (hw:∀V bs Z h,bu c bs Z h V O Y→swappedStores [.Tuple ts n p] e V=pure none:=by intros;rfl):FM c k O Y (.Assign [.Tuple ts n p] e pos) Sc:=by
 intro A V s bs Z ok w Q E q;refine Assign_Tuple (he A V s Z ok w.rd _ E fun d I v s₁ aC EQ s5 ha=>?_) (hs V) (hw V bs Z s.heap w);exact ha A V s₁ bs aC v (ok.hand hh) (w.after EQ) s5 _ E fun NE s' Z' r' cP h'=>q (.next NE I) .next s' Z' (EQ.run.trans r') cP .next h'
theorem FM.B8 {Sc:fy→Prop} (hh:c.hd=false) {ts:List Expr} {n:Nat} {p pos:Pos} {e:Expr} {d:D} (he:f8 c k O Y e d) (ha:bh c O Y (.Tuple ts n p) d fun NE=>Sc (.next NE Y))
 (hs:∀V,swapsWithSole [.Tuple ts n p] e pos.line V=pure false:=by intro;rfl)
 (hw:∀V bs Z h,bu c bs Z h V O Y→swappedStores [.Tuple ts n p] e V=pure none:=by intros;rfl):FM c k O Y (.Assign [.Tuple ts n p] e pos) Sc:=.J8 hh (.nH he ha) hs hw
end
end
structure aT (c:ah):Prop where
 p:c.p=sE
 K:(KF c.w.params).In c.H0
 lim:c.H0.NoLimit
 bi:∃lQ,c.H0.Ns builtinsNs lQ∧∀x:Str,x≠"__name__"→lQ x=bootBuiltins x
 hd:c.hd=false
 T:c.T=0
theorem aT.at (x:aT c):aT (c.at L):=⟨x.p,x.K,x.lim,x.bi,x.hd,x.T⟩
structure FnAt (c:ah) (f:Addr) (st:Stmt) (qual:Str) (dV:Value):Prop where
 obj:∃o pm cd,c.H0.get? f=some o∧o.data= .func (fdOf st qual dV pm cd)∧c.H0.CodeRec cd qual
 lim:c.H0.NoLimit
 low:c.H0.get? sysModules≠none
theorem aT.low (x:aT c):c.H0.get? sysModules≠none:=by
 have:=x.K sysModules _ (by rfl);refine U this ?_;simp
theorem aT.ns (x:aT c):c.H0.Ns mainGlobals (c.H0.nsMap mainGlobals):=.of_isNs (Jl x.K (by kernel_rfl))
theorem aT.glob (x:aT c) (e:PySem.W.nsIn (KF c.w.params) mainGlobals n=some (some v)):gv c.H0 n v:=by
 refine wS (x.bi) fun lQ hb J=>?_;exact r9 _ lQ x.ns hb (.inl (PySem.W.mg_of x.K x.ns e))
theorem aT.dh (x:aT c) (e:PySem.W.nsIn (KF c.w.params) mainGlobals n=some none) (b:bootBuiltins n=some v) (M2:n≠"__name__"):gv c.H0 n v:=by
 refine wS (x.bi) fun lQ hb h=>?_;exact r9 _ lQ x.ns hb (.inr ⟨PySem.W.mg_none_of x.K x.ns e,(h n M2).trans b⟩)
theorem aT.fn {c:ah} (x:aT c) {f cd:Addr} {st:Stmt} {qual:Str} {dV pm:Value} {bS:Array (Option Value)} {yM:Obj} {H:Array Value} {t:Tok} (e:(KF c.w.params).lookup f=some {cls:=.type "function",data:=.func (fdOf st qual dV pm (.ref cd)),slots:=bS})
 (e':(KF c.w.params).lookup cd=some yM) (e2:yM.data= .fields H) (e3:H[1]?=some (.str qual t)):FnAt c f st qual dV:=
 ⟨⟨_,pm,.ref cd,x.K _ _ e,rfl,⟨cd,yM,H,t,rfl,x.K _ _ e',e2,e3⟩⟩,x.lim,x.low⟩
theorem aT.booked (x:aT c):PySem.NoneBooked c.H0:=⟨_,.of_isNs (Jl x.K (by kernel_rfl)),NX x.K (by kernel_rfl) (by kernel_rfl)⟩
theorem Ja (x:aT c):FnAt c 247 (bF 23) "_law_ends" .none:=x.fn rfl rfl rfl rfl
theorem afe (x:aT c):gv c.H0 "range" (.type "range"):=x.dh (by kernel_rfl) (by decide+kernel) (by decide)
theorem FnAt.def {c:ah} {f:Addr} {st:Stmt} {qual:Str} {dV:Value} (x:FnAt c f st qual dV) (hk:(sF st).kind= .function) (wN:(sF st).isCoroutine=false) (hg:(sF st).isGenerator=false):
 ∃pm cd,Cf c f (fdOf st qual dV pm cd) (gJ st):=by
 refine dS (x.obj) fun o pm cd h1 h2 h3=>?_;exact⟨pm,cd,⟨⟨o,h1,h2⟩,rfl,x.lim,x.low,h3,rfl,rfl,rfl,wN,hg,hk⟩⟩
noncomputable def xB (sc:Scope) (ps ls:List (Str×cZ)) (gs:List Str):Bool:=
 (ps++ls).all (fun x=>(x.2== .loc&&sc.names.lookup x.1==some .local)||(x.2== .aL&&sc.names.lookup x.1==some .cell))&&gs.all (fun x=>sc.names.lookup x==some .globalImplicit)&&
 decide ((ps++ls).map Prod.fst++gs).Nodup&&sc.kind== .function&& !sc.isCoroutine&& !sc.isGenerator
noncomputable abbrev B.no:B:=fun J=>none
theorem eL.fn {c:ah} {k:Nat} {f:Addr} {st:Stmt} {qual:Str} {dV:Value} {ps ls:List (Str×cZ)} {gs:List (Str×Value)} {ds₀ ds:List D} {Y:B} {Sc:D→B→Prop} (h:FnAt c f st qual dV) (ok:xB (sF st) ps ls (gs.map Prod.fst)=true)
 (gl:∀x∈gs,gv c.H0 x.1 x.2) (dH:ds.length=ps.length) (mC:∀pm cd,Binds c (fdOf st qual dV pm cd) ps ds₀ ds)
 (n6:∀L,wE (c.at L) k (vars ps ds ls gs) Y (gJ st) (JH Sc)):eL c (k+1) (.ref f) ds₀ Y Sc:=by
 unfold xB at ok;simp only[kJ,jQ,rQ,oB,kX,Cv]at ok;refine Op ok fun aG h6=>?_;refine Op aG fun aG h5=>?_;refine Op aG fun XD h4=>?_;obtain⟨⟨h1,h2⟩,h3⟩:=XD;refine fE (h.def h4 h5 h6) fun pm cd eU=>?_;exact eL.def eU (mC pm cd) dH h1 (fun x hx=>⟨h2 x.1 (cz hx),gl x hx⟩) h3 n6
theorem cu.fn {c:ah} {k:Nat} {f:Addr} {st:Stmt} {qual:Str} {dV:Value} {ps ls:List (Str×cZ)} {gs:List (Str×Value)} {ds₀ ds:List D} {Y:B} {Sc:D→B→Prop} (h:FnAt c f st qual dV) (ok:xB (sF st) ps ls (gs.map Prod.fst)=true)
 (gl:∀x∈gs,gv c.H0 x.1 x.2) (dH:ds.length=ps.length) (mC:∀pm cd,Binds c (fdOf st qual dV pm cd) ps ds₀ ds)
 (n6:∀L,wE (c.at L) k (vars ps ds ls gs) Y (gJ st) (JH Sc)):cu c (k+1) (.ref f) ds₀ Y Sc:=(eL.fn h ok gl dH mC n6).pm
theorem cg.fn {c:ah} {k:Nat} {f:Addr} {st:Stmt} {qual:Str} {dV:Value} {ps ls:List (Str×cZ)} {gs:List (Str×Value)} {ds:List D} {d:D} (h:FnAt c f st qual dV) (ok:xB (sF st) ps ls (gs.map Prod.fst)=true)
 (gl:∀x∈gs,gv c.H0 x.1 x.2) (dH:ds.length=ps.length) (mC:∀pm cd H,H.length=ps.length→bindArgs (fdOf st qual dV pm cd) ⟨H,[]⟩=pure ((ps.map Prod.fst).zip H))
 (n6:∀L,wE (c.at L) k (vars ps ds ls gs) B.no (gJ st) (pL d)):cg c (k+1) (.ref f) ds d:=
 cu.pc (cu.fn h ok gl dH (fun pm cd=>.plain dH (mC pm cd)) (fun L A V s bs Z ok w Q E q=>n6 L A V s bs Z ok w Q E fun o f s' Z' r cP dz h=>q o f s' Z' r cP dz (by cases o<;>first|exact h|exact(h:_=_).symm)))
theorem cG {c:ah}:∀x∈([]:List (Str×Value)),gv c.H0 x.1 x.2:=fun J h=>nomatch h
theorem bB {c:ah} {n:Str} {v:Value} {l:List (Str×Value)} (h:gv c.H0 n v) (r:∀x∈l,gv c.H0 x.1 x.2):∀x∈(n,v)::l,gv c.H0 x.1 x.2:=fun x hx=>by
 refine bC hx ?_ fun hx=>?_
 ·exact h
 ·exact r x hx
noncomputable def cA (x y:Str):Bool:=Txt.startswith (x++Str.ofString "/") (y++Str.ofString "/")||Txt.startswith (y++Str.ofString "/") (x++Str.ofString "/")
theorem LR:(Str.ofString "/").length=1:=by decide+kernel
theorem CT (x y:Str):(x++y).length=x.length+y.length:=strLen_append x y
theorem Mw (hx:x.length≤1000) (No:y.length≤1000) (h1:f8 c k O Y (.Name n p) (.str x)) (h2:f8 c k O Y (.Name m q) (.str y)) (s1:f8 c k O Y (.Constant (.str "/") u r) (.str "/")) (s2:f8 c k O Y (.Constant (.str "/") w H8) (.str "/")) (hl:(c5.endLine==pos.line)=true):f8 c k O Y (.Call (.Attribute (.BinOp (.Name n p) .Add (.Constant (.str "/") u r) nL) "startswith" c5) [.BinOp (.Name m q) .Add (.Constant (.str "/") w H8) lT] [] pos) (.val (.bool (Txt.startswith (x++Str.ofString "/") (y++Str.ofString "/")))):=
 f8.startswith (f8.bin h1 s1 (Rs.qw (by refine U LR ?_;exact fU ‹_› (by decide)))) (f8.bin h2 s2 (Rs.qw (by refine U LR ?_;exact fU ‹_› (by decide)))) (by intro;rfl) (by intro;rfl) hl
theorem WQ (hx:x.length≤1000) (No:y.length≤1000):
 wE c k (vars [("one",.loc),("other",.loc)] [.str x,.str y] [] []) B.no (gJ (bF 26)) (pL ((.val (.bool (cA x y))))):=by
 conv in gJ _=>whnf
 dsimp only[vars,List.zip,List.zipWith,List.map,List.append_nil,HAppend.hAppend,Append.append,List.append];refine wE.cons (FM.ret (d:=.val (.bool (cA x y))) ?_ rfl);apply f8.BE
 ·exact Mw hx No (f8.name (.head _)) (f8.name (.tail _ (.head _))) f8.str f8.str rfl
 ·exact di.bool
 ·intro h;unfold cA;refine U h ?_;rfl
 ·intro h;unfold cA;refine U h ?_;exact Mw No hx (f8.name (.tail _ (.head _))) (f8.name (.head _)) f8.str f8.str rfl
theorem GO (h:FnAt c f (bF 26) "_law_meets" .none) (hx:x.length≤1000) (No:y.length≤1000):cg c (k+1) (.ref f) [.str x,.str y] (.val (.bool (cA x y))):=
 cg.fn (ps:=[("one",.loc),("other",.loc)]) (ls:=[]) (gs:=[]) h (by decide+kernel) cG rfl (fun J J=>sr fun J J=>rfl) (fun J=>WQ hx No)
section
noncomputable def E2 (e bk iter:Expr) (ifs:List Expr) (it wP:Value) (V:Env) (emit:Sem Unit):Sem Fin:=do
 standAt iter.pos
 match←pyNext it with
 |none=>pure (.done .next)
 |some v=>
  letOwnedTupleGo bk it v
  assign bk V v
  let mut ok:=true
  for c in ifs do
   if ok then ok←isTrue c V (eval c V)
  if ok then emit
  again (.compLoop e 0 it wP V)
section
variable {prog:Program} {w:World} {A:Around} {E:Value→Shared→Prop} {R:Result→Shared→Prop} {s:Shared}
theorem W0 (br:Nat→Shared→Prop)
 (EP:compTurn e 0 it wP V=E2 e bk iter ifs it wP V emit)
 (hd:(model prog w).den (.compLoop e 0 it wP V)=(compTurn e 0 it wP V).onRaise (fun x=>do noteFrame x V;theTreesLotGoes x):=by intros;rfl)
 (kG:A.under (.compLoop e 0 it wP V)=A:=by intros;rfl)
 (turn:∀n s,br n s→∀E,wpAny (model prog w) A (pyNext it) (fun r s₁=>match r with
  |none=>R (.ok .next) s₁
  |some v=>wpAny (model prog w) A (letOwnedTupleGo bk it v) (fun J M7=>wpAny (model prog w) A (assign bk V v) (fun J s₂=>
   wpAny (model prog w) A (forIn ifs true fun c r=>if r=true then do let ok←isTrue c V (eval c V);pure (ForInStep.yield ok)else pure (ForInStep.yield r)) (fun ok aF=>
    if ok=true then wpAny (model prog w) A emit (fun J gY=>∃m,m<n∧br m gY) E aF
    else∃m,m<n∧br m aF) E s₂) E M7) E s₁) E s)
 (n) (h:br n s):codeAny (model prog w) A (.compLoop e 0 it wP V) R s:=by
 refine codeAny_loop rfl br (fun n s qs=>?_) n h;refine U hd (U kG ?_);refine wpAny_noted ?_;refine U EP ?_;unfold E2;refine u8 (f6 (u8 (dQ (turn n s qs _) (fun r s₁ h₁=>?_) fun J J h'=>h')))
 induction r with
 |none=>exact On h₁
 |some v=>
  refine u8 (dQ h₁ (fun J M7 acL=>?_) fun J J h'=>h');refine u8 (dQ acL (fun J s₂ h₂=>u8 (dQ h₂ (fun ok aF qd=>?_) fun J J h'=>h')) fun J J h'=>h')
  induction ok with
  |false=>exact On ⟨rfl,qd⟩
  |true=>exact u8 (dQ qd (fun J gY DM=>On ⟨rfl,DM⟩) fun J J h'=>h')
noncomputable def CompPost (M:Model) (A:Around) (use:Option (Value→Sem Unit)) (Q E:Value→Shared→Prop) (wP:Value) (L:Addr) (s':Shared):Prop:=match use with
 |none=>∃m,s'.heap.Ns L m∧∀h' m',h'.Ns L m'→Heap.SameBut L s'.heap h'→Q wP {s' with heap:=h'}
 |some u=>wpAny M A (u wP) (fun J gY=>∃m,gY.heap.Ns L m∧∀h' m',h'.Ns L m'→Heap.SameBut L gY.heap h'→Q .none {gY with heap:=h'}) E s'
theorem Vk
 (ez:clausesOf e=g::gs) (hs:∀x,foldedSetIterable g.iter V x=pure x)
 (fL:∀x∈scope.names,x.2= .free→(V.cells.lookup x.1).isSome=true) (vY:scope.kind= .function) (hnames:∀x∈scope.names,x.2= .local→scope.names.lookup x.1=some .local)
 (h:wpAny M A first (fun x s₁=>wpAny M A (pyIter x) (fun it s₂=>wpAny M A DV (fun wP aF=>
  wpAny M A (newFunctionEnv scope V.globals (l7 V scope.names []) [] V.qual none .none (some V)) (fun cenv iY=>
   codeAny M A (.compStart e 0 it wP {cenv with scope:=relabel scope V}) (fun r s'=>match r with
    | .ok _=>CompPost M A use Q E wP cenv.locals s'
    | .error x=>False) iY) E aF) E s₂) E s₁) E s):
 wpAny M A (comprehension e scope V pos DV false first use) Q E s:=by
 unfold comprehension;refine U (Wg fL) (U ez ?_);refine u8 (dQ h (fun x s₁ h₁=>u8 (f6 (u8 (qR (hs x) (u8 (bW (dQ h₁ (fun it s₂ h₂=>
  wpAny_standIf (u8 (dQ h₂ (fun wP aF qd=>u8 (On (u8 (dQ qd (fun cenv iY h₄=>?_) fun J J h'=>h')))) fun J J h'=>h')))
   fun J J h'=>h'))))))) fun J J h'=>h')
 dsimp only;have s5:∀l:List (Str×NameKind),(∀x∈l,x∈scope.names)→∀x∈l,x.2= .local→Env.kindOf {cenv with scope:=relabel scope V} x.1=some .local:=fun l hl x hx Va=>by
  show(relabel scope V).names.lookup x.1=some .local;refine U (Er (hnames x (hl x hx) Va)) ?_;rfl
 have Qw:(relabel scope V).kind= .function:=vY;refine bW (u8 (qK (bW (wpAny_run (codeAny_mono h₄ fun r s' hr=>?_)))))
 induction r with
 |error x=>exact hr.elim
 |ok f=>
  induction use with
  |none=>
   refine wS hr fun m M2 hr=>?_;exact u8 (bW (wpAny_comp_letGo (cenv:={cenv with scope:=relabel scope V}) Qw _ s' m (s5 _ fun x hx=>(cB.mp (uq.mp hx)).1) M2 fun h' m' gM c8=>On (hr h' m' gM c8)))
  |some u=>
   refine u8 (pD (u8 (bW (dQ hr (fun J gY Uk=>wS Uk fun m M2 hr=>?_) fun J J h'=>h'))));refine u8 (wpAny_comp_letGo (cenv:={cenv with scope:=relabel scope V}) Qw _ gY m (s5 _ fun x hx=>?_) M2 fun h' m' gM c8=>On (hr h' m' gM c8));rcases b5.mp hx with hx|hx
   ·exact(cB.mp (uq.mp (CD hx))).1
   ·exact(cB.mp (uq.mp (Eg hx))).1
end
end
section
noncomputable def o_ (c:ah) (k:Nat) (O:XV) (Y:B) (emit:Value→Env→Sem Unit) (cl eu:g7):Prop:=
 ∀(A:Around) (V:Env) (s:Shared) (Z:TW) (wP:Addr) (q9:B),Ok c k A s→bz c Z s.heap V O Y→gj c Z s.heap q9→q9 wP=some cl→∀(Q:Unit→Shared→Prop) (E:Value→Shared→Prop),
  (∀s' Z',aN c q9 s Z (q9.put wP (some eu)) s' Z'→Q () s')→wpAny c.M A (emit (.ref wP) V) Q E s
noncomputable def eK (c:ah) (k:Nat) (O:XV) (Y:B) (ifs:List Expr) (b:Bool):Prop:=
 ∀(A:Around) (V:Env) (s:Shared) (Z:TW),Ok c k A s→bz c Z s.heap V O Y→∀(Q:Bool→Shared→Prop) (E:Value→Shared→Prop),(∀s' Z',Step c s Z s' Z'→Q b s')→
  wpAny c.M A (forIn ifs true fun c r=>if r=true then do let ok←isTrue c V (eval c V);pure (ForInStep.yield ok)else pure (ForInStep.yield r)) Q E s
section
variable {c:ah} {k:Nat} {O:XV} {Y:B}
theorem eK.nil:eK c k O Y [] true:=fun A V s Z ok r Q E q=>wpAny_tests_nil (q s Z r.start)
theorem eK.one (h:az c k O Y e b):eK c k O Y [e] b:=fun A V s Z ok r Q E q=>wpAny_tests_one (h A V s Z ok r Q E q)
theorem B.Z4 {Y:B} {os:Objs} {a:Addr} {x:Option g7} (h:a∉os.map Prod.fst):(Y.add os).put a x=(Y.put a x).add os:=by
 funext b;by_cases q:b=a
 ·subst q;rw[B.ai,B.jo h,B.ai]
 ·refine U (B.aa _ _ q) ?_;unfold B.add
  induction os.lookup b with
  |some o=>rfl
  |none=>exact(B.aa _ _ q).symm
theorem B.mq:(Y.put a x).put a y=Y.put a y:=by
 funext b;by_cases q:b=a
 ·subst q;rw[B.ai,B.ai]
 ·exact U (B.aa _ _ q) (U (B.aa _ _ q) (U (B.aa _ _ q) rfl))
theorem Uj (ez:clausesOf e=[⟨bk,iter,ifs,0⟩])
 (hd:(model prog w).den (.compStart e 0 it wP V)=(compStart e 0 it wP V).onRaise (fun x=>do noteFrame x V;standAt theWindowsPlace):=by intros;rfl)
 (kG:A.under (.compStart e 0 it wP V)=A:=by intros;rfl)
 (h0:codeAny (model prog w) A (.compLoop e 0 it wP V) R s)
 (h:∀E,wpAny (model prog w) A (pyIter it) (fun Ip s'=>codeAny (model prog w) A (.compLoop e 0 Ip wP V) R s') E s):
 codeAny (model prog w) A (.compStart e 0 it wP V) R s:=by
 refine Ik ?_;refine U hd (U kG ?_);refine wpAny_notedAt ?_;unfold compStart;refine U ez ?_;show wpAny _ _ (ask>>=_) _ _ s;refine u8 (pC (wpAny_ite ?_));split
 ·first
   |exact u8 (On (On (AY rfl h0)))
   |exact On (AY rfl h0)
 ·first
   |exact u8 (pD (u8 (f6 (u8 (dQ (h _) (fun Ip s' h'=>On (AY rfl h')) fun W W x=>x)))))
   |(refine u8 (pD ?_);show wpAny _ _ (standAt iter.pos>>=_) _ _ s;exact u8 (f6 (u8 (dQ (h _) (fun Ip s' h'=>On (AY rfl h')) fun W W x=>x))))
structure CompEnd (c:ah) (s:Shared) (Z:TW) (s':Shared) (Z':TW) (wP L:Addr) (cl:g7):Prop where
 step:Step c s Z s' Z'
 obj:∃o,s'.heap.get? wP=some o∧eN c Z' o cl
 new:s.heap.objs.size≤wP
 zn:Z' wP=none
 ns:∃m,s'.heap.Ns L m
 sL:s.heap.objs.size≤L
 AZ:Z' L=none
 ne:L≠wP
theorem Hv {J:TW→List D→Addr→Objs→Prop} {Src:B→Prop} (hh:c.hd=false) (c7:jT c J Src) {e bk iter:Expr} {ifs:List Expr} {sc:Scope} {pos:Pos} {items:List D} {ts:List (Str×cZ)} {caps:List (Str×D)} {gs:List (Str×Value)}
 {emit:Value→Env→Sem Unit} {DV:Sem Value} {t8:g7} {V:Env} {use:Option (Value→Sem Unit)}
 (ez:clausesOf e=[⟨bk,iter,ifs,0⟩]) (hs:∀x,foldedSetIterable iter V x=pure x)
 (EP:∀it wP V,compTurn e 0 it (.ref wP) V=E2 e bk iter ifs it (.ref wP) V (emit (.ref wP) V))
 (hd:∀(M:Model) it wP V,(model M.prog M.w).den (.compLoop e 0 it wP V)=(compTurn e 0 it wP V).onRaise (fun x=>do noteFrame x V;theTreesLotGoes x))
 (hd':∀(M:Model) it wP V,(model M.prog M.w).den (.compStart e 0 it wP V)=(compStart e 0 it wP V).onRaise (fun x=>do noteFrame x V;standAt theWindowsPlace))
 (kG:∀(A:Around) it wP V,A.under (.compLoop e 0 it wP V)=A) (Ul:∀(A:Around) it wP V,A.under (.compStart e 0 it wP V)=A)
 (hok:nE sc ts (caps.map Prod.fst) (gs.map Prod.fst)=true) (fL:∀x∈caps,∃kd,(kd=cZ.aL∨kd= .gn)∧(⟨x.1,kd,some x.2⟩:iu)∈O) (gp:∀x∈gs,gv c.H0 x.1 x.2)
 (afz:∀A s Q E,(∀o,o.isFreed=false→(∀Z,eN c Z o t8)→Q (.ref s.heap.objs.size) {s with heap:=s.heap.push o})→wpAny c.M A DV Q E s)
 (hi:bA c k O Y iter J items) (fO:Src Y) (Inv:List D→XV→g7→Prop) (h0:Inv items (gy ts (kh ts) caps gs) t8)
 (turn:∀d rest NE cl,Inv (d::rest) NE cl→∀I,bh c NE I bk d fun dF=>∃b,eK c k dF Y ifs b∧(b=false→Inv rest dF cl)∧(b=true→∃eu,o_ c k dF Y emit cl eu∧Inv rest dF eu))
 {A:Around} {s:Shared} {Z:TW} (ok:Ok c k A s) (r:bz c Z s.heap V O Y) {Q E:Value→Shared→Prop}
 (q:∀wP L cl s' Z',(∃NE,Inv [] NE cl)→CompEnd c s Z s' Z' wP L cl→CompPost c.M A use Q E (.ref wP) L s'):
 wpAny c.M A (comprehension e sc V pos DV false (eval iter V) use) Q E s:=by
 have K:=VA hok;have hand:=ok.hand hh;refine Vk ez hs (fun x hx hf=>?_) K.kind K.loc ?_
 ·refine wS (ao.mp (K.free x hx hf)) fun y No e'=>?_;refine jJ (Jg r (fL y No)) fun W a W W ha W=>?_;refine ZB e' (U ha ?_);rfl
 refine hi A V s Z ok r _ _ fun it os s₁ aC EQ xz oU mO=>?_;refine afz A s₁ _ _ fun oa jP Yn=>?_;have t₂:=EQ.trans (Step.alloc EQ.top EQ.sub oa);have sh:=c7.rows mO;generalize r4:({s₁ with heap:=s₁.heap.push oa}:Shared)=s₂ at t₂;have acl:s₂.heap.objs.size=s₁.heap.objs.size+1:=by refine ZB r4 ?_;exact eS ..
 have P0:s₂.heap.get? s₁.heap.objs.size=some oa:=by refine ZB r4 ?_;exact dN _ jP
 have H7:∀b o,s₁.heap.get? b=some o→s₂.heap.get? b=some o:=fun b o e=>by refine ZB r4 ?_;exact bX _ e
 obtain⟨wP,BS⟩:∃a,s₁.heap.objs.size=a:=⟨_,rfl⟩;rw[BS]at acl P0⊢;have w7:s.heap.objs.size≤wP:=by refine ZB BS ?_;exact EQ.grow.1
 have Vv:aC wP=none:=gC EQ.sub (bT BS);have yS:∀p∈os,p.1<wP:=fun p hp=>by refine ZB BS ?_;exact cE (xz p hp)
 have RV:wP∉os.map Prod.fst:=fun hx=>by
  refine wS (ao.mp hx) fun p hp e'=>?_;exact absurd (yS p hp) (by refine U e' ?_;exact yy _)
 refine Su fun h₄ ns dI agn qv=>?_;obtain⟨L,aU⟩:∃a,s₂.heap.objs.size=a:=⟨_,rfl⟩;rw[aU]at acl ns qv⊢;have Ys:bu c (fun a=>s.heap.get? a) aC h₄ (k6 sc V L) (gy ts (kh ts) caps gs) ((B.no.put wP (some t8)).add os):=by
  subst aU;refine bu.comp r t₂ K fL gp ns dI qv fun a cl e=>?_;by_cases q:a∈os.map Prod.fst
  ·refine wS (ao.mp q) fun p hp s4=>?_;subst s4;rw[B.l9 sh.1 hp]at e;obtain rfl:=bf e;have:=yS p hp;exact⟨(oU p hp).1,by refine U acl ?_;exact v_ this,(oU p hp).2,_,H7 _ _ (xz p hp),rfl,(sh.2 p hp).1⟩
  ·rw[B.jo q]at e;by_cases q':a=wP
   ·subst q';rw[B.ai]at e;obtain rfl:=bf e;exact⟨w7,by refine U acl ?_;exact jy _,Vv,_,P0,Yn _⟩
   ·rw[B.aa _ _ q']at e;injection e
 have adx:Y L=none:=r.fresh (by refine U acl ?_;exact oW w7);have afF:∀n a,(k6 sc V L).cells.lookup n=some a→Y a=none:=fun n a e=>by
  rcases Pr r K fL qv e with⟨h1,_⟩|⟨m,h⟩
  ·exact r.fresh (Ev w7 (by rw[acl]at h1;exact gZ (gZ h1)))
  ·exact(r.own.2 _ _ h).1
 have view:∀{h:Heap} {Z':TW} {NE:XV} {gm:B},bu c (fun a=>s.heap.get? a) Z' h (k6 sc V L) NE gm→fK Z Z'→(∀a o,Z' a=some o→Z a=some o∨s.heap.objs.size≤a)→bz c Z' h (k6 sc V L) NE Y:=fun{h Z' NE gm} w le ex=>by
  refine⟨w.rd.fn,w.rd.top,w.rd.sub,w.rd.vars,fun a cl e=>?_,⟨⟨adx,w.rd.own.1.2⟩,fun n a e=>⟨afF n a e,(w.rd.own.2 n a e).2⟩⟩,w.rd.glob⟩;refine b4 (r.cells a cl e) fun aG hz hr=>?_;refine wS aG fun o xz hc=>?_;refine wS (w.keep a o xz) fun o' e' om=>?_;refine⟨⟨o',e',(hc.same om).mono le⟩,?_,hr⟩;rcases q:Z' a with _|fZ
  ·rfl
  ·rcases ex a fZ q with h|h
   ·rw[hz]at h;injection h
   ·exact absurd (cE xz) (eB.mpr h)
 have C8:∀{s':Shared} {Z':TW},Run B.no s Z B.no s' Z'→∀a o,Z' a=some o→Z a=some o∨s.heap.objs.size≤a:=fun{s' Z'} x a o e=>by
  rcases x.ext a o e with h|h|h
  ·exact .inl h
  ·exact absurd rfl h
  ·exact .inr h
 have ge:∀{cl:g7} {bq:Objs},bq.map Prod.fst=os.map Prod.fst→∀a,((B.no.put wP (some cl)).add bq) a≠none→s.heap.objs.size≤a:=fun{cl bq} hk a ha=>by
  by_cases q:a∈bq.map Prod.fst
  ·rw[hk]at q;refine wS (ao.mp q) fun p hp s4=>?_;subst s4;exact(oU p hp).1
  ·rw[B.jo q]at ha;by_cases q':a=wP
   ·subst q';exact w7
   ·rw[B.aa _ _ q']at ha;exact absurd rfl ha
 have conv:∀{cl eu:g7} {bq vE:Objs} {s' s'':Shared} {Z' eH:TW},bq.map Prod.fst=os.map Prod.fst→Run B.no s Z B.no s' Z'→Run ((B.no.put wP (some cl)).add bq) s' Z' ((B.no.put wP (some eu)).add vE) s'' eH→Run B.no s Z B.no s'' eH:=fun{cl eu bq vE s' s'' Z' eH} hk x y=>by
  refine⟨x.af.trans y.af,x.le.trans y.le,fun a o e=>?_,fun W h=>absurd rfl h⟩;rcases y.ext a o e with h|h|h
  ·exact x.ext a o h
  ·exact .inr (.inr (ge hk a h))
  ·exact .inr (.inr (Ev x.af.size h))
 have ZZ:Run B.no s Z B.no {s₂ with heap:=h₄} aC:=by
  refine⟨t₂.af.trans ⟨fun b o e h=>⟨o,dI b o e,h⟩,?_,aH _,⟨_,_,rfl⟩⟩,t₂.le,fun a o e=>(t₂.ext.2 a o e).imp id .inr,fun W h=>absurd rfl h⟩;show s₂.heap.objs.size≤h₄.objs.size;exact U aU (fz ns.lt)
 have loop:codeAny c.M A (.compLoop e 0 (.ref it) (.ref wP) (k6 sc V L)) (fun r s'=>match r with
  | .ok _=>CompPost c.M A use Q E (.ref wP) L s'
  | .error x=>False) {s₂ with heap:=h₄}:=by
  refine W0 (emit:=emit (.ref wP) (k6 sc V L)) (fun n s'=>∃aD NE cl Z' bq,n=aD.length∧Inv aD NE cl∧bu c (fun a=>s.heap.get? a) Z' s'.heap (k6 sc V L) NE ((B.no.put wP (some cl)).add bq)∧fT s'.heap bq∧bq.map Prod.fst=os.map Prod.fst∧J Z' aD it bq∧Run B.no s Z B.no s' Z')
   (EP ..) (hd c.M ..) (kG ..) ?_ items.length ⟨items,_,t8,aC,os,rfl,h0,Ys,fun p hp=>dI _ _ (H7 _ _ (xz p hp)),rfl,mO,ZZ⟩
  intro n s' Go lU;refine acS Go fun aD NE cl Z' bq s4 inv w st hk vh run=>?_;subst s4;have yw:=c7.rows vh;have rd:=view w run.le (C8 run);have Uv:wP∉bq.map Prod.fst:=by refine U hk ?_;exact RV
  have ok':=ok.af run.af;have cH:∀p∈bq,Z' p.1=none∧c.H0.get? p.1=none:=fun p hp=>(w.rd.cells p.1 _ (B.l9 yw.1 hp)).2;rcases aD with _|⟨d,rest⟩
  ·refine c7.fin hand rd fO cH st vh fun gY t9 i8=>?_;have g6:=w.after (i8.toEnd (Y:=B.no.put wP (some cl)) w.rd.cells st yw fun p hp=>B.aa _ _ fun e'=>Uv (e'▸cz hp));have p_:=run.trans (i8.u7 st yw B.no);refine b4 (g6.rd.cells wP cl (B.ai ..)) fun SJ aaM W=>?_;have sp:Step c s Z gY t9:=by
    refine⟨⟨p_.af.size,fun a o e=>g6.keep a o e⟩,g6.rd.top,⟨p_.le,fun a o e=>C8 p_ a o e⟩,g6.rd.sub,p_.af.tok,p_.af.rest⟩
   refine aO (g6.ns) fun m hm=>?_;have ce:CompEnd c s Z gY t9 wP L cl:=⟨sp,SJ,w7,aaM,⟨m,hm⟩,by refine U acl ?_;exact oW w7,g6.iB.2.1,by refine U acl ?_;exact Nat.succ_ne_self _⟩;exact q wP L cl gY t9 ⟨NE,inv⟩ ce
  ·refine c7.next hand rd fO cH st vh fun v aF er Gk i8 vC qJ qE tv FN=>?_;have nJ:=run.trans (i8.u7 st yw B.no);have w₃:=w.after (i8.DO w.rd.cells st yw qE vC qJ);have IA:∀p∈Gk,er p.1=none∧c.H0.get? p.1=none:=fun p hp=>(w₃.rd.cells p.1 _ (B.l9 qE.1 hp)).2;refine FN trivial IA fun iY kN z4 xM Aq za=>?_;have r6:=c7.rows za;have D6:=nJ.trans (z4.u7 qJ qE B.no);have iP:=w₃.after (z4.DO w₃.rd.cells qJ qE r6 xM Aq);have oQ:kN.map Prod.fst=os.map Prod.fst:=xM.trans (vC.trans hk);have Mm:wP∉kN.map Prod.fst:=by refine U oQ ?_;exact RV
   refine turn d rest NE cl inv _ A _ iY _ er v hand iP tv _ _ fun BO gY t9 Ah g6 dH=>?_;refine aS dH fun b Xf XZ xo=>?_;have p_:=conv oQ D6 Ah
   refine Xf A _ gY t9 (ok.af p_.af) (view g6 p_.le (C8 p_)) _ _ fun tC oJ Fv=>?_;have nh:=g6.step Fv;have zj:=p_.trans (Fv.run B.no);have fin:∀{eu:g7} {s8:Shared} {xu:TW},Inv rest BO eu→bu c (fun a=>s.heap.get? a) xu s8.heap (k6 sc V L) BO ((B.no.put wP (some eu)).add kN)→Run B.no s Z B.no s8 xu→fK oJ xu→∃m,m<(d::rest).length∧∃aD NE cl Z' bq,m=aD.length∧Inv aD NE cl∧bu c (fun a=>s.heap.get? a) Z' s8.heap (k6 sc V L) NE ((B.no.put wP (some cl)).add bq)∧fT s8.heap bq∧bq.map Prod.fst=os.map Prod.fst∧J Z' aD it bq∧Run B.no s Z B.no s8 Z':=fun{eu s8 xu} hi vP adl le=>by
    refine⟨rest.length,jy _,rest,BO,eu,xu,kN,rfl,hi,vP,fun p hp=>?_,oQ,c7.mono ((Ah.le.trans Fv.le).trans le) za,adl⟩;refine Op (vP.rd.cells p.1 _ (B.l9 r6.1 hp)) fun aG W=>?_;refine wS aG fun o xz hc=>?_;exact U xz (U hc.1 rfl)
   rcases b with _|_
   ·exact U (Tk (by simp)) (fin (XZ rfl) nh zj (.refl _))
   ·refine U (ak rfl) ?_;refine wS (xo rfl) fun eu W_ lz=>?_;refine W_ A _ tC oJ wP _ (ok.af zj.af) (view nh zj.le (C8 zj)) nh.rd.cells (by rw[B.jo Mm,B.ai]) _ _ fun s8 xu aq=>?_;have e':((B.no.put wP (some cl)).add kN).put wP (some eu)=(B.no.put wP (some eu)).add kN:=by exact U (B.Z4 Mm) (U B.mq rfl)
    rw[e']at aq;exact fin lz (nh.after aq) (conv oQ zj aq.run) aq.le
 refine Uj ez (hd' c.M ..) (Ul ..) loop fun lU=>c7.iter (fun p hp=>dI _ _ (H7 _ _ (xz p hp))) mO loop
end
end
section
section
variable {c:ah} {k:Nat} {O:XV} {Y:B} {s s':Shared} {Z Z':TW} {wP L:Addr} {cl:g7}
theorem CompEnd.last (x:CompEnd c s Z s' Z' wP L cl) (top:c.H0.StaysIn s.heap) (M2:h'.Ns L m') (av:Heap.SameBut L s'.heap h'):CompEnd c s Z {s' with heap:=h'} Z' wP L cl:=by
 obtain⟨st,⟨o,xz,hc⟩,wQ,hz,_,ln,AZ,ne⟩:=x;have VX:c.H0.get? L=none:=mG top ln;refine⟨⟨⟨by show s.heap.objs.size≤h'.objs.size;refine U av.1 ?_;exact st.grow.1,fun a o e=>?_⟩,fun a o e=>?_,st.ext,fun a o e=>?_,st.tok,?_⟩,⟨o,(av.2 wP (bQ ne)).trans xz,hc⟩,wQ,hz,⟨m',M2⟩,ln,AZ,ne⟩
 ·refine wS (st.grow.2 a o e) fun o' e' q=>?_;have:a≠L:=fun q=>absurd (cE e) (eB.mpr (q▸ln));exact⟨o',(av.2 a this).trans e',q⟩
 ·have:a≠L:=by rintro rfl;rw[VX]at e;injection e
  exact(av.2 a this).trans (st.top a o e)
 ·have:a≠L:=by rintro rfl;rw[AZ]at e;injection e
  exact⟨(av.2 a this).trans (st.sub.get e),(st.sub a o e).2⟩
 ·refine fE (st.rest) fun h t s4=>?_;subst s4;exact⟨_,t,rfl⟩
theorem CompEnd.frozen (x:CompEnd c s Z s' Z' wP L cl) (xz:s'.heap.get? wP=some o) (hc:o.cls≠ .type "frame"):Step c s Z s' (Z'.put wP o):=by
 have st:=x.step;refine⟨st.grow,st.top,⟨fun a o' e=>?_,fun a o' e=>?_⟩,fun a o' e=>?_,st.tok,st.rest⟩
 ·have e':=st.le a o' e;unfold TW.put;exact U (Tk (by rintro rfl;rw[x.zn]at e';injection e')) e'
 ·unfold TW.put at e;by_cases q:a=wP
  ·subst q;exact .inr x.new
  ·rw[Tk q]at e;exact st.ext.2 a o' e
 ·unfold TW.put at e;by_cases q:a=wP
  ·subst q;rw[ak rfl]at e;obtain rfl:=bf e;exact⟨xz,hc⟩
  ·rw[Tk q]at e;exact st.sub a o' e
theorem CompEnd.NJ (x:CompEnd c s Z s' Z' wP L cl):fK Z' (Z'.put wP o):=fun a o' e=>by
 unfold TW.put;exact U (Tk (by rintro rfl;rw[x.zn]at e;injection e)) e
theorem CompEnd.cells (x:CompEnd c s Z s' Z' wP L cl) (r:bz c Z s.heap V O Y):aN c Y s Z ((Y.put L (some .any)).put wP (some cl)) s' Z':=by
 have aq:=x.step.after r;refine⟨aq.size,aq.keep,aq.fields,aq.top,aq.le,aq.ext,aq.sub,fun a h=>?_,fun a eu e=>?_,aq.tok,aq.rest⟩
 ·by_cases q:a=wP
  ·subst q;exact .inr x.new
  ·rw[B.aa _ _ q]at h;by_cases q':a=L
   ·subst q';exact .inr x.sL
   ·rw[B.aa _ _ q']at h;exact .inl h
 ·by_cases q:a=wP
  ·subst q;rw[B.ai]at e;obtain rfl:=bf e;exact⟨x.obj,x.zn,mG r.top x.new⟩
  ·rw[B.aa _ _ q]at e;by_cases q':a=L
   ·subst q';rw[B.ai]at e;obtain rfl:=bf e;refine ZJ (x.ns) fun m o es ep xz hd hk K=>?_;exact⟨⟨o,xz,es,ep,hd,hk⟩,x.AZ,mG r.top x.sL⟩
   ·rw[B.aa _ _ q']at e;exact aq.cells a eu e
theorem aN.shrink (x:aN c Y s Z gm s' Z') (le:∀a cl,jW a=some cl→gm a=some cl):aN c Y s Z jW s' Z':=
 ⟨x.size,x.keep,x.fields,x.top,x.le,x.ext,x.sub,fun a h=>by
  refine aO (nZ.mp h) fun cl e=>?_;exact x.ju a (by refine U (le a cl e) ?_;simp),fun a cl e=>x.cells a cl (le a cl e),x.tok,x.rest⟩
theorem CompEnd.cell (x:CompEnd c s Z s' Z' wP L cl) (r:bz c Z s.heap V O Y):aN c Y s Z (Y.put wP (some cl)) s' Z':=
 (x.cells r).shrink fun a eu e=>by
  by_cases q:a=wP
  ·subst q;rw[B.ai]at e⊢;exact e
  ·rw[B.aa _ _ q]at e⊢;rw[B.aa _ _ fun q'=>?_]
   ·exact e
   ·rw[q',r.fresh x.sL]at e;injection e
theorem bu.Rm (w:bu c bs Z h V O Y) (aU:Y L≠none) (av:Heap.SameBut L h h'):bu c bs Z h' V O (Y.put L none):=by
 refine aO (nZ.mp aU) fun uT iQ=>?_;refine b4 (w.rd.cells L uT iQ) fun K hz h0=>?_;have ne:∀{a:Addr},lu Y h a→a≠L:=fun{a} o q=>aU (q▸o.1);have out:∀{a:Addr},lu Y h a→lu (Y.put L none) h' a:=fun{a} o=>⟨by refine U (B.aa _ _ (ne o)) ?_;exact o.1,by refine U av.1 ?_;exact o.2⟩;refine⟨⟨w.rd.fn,fun b o e=>(av.2 b (by rintro rfl;rw[h0]at e;injection e)).trans (w.rd.top b o e),fun b o e=>⟨(av.2 b (by rintro rfl;rw[hz]at e;injection e)).trans (w.rd.sub.get e),(w.rd.sub b o e).2⟩,fun v s5 d hd=>?_,fun a cl e=>?_,⟨out w.rd.own.1,fun n a e=>out (w.rd.own.2 n a e)⟩,w.rd.glob⟩,fun a o e=>?_,w.names,?_,w.iB,w.locs,fun v s5 hk=>?_,w.apart,w.caps,fun a ha=>?_⟩
 ·refine wS (w.rd.vars v s5 d hd) fun x dj gf=>?_;refine⟨x,dj,?_⟩
  induction jD:v.kind with
  |loc=>
   rw[jD]at gf;refine Op gf fun l1 Yz=>wS Yz fun nA l2 l3=>?_;exact⟨l1,nA,l2.sameBut av (ne w.rd.own.1),l3⟩
  |aL=>
   rw[jD]at gf;refine Op gf fun l1 adM=>wS adM fun b l2 l3=>?_;exact⟨l1,b,l2,l3.sameBut av (ne (w.rd.own.2 _ _ l2))⟩
  |gn=>
   rw[jD]at gf;refine Op gf fun l1 Zl=>wS Zl fun b l2 l3=>?_;exact⟨l1,b,l2,l3.sameBut av (ne (w.rd.own.2 _ _ l2))⟩
  |bw=>rw[jD]at gf;exact gf
 ·have q:a≠L:=by rintro rfl;rw[B.ai]at e;injection e
  rw[B.aa _ _ q]at e;refine Op (w.rd.cells a cl e) fun aG r=>?_;refine wS aG fun o xz hc=>?_;exact⟨⟨o,(av.2 _ q).trans xz,hc⟩,r⟩
 ·refine wS (w.keep a o e) fun o' e' q=>?_;exact⟨o',(av.2 a (by rintro rfl;rw[w.mem _ aU]at e;injection e)).trans e',q⟩
 ·refine aO (w.ns) fun m hm=>?_;exact⟨m,hm.sameBut av (ne w.rd.own.1)⟩
 ·refine Op (w.kq v s5 hk) fun h1 afA=>fB afA fun b x h2 h3 h4=>?_;exact⟨h1,b,x,h2,h3.sameBut av (ne (w.rd.own.2 _ _ h2)),h4⟩
 ·have q:a≠L:=by rintro rfl;exact ha (B.ai ..)
  rw[B.aa _ _ q]at ha;exact w.mem a ha
theorem o_.list (he:f8 c k O Y elt d) (hz:l.length≤1000000):o_ c k O Y (fun wP V=>do let _←call (.builtin "list.append") [wP,←eval elt V]) (.list l) (.list (l++[d])):=by
 intro A V s Z wP q9 ok r mo ha Q E q;refine u8 (he A V s Z ok r _ E fun v s₁ aC EQ s5=>?_);have aq:=EQ.p9 mo;refine Op (aq.cells wP _ ha) fun aG K=>?_;refine wS aG fun o xz VS=>eG VS fun H n afo FS=>?_;subst afo;have hsz:H.size=l.length:=by exact ZB FS.length (U gB rfl)
 refine u8 (append_at xz (fun h' av bG=>On (q _ aC (aq.trans ?_))) (by refine U hsz (U cQ ?_);exact Ev ‹_› (by decide)));refine aN.put (t:=s₁.toks) aq.cells EQ.top EQ.sub (by refine U ha ?_;simp) av bG (fun H=>by simp) ⟨_,_,rfl,?_⟩ (aH _);exact U Ia (FS.append (.cons s5 .nil))
theorem abZ (A) (s) (Q E) (h:∀o,o.isFreed=false→(∀Z,eN c Z o (.list []))→Q (.ref s.heap.objs.size) {s with heap:=s.heap.push o}):wpAny c.M A (PySem.newList []) Q E s:=
 iL (h _ rfl fun Z=>⟨#[],0,rfl,.nil⟩) (by show(#[]:Array Value).size≤sizeLine;refine U cQ ?_;simp)
variable {J:TW→List D→Addr→Objs→Prop} {Src:B→Prop} {elt bk iter:Expr} {ifs:List Expr} {sc:Scope} {pos:Pos} {items:List D} {ts:List (Str×cZ)} {caps:List (Str×D)} {gs:List (Str×Value)}
structure dO (c:ah) (k:Nat) (O:XV) (Y:B) (elt bk:Expr) (ifs:List Expr) (ts:List (Str×cZ)) (caps:List (Str×D)) (gs:List (Str×Value)) (items out:List D):Prop where
 turn:∃Inv:List D→XV→List D→Prop,Inv items (gy ts (kh ts) caps gs) []∧
  (∀d rest NE l,Inv (d::rest) NE l→l.length≤1000000∧∀I,bh c NE I bk d fun dF=>∃b,eK c k dF Y ifs b∧(b=false→Inv rest dF l)∧(b=true→∃x,f8 c k dF Y elt x∧Inv rest dF (l++[x])))∧
  ∀NE l,Inv [] NE l→l=out
theorem JD (hh:c.hd=false) (c7:jT c J Src) (hs:∀x,foldedSetIterable iter V x=pure x)
 (hok:nE sc ts (caps.map Prod.fst) (gs.map Prod.fst)=true) (fL:∀x∈caps,∃kd,(kd=cZ.aL∨kd= .gn)∧(⟨x.1,kd,some x.2⟩:iu)∈O) (gp:∀x∈gs,gv c.H0 x.1 x.2)
 (hi:bA c k O Y iter J items) (fO:Src Y) (lc:dO c k O Y elt bk ifs ts caps gs items out)
 (ok:Ok c k A s) (r:bz c Z s.heap V O Y)
 (q:∀wP L s' Z',CompEnd c s Z s' Z' wP L (.list out)→CompPost c.M A use Q E (.ref wP) L s'):
 wpAny c.M A (comprehension (.ListComp elt [⟨bk,iter,ifs,0⟩] sc pos) sc V (firstIterPos [⟨bk,iter,ifs,0⟩] pos) (PySem.newList []) false (eval iter V) use) Q E s:=by
 refine aS (lc.turn) fun Inv h0 turn fin=>?_;refine Hv hh c7 (emit:=fun wP V=>do let _←call (.builtin "list.append") [wP,←eval elt V]) (t8:=.list []) rfl hs (fun K K K=>rfl) (fun K K K K=>rfl) (fun K K K K=>rfl) (fun K K K K=>rfl) (fun K K K K=>rfl) hok fL gp abZ hi fO
  (fun aD NE cl=>∃l,cl= .list l∧Inv aD NE l) ⟨_,rfl,h0⟩ ?_ ok r ?_
 ·intro d rest NE cl Go I;refine wS Go fun l s4 inv=>?_;subst s4;refine Op (turn d rest NE l inv) fun hz hp=>?_;intro A V s bs Z v ue w FS Q E q;refine hp I A V s bs Z v ue w FS Q E fun dF s' Z' run cP Yu=>aS Yu fun b h1 h2 h3=>q dF s' Z' run cP ⟨b,h1,fun e=>⟨l,rfl,h2 e⟩,fun e=>?_⟩;refine wS (h3 e) fun x hx hi=>?_;exact⟨.list (l++[x]),.list hx hz,_,rfl,hi⟩
 ·intro wP L cl s' Z' Go ce;refine eG Go fun NE l s4 inv=>?_;subst s4;obtain rfl:=fin NE l inv;exact q wP L s' Z' ce
theorem f8.l_ (hh:c.hd=false) (c7:jT c J Src) (hs:∀V x,foldedSetIterable iter V x=pure x)
 (hok:nE sc ts (caps.map Prod.fst) (gs.map Prod.fst)=true) (fL:∀x∈caps,∃kd,(kd=cZ.aL∨kd= .gn)∧(⟨x.1,kd,some x.2⟩:iu)∈O) (gp:∀x∈gs,gv c.H0 x.1 x.2)
 (hi:bA c k O Y iter J items) (fO:Src Y) (lc:dO c k O Y elt bk ifs ts caps gs items out):f8 c k O Y (.ListComp elt [⟨bk,iter,ifs,0⟩] sc pos) (.list out):=by
 intro A V s Z ok r Q E q;rw[eval_ListComp];show wpAny c.M A (comprehension _ sc V _ (PySem.newList []) false (eval iter V) Option.none) Q E s;refine JD hh c7 (hs V) hok fL gp hi fO lc ok r fun wP L s' Z' ce=>?_;refine aO (ce.ns) fun m M2=>?_;refine⟨m,M2,fun h' m' gM av=>?_⟩;have pN:=ce.last r.top gM av;refine wS pN.obj fun o xz V8=>eG V8 fun H n Wu FS=>?_;subst Wu;exact q _ _ _ (pN.frozen xz (by simp)) (.list (TW.ai ..) (FS.mono pN.NJ))
theorem aE.l_ (hh:c.hd=false) (c7:jT c J Src) (hs:∀V x,foldedSetIterable iter V x=pure x)
 (hok:nE sc ts (caps.map Prod.fst) (gs.map Prod.fst)=true) (fL:∀x∈caps,∃kd,(kd=cZ.aL∨kd= .gn)∧(⟨x.1,kd,some x.2⟩:iu)∈O) (gp:∀x∈gs,gv c.H0 x.1 x.2)
 (hi:bA c k O Y iter J items) (fO:Src Y) (lc:dO c k O Y elt bk ifs ts caps gs items out) (h:∀a,Y a=none→Sc (.val (.ref a)) (Y.put a (some (.list out)))):aE c k O Y (.ListComp elt [⟨bk,iter,ifs,0⟩] sc pos) Sc:=by
 intro A V s Z ok r Q E q;rw[eval_ListComp];show wpAny c.M A (comprehension _ sc V _ (PySem.newList []) false (eval iter V) Option.none) Q E s;refine JD hh c7 (hs V) hok fL gp hi fO lc ok r fun wP L s' Z' ce=>?_;refine aO (ce.ns) fun m M2=>?_;refine⟨m,M2,fun h' m' gM av=>?_⟩;have pN:=ce.last r.top gM av;exact q _ _ _ _ _ (pN.cell r) (.val _) (h wP (r.fresh ce.new))
theorem bu.freeze (w:bu c bs Z h V O Y) (xz:h.get? a=some o) (hc:o.cls≠ .type "frame") (hb:bs a=none) (hm:Y a=none) (hl:a≠V.locals) (HW:∀n,V.cells.lookup n≠some a) (hz:Z a=none):bu c bs (Z.put a o) h V O Y:=by
 have le:fK Z (Z.put a o):=fun b o' e=>by
  unfold TW.put;exact U (Tk (by rintro rfl;rw[hz]at e;injection e)) e
 have DS:∀{b:Addr},b≠a→Z.put a o b=Z b:=fun{b} hb=>Tk hb;refine⟨⟨w.rd.fn,w.rd.top,fun b o' e=>?_,fun v s5 d hd=>?_,fun b cl e=>?_,w.rd.own,w.rd.glob⟩,w.keep,w.names,w.ns,⟨w.iB.1,?_,w.iB.2.2⟩,w.locs,fun v s5 hk=>?_,w.apart,w.caps,w.mem⟩
 ·by_cases q:b=a
  ·subst q;rw[TW.ai]at e;obtain rfl:=bf e;exact⟨xz,hc⟩
  ·rw[DS q]at e;exact w.rd.sub b o' e
 ·refine wS (w.rd.vars v s5 d hd) fun y t l=>?_;exact⟨y,t.mono le,l⟩
 ·refine b4 (w.rd.cells b cl e) fun aG h2 h3=>?_;refine wS aG fun o' e' h'=>?_;exact⟨⟨o',e',h'.mono le⟩,by refine U (DS (by rintro rfl;rw[hm]at e;injection e)) ?_;exact h2,h3⟩
 ·exact U (DS (bQ hl)) w.iB.2.1
 ·refine Op (w.kq v s5 hk) fun h1 adw=>wh adw fun b y h2 h3 h4 h5 h6=>?_;exact⟨h1,b,y,h2,h3,h4,by refine U (DS (by rintro rfl;exact HW _ h2)) ?_;exact h5,h6⟩
theorem bu.acZ (w:bu c bs Z h V O Y) (ha:Y a=some (.list l)):∃o,Z a=none∧bu c bs (Z.put a o) h V O (Y.put a none)∧Tells (Z.put a o) (.ref a) (.list l)∧fK Z (Z.put a o):=by
 refine b4 (w.rd.cells a _ ha) fun aG hz K=>?_;refine wS aG fun o xz Xi=>eG Xi fun H n abc FS=>?_;subst abc;have le:fK Z (Z.put a {cls:=.type "list",data:=.seq H n}):=fun b o' e=>by
  unfold TW.put;exact U (Tk (by rintro rfl;rw[hz]at e;injection e)) e
 refine ur _ hz (bu.freeze (w.shrink (I:=Y.put a none) fun b cl e=>?_) xz (by simp) (w.mem a (by refine U ha ?_;simp)) (B.ai ..) ?_ ?_ hz) (.list (TW.ai ..) (FS.mono le)) le
 ·by_cases q:b=a
  ·subst q;rw[B.ai]at e;injection e
  ·rwa [B.aa _ _ q]at e
 ·rintro rfl;have:=w.rd.own.1.1;rw[ha]at this;injection this
 ·intro n e;have:=(w.rd.own.2 n a e).1;rw[ha]at this;injection this
theorem FM.nV (hh:c.hd=false) (c7:jT c J Src) (hs:∀V x,foldedSetIterable iter V x=pure x)
 (hok:nE sc ts (caps.map Prod.fst) (gs.map Prod.fst)=true) (fL:∀x∈caps,∃kd,(kd=cZ.aL∨kd= .gn)∧(⟨x.1,kd,some x.2⟩:iu)∈O) (gp:∀x∈gs,gv c.H0 x.1 x.2)
 (hi:bA c k O Y iter J items) (fO:Src Y) (lc:dO c k O Y elt bk ifs ts caps gs items out) (eV:dU n (.list out) O NE) (h:Sc (.next NE Y)):FM c k O Y (.Assign [.Name n p] (.ListComp elt [⟨bk,iter,ifs,0⟩] sc pos') pos) Sc:=by
 intro A V s bs Z ok w Q E q;obtain⟨b,hb⟩:∃b:Bool,swapsWithSole [.Name n p] (.ListComp elt [⟨bk,iter,ifs,0⟩] sc pos') pos.line V=pure b:=⟨_,rfl⟩
 induction b with
 |false=>
  refine zR (f8.l_ hh c7 hs hok fL gp hi fO lc A V s Z ok w.rd _ E fun v s₁ aC t s5=>nk (w.step t) eV s5 fun s₂ m w₂=>?_) hb;exact q (.next NE Y) .next s₂ aC ((t.run Y).trans ⟨m,.refl _,fun K K h=>.inl h,fun K h=>.inl h⟩) w₂ .next h
 |true=>
  show wpAny c.M A (standAt pos>>=fun K=>swapsWithSole [.Name n p] (.ListComp elt [⟨bk,iter,ifs,0⟩] sc pos') pos.line V>>=_) Q E s;refine U hb ?_;refine u8 (f6 (u8 (On ?_)));show wpAny c.M A ((comprehension (.ListComp elt [⟨bk,iter,ifs,0⟩] sc pos') sc V (firstIterPos [⟨bk,iter,ifs,0⟩] pos') (PySem.newList []) false (eval iter V) (some fun v=>PySem.assign (.Name n p) V v)>>=fun K=>pure ())>>=fun K=>pure .next) Q E s;refine u8 (u8 (JD hh c7 (hs V) hok fL gp hi fO lc ok w.rd (Q:=fun K s'=>wpAny c.M A (pure ()) (fun K s'=>wpAny c.M A (pure .next) Q E s') E s') fun wP L s' Z' ce=>?_));have r:=w.rd;have bn:∀{a:Addr},s.heap.objs.size≤a→bs a=none:=fun{a} ha=>by
   induction om:bs a with
   |none=>rfl
   |some o=>exact absurd (w.lt om) (eB.mpr ha)
  have w₁:bu c bs Z' s'.heap V O (Y.put L (some .any)):=w.after ((ce.cells r).shrink fun a cl e=>by
   rw[B.aa _ _ ?_];exact e;rintro rfl;rw[B.aa _ _ (bQ ce.ne),r.fresh ce.new]at e;injection e)
  refine wS ce.obj fun o xz V1=>eG V1 fun H m TX FS=>?_;subst TX;have w₂:bu c bs (Z'.put wP _) s'.heap V O (Y.put L (some .any)):=w₁.freeze xz (by simp) (bn ce.new) (by refine U (B.aa _ _ (bQ ce.ne)) ?_;exact r.fresh ce.new) (fun e=>absurd r.own.1.2 (eB.mpr (e▸ce.new))) (fun n e=>absurd (r.own.2 n _ e).2 (eB.mpr ce.new)) ce.zn;have st:=ce.frozen xz (by simp);refine w6 (nk w₂ eV (.list (TW.ai ..) (FS.mono ce.NJ)) fun gY af g6=>?_);refine b4 (g6.rd.cells L _ (B.ai ..)) fun aG K K=>?_;refine wS aG fun ID qh Zd=>eG Zd fun es ep GU Gm=>?_;refine⟨nsFind es,⟨ID,es,ep,qh,GU,Gm,fun K=>rfl⟩,fun h' m' gM av=>On (On ?_)⟩;refine uh gM fun afN abi Wi afR ago af1 K=>?_;have nh:=(g6.Rm (L:=L) (by rw[B.ai];simp) av).shrink (I:=Y) fun a cl e=>by
   have:a≠L:=by rintro rfl;rw[r.fresh ce.sL]at e;injection e
   refine U (B.aa _ _ this) (U (B.aa _ _ this) ?_);exact e
  refine fE ((st.af.trans af).rest) fun hh tt s4=>?_;subst s4;have HC:ki s {s with heap:=h',toks:=tt}:=⟨fun b o e hb=>by
   refine wS ((st.af.trans af).frames b o e hb) fun o' e' i=>?_;have:b≠L:=fun q=>absurd (cE e) (eB.mpr (q▸ce.sL));exact⟨o',(av.2 b this).trans e',i⟩,by show _≤h'.objs.size;refine U av.1 ?_;exact(st.af.trans af).size,(st.af.trans af).tok,⟨_,_,rfl⟩⟩
  refine q (.next NE Y) .next _ _ ?_ nh .next h;exact⟨HC,st.le,fun a o e=>(st.ext.2 a o e).imp id .inr,fun K h=>.inl h⟩
theorem dU.head (h:kd= .loc∨kd= .aL):dU n d (⟨n,kd,o⟩::r) (⟨n,kd,some d⟩::r):=by
 rcases h with rfl|rfl
 ·exact .loc
 ·exact .aL
noncomputable def tu (caps:List (Str×D)) (gs:List (Str×Value)):XV:=caps.map (fun x=>⟨x.1,.gn,some x.2⟩)++gs.map (fun x=>⟨x.1,.bw,some (.val x.2)⟩)
theorem dO.map {α:Type} (xs:List α) (g:α→D) (P:α→Bool) (F:α→D) (hz:xs.length≤1000000) (turn:∀a∈xs,∀os,os.length=ts.length→∀I,bh c (gy ts os caps gs) I bk (g a) fun dF=>(∃bq,bq.length=ts.length∧dF=gy ts bq caps gs)∧eK c k dF Y ifs (P a)∧(P a=true→f8 c k dF Y elt (F a))):dO c k O Y elt bk ifs ts caps gs (xs.map g) ((xs.filter P).map F):=by
 refine⟨⟨fun aD NE l=>∃pre jr os,xs=pre++jr∧aD=jr.map g∧os.length=ts.length∧NE=gy ts os caps gs∧l=(pre.filter P).map F,⟨[],xs,kh ts,rfl,rfl,by simp[kh],rfl,rfl⟩,?_,?_⟩⟩
 ·intro d rest NE l Go;refine yK Go fun pre jr os hx hr xz s4 eg=>?_;subst s4 eg;rcases jr with _|⟨a,jr⟩
  ·injection hr
  ·refine Op (jd hr) fun s4 eg=>?_;subst s4 eg;refine⟨?_,fun I=>?_⟩
   ·have h1:((pre.filter P).map F).length≤pre.length:=by rw[b8];exact ir _ _
    have h2:pre.length≤xs.length:=by refine U hx (U dR ?_);exact bV _ _
    exact fS ‹_› h2 ‹_›
   ·intro A V s bs Z v ue w FS Q E q;refine turn a (by refine U hx ?_;simp) os xz I A V s bs Z v ue w FS Q E fun dF s' Z' run cP ⟨⟨bq,bG,e⟩,h1,h2⟩=>q dF s' Z' run cP ⟨P a,h1,fun e'=>?_,fun e'=>⟨F a,h2 e',?_⟩⟩
    ·exact Hq (pre++[a]) jr bq (by refine U hx ?_;simp) rfl bG e (by simp[e'])
    ·exact Hq (pre++[a]) jr bq (by refine U hx ?_;simp) rfl bG e (by simp[e'])
 ·intro NE l Go;refine yK Go fun pre jr os hx hr xz s4 eg=>?_;subst s4 eg;have:jr=[]:=by simpa using hr.symm
  subst this;rw[hx,fQ]
variable {α:Type} {xs:List α} {P:α→Bool} {F:α→D}
theorem dO.one (g:α→D) (hz:xs.length≤1000000) (turn:∀a∈xs,eK c k (⟨n,kd,some (g a)⟩::tu caps gs) Y ifs (P a)∧(P a=true→f8 c k (⟨n,kd,some (g a)⟩::tu caps gs) Y elt (F a))) (hk:kd= .loc∨kd= .aL:=by first|exact .inl rfl|exact .inr rfl):
 dO c k O Y elt (.Name n p) ifs [(n,kd)] caps gs (xs.map g) ((xs.filter P).map F):=
 dO.map xs g P F hz fun a ha os xz I=>iZ (P:=fun os=>bh c (gy [(n,kd)] os caps gs) I (.Name n p) (g a) _) (fun o=>bh.name (dU.head hk) ⟨⟨[some (g a)],rfl,rfl⟩,turn a ha⟩) os xz
theorem dO.two (g₁ qC:α→D) (hz:xs.length≤1000000) (turn:∀a∈xs,eK c k (⟨n₁,k₁,some (g₁ a)⟩::⟨oq,k₂,some (qC a)⟩::tu caps gs) Y ifs (P a)∧(P a=true→f8 c k (⟨n₁,k₁,some (g₁ a)⟩::⟨oq,k₂,some (qC a)⟩::tu caps gs) Y elt (F a)))
 (h₁:k₁= .loc∨k₁= .aL:=by first|exact .inl rfl|exact .inr rfl) (h₂:k₂= .loc∨k₂= .aL:=by first|exact .inl rfl|exact .inr rfl):
 dO c k O Y elt (.Tuple [.Name n₁ zk,.Name oq uo] m p) ifs [(n₁,k₁),(oq,k₂)] caps gs (xs.map fun a=>.tup [g₁ a,qC a]) ((xs.filter P).map F):=by
 refine dO.map xs _ P F hz fun a ha os xz I=>?_;refine sr (P:=fun os=>bh c (gy [(n₁,k₁),(oq,k₂)] os caps gs) I _ _ _) (fun NP WV=>?_) os xz;refine bh.tuple ?_;refine bh.name (dU.head h₁) ?_;exact bh.name (.there (dU.head h₂)) ⟨⟨[some (g₁ a),some (qC a)],rfl,rfl⟩,turn a ha⟩
theorem dO.four (g₁ qC Cw DC:α→D) (hz:xs.length≤1000000) (turn:∀a∈xs,eK c k (⟨n₁,k₁,some (g₁ a)⟩::⟨oq,k₂,some (qC a)⟩::⟨n_,sO,some (Cw a)⟩::⟨DF,zv,some (DC a)⟩::tu caps gs) Y ifs (P a)∧(P a=true→f8 c k (⟨n₁,k₁,some (g₁ a)⟩::⟨oq,k₂,some (qC a)⟩::⟨n_,sO,some (Cw a)⟩::⟨DF,zv,some (DC a)⟩::tu caps gs) Y elt (F a)))
 (h₁:k₁= .loc∨k₁= .aL:=by first|exact .inl rfl|exact .inr rfl) (h₂:k₂= .loc∨k₂= .aL:=by first|exact .inl rfl|exact .inr rfl) (qd:sO= .loc∨sO= .aL:=by first|exact .inl rfl|exact .inr rfl) (h₄:zv= .loc∨zv= .aL:=by first|exact .inl rfl|exact .inr rfl):
 dO c k O Y elt (.Tuple [.Name n₁ zk,.Name oq uo,.Name n_ afW,.Name DF agi] m p) ifs [(n₁,k₁),(oq,k₂),(n_,sO),(DF,zv)] caps gs (xs.map fun a=>.tup [g₁ a,qC a,Cw a,DC a]) ((xs.filter P).map F):=by
 refine dO.map xs _ P F hz fun a ha os xz I=>?_;refine WX (P:=fun os=>bh c (gy [(n₁,k₁),(oq,k₂),(n_,sO),(DF,zv)] os caps gs) I _ _ _) (fun NP WV af8 af3=>?_) os xz;refine bh.tuple ?_;refine bh.name (dU.head h₁) ?_;refine bh.name (.there (dU.head h₂)) ?_;refine bh.name (.there (.there (dU.head qd))) ?_;exact bh.name (.there (.there (.there (dU.head h₄)))) ⟨⟨[some (g₁ a),some (qC a),some (Cw a),some (DC a)],rfl,rfl⟩,turn a ha⟩
end
end
local macro_rules | `(tactic| walk_at "v") => `(tactic| (with_reducible repeat (first | exact D0 | refine List.mem_cons_of_mem _ ?_)))
local macro_rules | `(tactic| kd_in) => `(tactic| (with_reducible repeat (first | exact dU.loc | exact dU.aL | apply dU.there)))
local macro_rules | `(tactic| kd_p) => `(tactic| (first | exact f8.str | exact f8.int | exact f8.none | exact f8.bool | (apply f8.name (hd := by decide +kernel); walk_at "v") | exact Ev ‹_› (by decide) | decide +kernel | kernel_rfl | (intro; rfl)))
local macro_rules | `(tactic| kst_p) => `(tactic| ((try conv in gJ _ => whnf); dsimp only [vars, tu, gy, List.zip, List.zipWith, List.map, List.append_nil, HAppend.hAppend, Append.append, List.append]))
section
section
variable {c:ah} {k:Nat} {O:XV} {Y:B}
noncomputable def aK (c:ah) (O:XV) (Y:B) (d:D) (l:List D):Prop:=
 ∀(h:Heap) (V:Env) (Z:TW) (v:Value),bz c Z h V O Y→Tells Z v d→∃a H n,v= .ref a∧h.get? a=some {cls:=.type "list",data:=.seq H n}∧au Z H.toList l
theorem aK.list:aK c O Y (.list l) l:=fun h V Z v r t=>by
 refine t.l fun e hl=>?_;exact uc _ _ _ rfl (r.sub.get e) hl
theorem aK.cell (hm:Y a=some (.list l)):aK c O Y (.val (.ref a)) l:=fun h V Z v r t=>by
 refine t.v ?_;obtain⟨⟨o,xz,H,n,rfl,FS⟩,_⟩:=r.cells _ _ hm;exact uc a H n rfl xz FS
theorem kc.seq (hs:aK c O Y d l):kc c O Y d "list" :=fun s V Z v r t=>by
 refine dS (hs _ V Z v r t) fun a H n s4 hg J=>?_;subst s4;exact⟨⟨_,hg,rfl⟩,fun b e=>by cases e;exact⟨_,hg,rfl⟩⟩
theorem f8.sub (s5:f8 c k O Y v d₁) (hs:f8 c k O Y bS d₂) (xz:Rs c k O Y (subscriptTail v bS) d₁ d₂ d):f8 c k O Y (.Subscript v bS pos) d:=
 fun A V s Z ok x Q E h=>Subscript_ (f8.two s5 hs xz ok x h)
theorem getL {Z:TW} {H:Array Value} {l:List D} (h:au Z H.toList l) {i:Nat} {d:D} (hi:l[i]?=some d):∃v,H[i]?=some v∧Tells Z v d:=by
 refine wS (h.get hi) fun v h1 h2=>?_;exact⟨v,by rw[←vX];exact h1,h2⟩
theorem Rs.item (hs:aK c O Y d₁ l) (h0:0≤i) (hi:l[i.toNat]?=some d) (hb:l.length≤1000000)
 (hsub:∀o j,subscripted bS false o j=operate [o,j] (getItem o j):=by intros;rfl):Rs c k O Y (subscriptTail v bS) d₁ (.int i) d:=by
 intro A V s Z bg bK ok r h₁ h₂ Q E g;refine dS (hs _ V Z bg r h₁) fun a H n s4 hg FS=>?_;subst s4;refine h₂.i fun J=>?_;refine wS (getL FS hi) fun x hx dj=>?_;have bJ:i.toNat<l.length:=(lq.mp hi).1;exact r7 (T:="list") ⟨_,hg,rfl⟩ Dk.lookup (wpAny_getItem_list ⟨_,hg,rfl,n,rfl⟩ h0 (Pj h0 hb bJ) hx (kF g r.top r.sub dj)) (hsub _ _)
theorem Rs.ve (hs:aK c O Y d₁ l) (h0:i<0) (h1: -(l.length:Int)≤i) (hi:l[(i+l.length).toNat]?=some d) (hb:l.length≤1000000)
 (hsub:∀o j,subscripted bS false o j=operate [o,j] (getItem o j):=by intros;rfl):Rs c k O Y (subscriptTail v bS) d₁ (.int i) d:=by
 intro A V s Z bg bK ok r h₁ h₂ Q E g;refine dS (hs _ V Z bg r h₁) fun a H n s4 hg FS=>?_;subst s4;refine h₂.i fun J=>?_;have hsz:H.size=l.length:=by exact ZB FS.length (U gB rfl)
 refine wS (getL FS hi) fun x hx dj=>?_;exact r7 (T:="list") ⟨_,hg,rfl⟩ Dk.lookup (wpAny_getItem_list_neg ⟨_,hg,rfl,n,rfl⟩ h0 (by refine U hsz ?_;exact h1) (Wt h1 hb) (by refine U hsz ?_;exact hx) (kF g r.top r.sub dj)) (hsub _ _)
theorem Rs.u6 (h0:0≤i) (hi:l[i.toNat]?=some d) (hb:l.length≤1000000)
 (hsub:∀o j,subscripted bS false o j=operate [o,j] (getItem o j):=by intros;rfl):Rs c k O Y (subscriptTail v bS) (.tup l) (.int i) d:=by
 intro A V s Z bg bK ok r h₁ h₂ Q E g;refine h₂.i fun J=>?_;refine h₁.t fun{a H n} h FS=>?_;refine wS (getL FS hi) fun x hx dj=>?_;have bJ:i.toNat<l.length:=(lq.mp hi).1;have hsz:H.size=l.length:=by exact ZB FS.length (U gB rfl)
 have eX:seqIndex? i H.size=some i.toNat:=by
  have h3:i<(H.size:Int):=hsz▸Ro h0 bJ;unfold seqIndex?;simp[h0,h3,Int.not_lt.mpr h0]
 have hT:IsTup s.heap a H:=⟨_,r.sub.get h,rfl,n,rfl⟩;exact r7 hT.typeIs slot_tuple_getitem.lookup (getItem_tuple hT (qk (by decide) h0) (Pj h0 hb bJ) eX hx (kF g r.top r.sub dj)) (hsub _ _)
theorem Rs.BH (h1:aK c O Y d₁ sW) (h2:aK c O Y d₂ uB) (hb:sW.length+uB.length≤1000000):Rs c k O Y (binaryOp .Add) d₁ d₂ (.list (sW++uB)):=by
 intro A V s Z bg bK ok r EQ t₂ Q E g;refine dS (h1 _ V Z bg r EQ) fun a H n s4 hg FS=>?_;subst s4;refine dS (h2 _ V Z bK r t₂) fun b ws m s4 hg' Aw=>?_;subst s4;have e1:H.size=sW.length:=by exact ZB FS.length (U gB rfl)
 have e2:ws.size=uB.length:=by exact ZB Aw.length (U gB rfl)
 refine PySem.P.add_list hg hg' (g _ _ _ (Step.push r.top r.sub _ rfl (by simp)) (.list (TW.ai ..) ?_)) (by refine U cQ (U e1 (U e2 ?_));exact Ev ‹_› (by decide));exact U Ij ((FS.append Aw).mono (Step.push r.top r.sub _ rfl (by simp)).le)
theorem bZ.len (hs:aK c O Y d l) (hb:l.length≤1000000):bZ c k O Y (.builtin "len") [d] (.int l.length):=by
 intro A V s Z H ok r h Q E g;refine wS (iF h) fun v s4 s5=>?_;subst s4;refine dS (hs _ V Z v r s5) fun a H n s4 hg FS=>?_;subst s4;have e1:H.size=l.length:=by exact ZB FS.length (U gB rfl)
 refine len_list ⟨_,hg,rfl,n,rfl⟩ (by refine U e1 ?_;exact pn hb) ?_;exact U e1 (gV g r.top r.sub (.int _ _) (bV s.toks 2))
theorem f8.len (hf:f8 c k O Y (.Name "len" p) (.val (.builtin "len"))) (he:f8 c k O Y e d) (hs:aK c O Y d l) (hb:l.length≤1000000)
 (hst:∀V,starEach [e] V=[(false,eval e V)]:=by intro;rfl):f8 c k O Y (.Call (.Name "len" p) [e] [] pos) (.int l.length):=
 f8.call hf (.inl fun a e=>(by injection e)) (.cons he .nil hst) (bZ.len hs hb) (fun V=>by rw[hst];rfl)
theorem f8.neg (he:f8 c k O Y e (.int i)):f8 c k O Y (.UnaryOp .USub e pos) (.int (-i)):=by
 intro A V s Z ok x Q E h;show wpAny c.M A (do let v←eval e V;standAt pos;holding [v] (unaryOp .USub v)) Q E s;refine u8 (he A V s Z ok x _ E fun v s₁ aC EQ h₁=>u8 (f6 (bW ?_)));refine h₁.i fun J=>?_;exact PyProof.Rows.neg_int (gV (Gives.of (c:=c) h EQ) EQ.top EQ.sub (.int _ _) (b7 _))
noncomputable def ff (c:ah) (k:Nat) (O:XV) (Y:B) (Vl:Option Expr) (i0:Option Int):Prop:=
 ∀(A:Around) (V:Env) (s:Shared) (Z:TW),Ok c k A s→bz c Z s.heap V O Y→∀(Q E:Value→Shared→Prop),(∀v s' Z',Step c s Z s' Z'→IsPart v i0→Q v s')→wpAny c.M A (valueOrNone (evalOpt Vl V)) Q E s
theorem ff.none:ff c k O Y none none:=fun A V s Z ok r Q E h=>On (h _ s Z r.start .none)
theorem ff.some (he:f8 c k O Y e (.int i)):ff c k O Y (some e) (some i):=fun A V s Z ok r Q E h=>he A V s Z ok r Q E fun v s' Z' t s5=>by
 refine s5.i fun J=>?_;exact h _ s' Z' t (.int _ _)
theorem OS {lo hi st:Option Expr} {p:Pos} {i j m:Option Int} (hl:ff c k O Y lo i) (hh:ff c k O Y hi j) (hm:ff c k O Y st m) {A:Around} {V:Env} {s:Shared} {Z:TW} (ok:Ok c k A s) (r:bz c Z s.heap V O Y) {Q E:Value→Shared→Prop}
 (h:∀a b d s' Z',Step c s Z s' Z'→IsPart a i→IsPart b j→IsPart d m→Q (.ref s'.heap.objs.size) {s' with heap:=s'.heap.push {cls:=.type "slice",data:=.fields #[a,b,d]}}):wpAny c.M A (eval (.Slice lo hi st p) V) Q E s:=by
 show wpAny c.M A (do
  let l←valueOrNone (evalOpt lo V)
  let u←holding [l] (valueOrNone (evalOpt hi V))
  let s←holding [l,u] (valueOrNone (evalOpt st V))
  newFields "slice" [l,u,s]) Q E s
 refine u8 (hl A V s Z ok r _ E fun a s₁ aC EQ jh=>u8 (bW ?_));refine hh A V s₁ aC (ok.step EQ) (r.step EQ) _ E fun b s₂ bx t₂ mP=>u8 (bW ?_);refine hm A V s₂ bx ((ok.step EQ).step t₂) ((r.step EQ).step t₂) _ E fun d aF er t₃ pd=>?_;exact iL (h a b d aF er ((EQ.trans t₂).trans t₃) jh mP pd)
noncomputable def lD (l:List D) (lo hi st:Option Int):List D:=
 (sliceRange (sliceBounds lo hi st l.length).1 (sliceBounds lo hi st l.length).2.1 (sliceBounds lo hi st l.length).2.2).filterMap (fun x=>l[x]?)
theorem IM (l) (lo hi):lD l lo hi none=(l.drop (lo.elim 0 (clipAt l.length))).take (hi.elim l.length (clipAt l.length)-lo.elim 0 (clipAt l.length)):=by
 unfold lD;rw[sliceBounds_plain];simp only[sliceRange_one];have h:=pick_run l.toArray (lo.elim 0 (clipAt l.length)) (hi.elim l.length (clipAt l.length)-lo.elim 0 (clipAt l.length));simpa using h
theorem LD {l:List D} {i:Nat} (h:i≤l.length):lD l none (some (i)) none=l.take i:=by
 rw[IM];simp only[Option.elim,clipAt_nat,zw,Nat.sub_zero,AU h]
theorem Ds {l:List D} {i:Nat} (h:i≤l.length):lD l (some (i)) none none=l.drop i:=by
 rw[IM];simp only[Option.elim,clipAt_nat,AU h];exact U (vJ (by simp)) rfl
theorem aaT:lD l none (some (-1:Int)) none=l.take (l.length-1):=by
 rw[IM];have:=clipAt_neg l.length 1 (by decide);simp only[Option.elim,zw,Nat.sub_zero];exact U (show(-1:Int)= -((1:Nat):Int) by rfl) (U this rfl)
theorem au.places (h:au Z H l):∀Cj:List Nat,au Z (Cj.filterMap (fun x=>H[x]?)) (Cj.filterMap (fun x=>l[x]?))
 |[]=>.nil
 |j::Cj=>by
  have ih:=au.places h Cj
  induction M2:l[j]? with
  |some d=>
   refine wS (h.get M2) fun v s5 t=>?_;simp only[C5,M2,s5];exact .cons t ih
  |none=>
   have s5:H[j]?=none:=by
    rw[lP]at M2⊢;exact U h.length M2
   simp only[C5,M2,s5];exact ih
theorem au.pick (h:au Z H.toList l) (lo hi st):au Z (slicePick H lo hi st).toList (lD l lo hi st):=by
 have e:(slicePick H lo hi st).toList=(sliceRange (sliceBounds lo hi st l.length).1 (sliceBounds lo hi st l.length).2.1 (sliceBounds lo hi st l.length).2.2).filterMap (fun x=>H.toList[x]?):=by
  have e1:H.size=l.length:=by exact ZB h.length (U gB rfl)
  simp[slicePick,e1]
 exact U e (h.places _)
theorem f8.slice {v:Expr} {lo hi st:Option Expr} {p pos:Pos} {d:D} {l:List D} {i j m:Option Int} (s5:f8 c k O Y v d) (hs:aK c O Y d l) (hl:ff c k O Y lo i) (hh:ff c k O Y hi j) (hm:ff c k O Y st m) (h0:m≠some 0) (hb:l.length≤1000000)
 (hsub:∀o x,∃ops,subscripted (.Slice lo hi st p) false o x=operate ops (getItem o x):=by intros;exact⟨_,rfl⟩):f8 c k O Y (.Subscript v (.Slice lo hi st p) pos) (.list (lD l i j m)):=by
 intro A V s Z ok x Q E g;refine Subscript_ (s5 A V s Z ok x _ E fun bg s₁ aC EQ h₁=>OS hl hh hm (ok.step EQ) (x.step EQ) fun a b ck s₂ bx t₂ jh mP pd=>?_);have r₂:=(x.step EQ).step t₂;have st:=Step.alloc (c:=c) (Z:=bx) t₂.top t₂.sub {cls:=.type "slice",data:=.fields #[a,b,ck]};refine dS (hs _ V bx bg r₂ (h₁.mono t₂.le)) fun la H n s4 hg FS=>?_;subst s4;have e1:H.size=l.length:=by exact ZB FS.length (U gB rfl)
 have hg':=bX (h:=s₂.heap) {cls:=.type "slice",data:=.fields #[a,b,ck]} hg;obtain⟨ops,Fl⟩:=hsub (.ref la) (.ref s₂.heap.objs.size);refine r7 (T:="list") ⟨_,hg',rfl⟩ Dk.lookup (wpAny_getItem_list_slice ⟨_,hg',rfl,n,rfl⟩ (Heap.IsSliceOf.new ..) jh mP pd h0 ?_ (by refine U cQ (U e1 ?_);exact Ev ‹_› (by decide))) Fl;have st2:=Step.push st.top st.sub {cls:=.type "list",data:=.seq (slicePick H i j m)} rfl (by simp);exact g _ _ _ (((EQ.trans t₂).trans st).trans st2) (.list (TW.ai ..) ((FS.pick i j m).mono (st.le.trans st2.le)))
end
end
section
noncomputable def c_ (c:ah) (k:Nat) (O:XV) (Y:B) (f:Value) (ds:List D) (Sc:D→B→Prop):Prop:=
 ∀(A:Around) (V:Env) (s:Shared) (Z:TW) (H:List Value),Ok c k A s→bz c Z s.heap V O Y→au Z H ds→∀(Q E:Value→Shared→Prop),
  (∀d I v s' Z',aN c Y s Z I s' Z'→Tells Z' v d→Sc d I→Q v s')→wpAny c.M A (call f H) Q E s
section
variable {c:ah} {k:Nat} {O:XV} {Y:B} {Sc:D→B→Prop}
theorem cu.r (h:cu c k f ds Y Sc):c_ c k O Y f ds Sc:=fun A V s Z H ok r t Q E q=>h A s Z H ok r.top r.sub t r.cells Q E q
theorem aE.mono (h:aE c k O Y e aV) (Ch:∀d I,aV d I→Sc d I):aE c k O Y e Sc:=fun A V s Z ok r Q E q=>h A V s Z ok r Q E fun d I v s' Z' t s5 hp=>q d I v s' Z' t s5 (Ch d I hp)
theorem aE.call (hf:f8 c k O Y (.Name n p) (.val f)) (cl:Callee c f) (ha:ie c k O Y args ds) (hc:c_ c k O Y f ds Sc)
 (hs:∀V,(starEach args V).all (fun y=>!y.1)=true:=by intro;rfl):aE c k O Y (.Call (.Name n p) args [] pos) Sc:=by
 intro A V s Z ok r Q E g;refine rq (hf A V s Z ok r _ E fun v s₁ aC EQ s5=>?_);refine s5.v ?_;show wpAny c.M A (callWith pos f [] (backTo pos (starEach args V)) []) Q E s₁;refine lR cl (nu ha (ok.step EQ) (r.step EQ) hs fun H s₂ bx t₂ aZ=>⟨t₂.top,?_⟩);exact hc A V s₂ bx H ((ok.step EQ).step t₂) ((r.step EQ).step t₂) aZ Q E fun d I v s' Z' aq=>g d I v s' Z' (((EQ.trans t₂).after r).trans aq)
theorem aE.m6 {o:Expr} {name:Str} {c5 pos:Pos} {args:List Expr} {ds:List D} {d₀:D} {T id:String} (xz:f8 c k O Y o d₀) (hT:kc c O Y d₀ T) (jh:PlainAttrs T) (slot:Slot T name id)
 (Ab:typeOf (.builtin id)=pure (.type "method_descriptor")) (ha:ie c k O Y args ds) (hc:c_ c k O Y (.builtin id) (d₀::ds) Sc)
 (fH:∀V,attributeBase o name V (eval o V)=eval o V:=by intro;rfl)
 (hs:∀V,(starEach args V).all (fun y=>!y.1)=true:=by intro;rfl)
 (uI:∀V,((backTo pos (starEach args V)).all (fun x=>!x.1)&&(backToKw pos (keywordEach [] V)).all (fun x=>x.1.isSome)
  &&decide (args.length+([]:List Keyword).length+(if([]:List Keyword).isEmpty then 0 else 1)<30))=true:=by intro;rfl)
 (fY:(c5.endLine==pos.line)=true:=by rfl):aE c k O Y (.Call (.Attribute o name c5) args [] pos) Sc:=by
 intro A V s Z ok r Q E g;refine ya (fH V) (uI V) fY (xz A V s Z ok r _ E fun v s₁ aC EQ s5=>?_);refine Op (hT s₁ V aC v (r.step EQ) s5) fun h1 h2=>?_;refine z3 T id jh slot Ab h1 h2 ?_;refine lR (c:=c) (f:=.builtin id) (first:=[v]) (.inl fun a e=>(by injection e)) (nu ha (ok.step EQ) (r.step EQ) hs fun H s₂ bx t₂ aZ=>⟨t₂.top,?_⟩);exact hc A V s₂ bx (v::H) ((ok.step EQ).step t₂) ((r.step EQ).step t₂) (.cons (s5.mono t₂.le) aZ) Q E fun d I v s' Z' aq=>g d I v s' Z' (((EQ.trans t₂).after r).trans aq)
theorem FM.expr (he:aE c k O Y e fun d I=>aV (.next O I)) (hs:∀{V},swapsWith e none pos.line V=pure false:=by intros;rfl):FM c k O Y (.Expr e pos) aV:=by
 intro A V s bs Z ok w Q E q;have hk:V.scope.kind= .function:=w.rd.fn;refine wpAny_Expr_any (he A V s Z ok w.rd _ E fun d I v s' Z' aq s5 h=>q (.next O I) .next s' Z' aq.run (w.after aq) .next h) ?_ hs;unfold interactive;refine U hk ?_;rfl
theorem aE.newList (he:ie c k O Y es ds) (hz:ds.length≤1000000) (h:∀a,Y a=none→Sc (.val (.ref a)) (Y.put a (some (.list ds)))):aE c k O Y (.List es pos) Sc:=by
 intro A V s Z ok x Q E q;refine List_ (he A V s Z pos ok x _ E fun H s₁ aC EQ s5=>iL ?_ (by show H.toArray.size≤sizeLine;refine U jv (U s5.length (U cQ ?_));exact Ev ‹_› (by decide)));have r₁:=x.step EQ;exact q _ _ _ _ _ ((EQ.after x).trans (aN.new (t:=s₁.toks) (cl:=.list ds) (o:={cls:=.type "list",data:=.seq H.toArray}) r₁.cells r₁.top r₁.sub rfl ⟨_,_,rfl,by simpa using s5⟩ (aH _))) (.val _) (h _ (x.fresh EQ.grow.1))
theorem aE.newDict (h:∀a,Y a=none→Sc (.val (.ref a)) (Y.put a (some (.dict [])))):aE c k O Y (.Dict [] [] pos) Sc:=by
 intro A V s Z ok x Q E q;rw[eval_Dict_empty];refine u8 (f6 ?_);unfold PySem.newDict;refine iL ?_ (by size_fits);exact q _ _ _ _ _ (aN.new (t:=s.toks) (cl:=.dict []) (o:={cls:=.type "dict",data:=.dict #[]}) x.cells x.top x.sub rfl ⟨[],⟨#[],0,⟨rfl,rfl,rfl⟩,rfl,fun J h=>by simp at h,.nil,yG⟩,rfl,.nil⟩ (aH _)) (.val _) (h _ (x.fresh (aH _)))
theorem q3 (r:bz c Z h V O Y) (ha:Y a=some (.list l)):∃H n,h.get? a=some {cls:=.type "list",data:=.seq H n}∧au Z H.toList l:=by
 refine Op (r.cells a _ ha) fun aG J=>?_;refine wS aG fun o xz UD=>eG UD fun H n abB FS=>?_;subst abB;exact pS H n xz FS
theorem c_.append (ha:Y a=some (.list l)) (hz:l.length≤1000000) (h:Sc (.val .none) (Y.put a (some (.list (l++[d]))))):c_ c k O Y (.builtin "list.append") [.val (.ref a),d] Sc:=by
 intro A V s Z H ok r t Q E q;refine fB (m8 t) fun bg bK s4 h₁ h₂=>?_;subst s4;refine h₁.v ?_;refine eG (q3 r ha) fun its n xz FS=>?_;have hsz:its.size=l.length:=by exact ZB FS.length (U gB rfl)
 refine append_at xz (fun h' av bG=>q _ _ _ _ Z ?_ (.val _) h) (by refine U hsz (U cQ ?_);lia);refine aN.put (t:=s.toks) r.cells r.top r.sub (by refine U ha ?_;simp) av bG (fun H=>by simp) ⟨_,_,rfl,?_⟩ (aH _);exact U Ia (FS.append (.cons h₂ .nil))
theorem aE.append (xz:f8 c k O Y o (.val (.ref a))) (he:f8 c k O Y e d) (ha:Y a=some (.list l)) (hz:l.length≤1000000) (h:Sc (.val .none) (Y.put a (some (.list (l++[d])))))
 (fH:∀V,attributeBase o "append" V (eval o V)=eval o V:=by intro;rfl) (hs:∀V,starEach [e] V=[(false,eval e V)]:=by intro;rfl)
 (fY:(c5.endLine==pos.line)=true:=by rfl):aE c k O Y (.Call (.Attribute o "append" c5) [e] [] pos) Sc:=
 aE.m6 xz (.seq (.cell ha)) AO F.slot_list_append F.type_list_append (.cons he .nil hs) (.append ha hz h) fH (fun V=>by rw[hs];rfl) (fun V=>by rw[hs];rfl) fY
theorem Ql {h:Heap} {D:Addr} {its its':Array Value} {n:Nat} (xz:h.get? D=some {cls:=.type "list",data:=.seq its n}) (f:Array Value→Array Value) (he:f its=its'):∃gx,(h.update D (Obj.mapSeq f)).get? D=some {cls:=.type "list",data:=.seq its' gx}:=by
 have q:=PySem.IsL.update (h:=h) (l:=D) (items:=its) (n:=n) xz f;rw[he]at q;exact⟨_,q⟩
theorem au.split:∀{l:List D} {H:List Value},au Z H (l++m)→∃p q,H=p++q∧au Z p l∧au Z q m:=by
 intro l
 induction l with
 |nil=>intro H h;exact⟨[],H,rfl,.nil,h⟩
 |cons x l ih=>
  intro H h;change au Z H (x::(l++m))at h;refine h.c fun{a b} h1 h2=>?_;refine fB (ih h2) fun p q e ji b'=>?_;exact r9 (a::p) q (by refine U e ?_;rfl) (.cons h1 ji) b'
theorem c_.R9 (ha:Y a=some (.list (l++[d]))) (hz:l.length≤1000000) (h:Sc d (Y.put a (some (.list l)))):c_ c k O Y (.builtin "list.pop") [.val (.ref a)] Sc:=by
 intro A V s Z H ok r t Q E q;refine wS (iF t) fun bg s4 h₁=>?_;subst s4;refine h₁.v ?_;refine eG (q3 r ha) fun its n xz FS=>?_;refine fB (FS.split) fun p q' ep hp Ch=>?_;refine wS (iF Ch) fun y s4 No=>?_;subst s4;have F5:its=(p++[y]).toArray:=by exact ZB ep (U xV rfl)
 subst F5;have hpl:=hp.length;have Eb:(p++[y]).toArray.size≤sizeLine:=by refine U jv (U dR (U hpl (U cQ ?_)));simp;exact Ev ‹_› (by decide)
 have hk:(p++[y]).toArray.size-1=p.length:=by refine U jv (U dR ?_);rfl
 have xE:(p++[y]).toArray[(p++[y]).toArray.size-1]?=some y:=by refine U hk ?_;simp
 refine xA PySem.F.slot_list_pop ⟨_,xz,rfl⟩ PySem.F.entry_list_pop (PySem.F.args_list_pop_1 _) (PySem.MeetsSeq.list_pop_last a _ n y xE Eb) ⟨xz,?_⟩;obtain⟨gx,bG⟩:=Ql (its':=p.toArray) xz (fun x=>x.eraseIdxIfInBounds ((p++[y]).toArray.size-1)) (by
  show(p++[y]).toArray.eraseIdxIfInBounds ((p++[y]).toArray.size-1)=p.toArray;rw[hk,PySem.W.kl_erase,fQ])
 exact q _ _ _ _ Z (aN.put (t:=s.toks) (eu:=.list _) r.cells r.top r.sub (by refine U ha ?_;simp) (mK ..) bG (fun H=>by simp) ⟨_,_,rfl,by simpa using hp⟩ (aH _)) No h
theorem c_.clear {a:Addr} {l:List D} (ha:Y a=some (.list l)) (hz:l.length≤1000000) (h:Sc (.val .none) (Y.put a (some (.list [])))):c_ c k O Y (.builtin "list.clear") [.val (.ref a)] Sc:=by
 intro A V s Z H ok r t Q E q;refine wS (iF t) fun bg s4 h₁=>?_;subst s4;refine h₁.v ?_;refine eG (q3 r ha) fun its n xz FS=>?_;have hsz:its.size=l.length:=by exact ZB FS.length (U gB rfl)
 refine xA PySem.F.slot_list_clear ⟨_,xz,rfl⟩ PySem.F.entry_list_clear (PySem.F.args_list_clear_1 _) (PySem.AutoSeq1.list_clear_list_0 a its n (by refine U hsz (U cQ ?_);lia)) ⟨xz,?_⟩;refine aO (Ql (its':=#[]) xz (fun J=>#[]) rfl) fun gx bG=>?_;exact q _ _ _ _ Z (aN.put (t:=s.toks) (eu:=.list _) r.cells r.top r.sub (by refine U ha ?_;simp) (mK ..) bG (fun H=>by simp) ⟨_,_,rfl,.nil⟩ (aH _)) (.val _) h
end
end
section
theorem aeB:entryFor table "issubclass.nested" =some Builtin.«issubclass.nested»:=entryFor_of_fast (by kernel_rfl)
theorem aat:builtinKind "issubclass.nested" =none:=by decide+kernel
theorem aeg:plainId "issubclass.nested" =true:=by decide+kernel
theorem adz (a b c):argsOk "issubclass.nested" ⟨[a,b,c],[]⟩:=by unfold argsOk;kernel_rfl
theorem YV:typeOf (.type "str")=pure (.type "type"):=by kernel_rfl
theorem adH:isSubtype (.type "str") (.type "str")=pure true:=by rw[lS];kernel_rfl
theorem Z2 (dep) (tk):PySem.Meets (Builtin.«issubclass.nested» ⟨[.type "str",.type "str",.int dep tk],[]⟩) (fun J R s=>R (.ok (.ret (.bool true))) s):=by
 intro _ _ _ _ _ hs;have hm:=YV;have hself:=adH
 repeat(any_goals (first|assumption|(rw[ak hm])|(rw[hself])|wp_step))
theorem ZS
 (Qs:s.heap.get? Aa=some {cls:=.type "tuple",data:=.seq H n}) (s5:∃r,H.toList= .type "str" ::r) (Ch:∀t,s.toks≤t→Q (.done (.ret (.bool true))) {s with toks:=t}):wpAny (model prog w) A (Builtin.«issubclass.nested» ⟨[.type "str",.ref Aa,.int 0 tk],[]⟩) Q E s:=by
 obtain⟨h,g,d,t,os⟩:=s;have Fi:(⟨h,g,d,t,os⟩:Shared).TypeIs (.ref Aa) "tuple" :=⟨_,Qs,rfl⟩;have f1:=PySem.F.isi_sub_tuple
 repeat(any_goals (first|assumption|wp_step))
 refine PySem.wpAny_arrayLoop ?_;simp only[Bl];refine aO s5 fun r hr=>?_;rw[hr,pH];refine u8 (u8 (PySem.call_function_meets aat aeg aeB (adz _ _ _) (Z2 _ _) ?_));show wpAny _ _ (truthy (.bool true)>>=_) _ _ _;refine u8 (m:=truthy (.bool true)) (On ?_);exact u8 (On (On (On (On (Ch _ (aH _))))))
theorem Z1:PySem.Meets (Builtin.«issubclass» ⟨[.type "str",.ref Aa],[]⟩) (fun J R s=>s.heap.get? Aa=some {cls:=.type "tuple",data:=.seq H n}∧(∃r,H.toList= .type "str" ::r)∧∀t,s.toks≤t→R (.ok (.ret (.bool true))) {s with toks:=t}):=
 fun J J J J J hs=>issubclass_outer (ZS hs.1 hs.2.1 hs.2.2)
section
variable {c:ah} {k:Nat} {O:XV} {Y:B}
theorem bZ.Zt:bZ c k O Y (.type "type") [.str x] (.val (.type "str")):=by
 intro A V s Z H ok r t Q E g;refine wS (iF t) fun v s4 h=>?_;subst s4;refine h.s fun J=>?_;exact PySem.call_type_of (Tx:="str") rfl (by decide+kernel) (kF g r.top r.sub (.val _))
theorem bZ.X_:bZ c k O Y (.builtin "issubclass") [.val (.type "str"),.tup (.val (.type "str")::l)] (.val (.bool true)):=by
 intro A V s Z H ok r t Q E g;refine fB (m8 t) fun bg bK s4 h₁ h₂=>?_;subst s4;refine h₁.v ?_;refine h₂.t fun{a H m} hz hl=>?_;obtain⟨r',hr⟩:∃r',H.toList= .type "str" ::r':=by
  generalize H.toList=q at hl;refine hl.c fun a b=>?_;refine a.v ?_;exact⟨_,rfl⟩
 exact call_issubclass Z1 ⟨r.sub.get hz,⟨r',hr⟩,fun t FS=>gV g r.top r.sub (.val _) FS⟩
theorem bZ.VK:bZ c k O Y (.builtin "isinstance") [.str x,.val (.type "bytes")] (.val (.bool false)):=by
 intro A V s Z H ok r t Q E g;refine fB (m8 t) fun bg bK s4 h₁ h₂=>?_;subst s4;refine h₁.s fun J=>?_;refine h₂.v ?_;exact PySem.call_isinstance (PySem.isinstance_false_str (by decide+kernel) (by kernel_rfl) (by rw[lS];kernel_rfl)) (gV g r.top r.sub (.val _) (b7 _))
theorem di.seq (hs:aK c O Y d l) (hz:l.length≤1000000):di c k O Y d (!l.isEmpty):=by
 intro A V s Z v ok r h Q E g;refine dS (hs _ V Z v r h) fun a H n s4 hg FS=>?_;subst s4;have e:(!H.isEmpty)=(!l.isEmpty):=by
  have h1:=FS.length;rw[gB]at h1;rcases H with⟨H⟩;cases H<;>cases l<;>simp_all
 refine EZ ⟨_,hg,rfl,_,rfl⟩ (by refine ZB gB (U FS.length ?_);exact pn ‹_›) ?_;exact U e (g _ Z ((Step.refl r.top r.sub).toks (bV _ 2)))
theorem r_:Callee c (.builtin n):=.inl fun a e=>(by injection e)
theorem sS:Callee c (.type n):=.inl fun a e=>(by injection e)
theorem fM {a:Addr} {st:Stmt} {q:Str} {dV:Value} (h:FnAt c a st q dV):Callee c (.ref a):=by
 refine dS (h.obj) fun o pm cd h1 h2 J=>?_;exact .inr ⟨_,o,_,rfl,h1,h2⟩
theorem aE.pop (xz:f8 c k O Y o (.val (.ref a))) (ha:Y a=some (.list (l++[d]))) (hz:l.length≤1000000) (h:Sc d (Y.put a (some (.list l))))
 (fH:∀V,attributeBase o "pop" V (eval o V)=eval o V:=by intro;rfl)
 (fY:(c5.endLine==pos.line)=true:=by rfl):aE c k O Y (.Call (.Attribute o "pop" c5) [] [] pos) Sc:=
 aE.m6 xz (.seq (.cell ha)) AO F.slot_list_pop F.type_list_pop .nil (.R9 ha hz h) fH (fun V=>by rfl) (fun V=>by rfl) fY
theorem aE.clear (xz:f8 c k O Y o (.val (.ref a))) (ha:Y a=some (.list l)) (hz:l.length≤1000000) (h:Sc (.val .none) (Y.put a (some (.list []))))
 (fH:∀V,attributeBase o "clear" V (eval o V)=eval o V:=by intro;rfl)
 (fY:(c5.endLine==pos.line)=true:=by rfl):aE c k O Y (.Call (.Attribute o "clear" c5) [] [] pos) Sc:=
 aE.m6 xz (.seq (.cell ha)) AO F.slot_list_clear F.type_list_clear .nil (.clear ha hz h) fH (fun V=>by rfl) (fun V=>by rfl) fY
theorem az.YD (h:az c k O Y e false):az c k O Y (.BoolOp .And (e::es) pos) false:=az.xO (b':=false) h (fun q=>(by injection q))
theorem az.to (h:az c k O Y e b) (q:b=b'):az c k O Y e b':=q▸h
end
end
section
open PySem.Builtin PySem.Builtin.Str
noncomputable def ww (l:List Str):List D:=l.map .str
theorem JT:∀l:List (Str×Tok),au Z (strValues l) (ww (l.map Prod.fst))
 |[]=>.nil
 |(x,t)::l=>.cons (.str x t) (JT l)
theorem xh:∀{H:List Value} {ys:List Str},au Z H (ww ys)→StrsAre H ys
 |_,[],h=>by refine h.n ?_;exact .nil
 |_,y::ys,h=>by
  refine h.c fun h1 h2=>?_;refine h1.s fun J=>?_;exact .cons _ _ (xh h2)
section
variable {c:ah} {k:Nat} {O:XV} {Y:B} {Sc:D→B→Prop}
theorem YU (g:Gives c s Z (.list ds) Q) (top:c.H0.StaysIn s.heap) (sub:Sub Z s.heap) (h:au Z H ds) (FS:s.toks≤t):Q (.ref s.heap.objs.size) {s with heap:=s.heap.push {cls:=.type "list",data:=.seq H.toArray},toks:=t}:=by
 have st:=(Step.push top sub {cls:=.type "list",data:=.seq H.toArray} rfl (by simp)).toks (t:=t) FS;exact g _ _ _ st (.list (TW.ai ..) (by simpa using h.mono st.le))
theorem bZ.split (No:(y.length==0)=false) (hx:x.length≤100000):bZ c k O Y (.builtin "str.split") [.str x,.str y] (.list (ww (Txt.split x y))):=by
 intro A V s Z H ok r t Q E g;refine fB (m8 t) fun bg bK s4 h₁ h₂=>?_;subst s4;clear t;refine h₁.s fun t=>?_;refine h₂.s fun u=>?_;refine g9 ?_;have pQ:∀(l:List (Str×Tok)) (tk:Nat),l.map Prod.fst=Txt.split x y→cy s {s with heap:=s.heap.push {cls:=.type "list",data:=.seq (strValues l).toArray},toks:=tk}→Q (.ref s.heap.objs.size) {s with heap:=s.heap.push {cls:=.type "list",data:=.seq (strValues l).toArray},toks:=tk}:=fun l tk e up=>by
  refine YU g r.top r.sub ?_ up.toks;exact ZB e (JT l)
 have hsz:x.length≤sizeLine:=by refine U cQ ?_;exact Ev ‹_› (by decide)
 cases h1:(decide (x.length<y.length)||decide (PySem.Builtin.Str.strKind x<PySem.Builtin.Str.strKind y))
 ·cases hf:(occurrences x y 0 x.length (x.length+1)).isEmpty
  ·refine xA AX (wH _ _ _) Ho (Jt _ _) (meets_str_split_sep x y t u h1 No hf hsz ?_) ?_
   ·rw[Hr];have:=StrLaws.occ_length_le x y 0 x.length (x.length+1);refine U cQ ?_;lia
   ·show wants _ E _ {s with toks:=_,heap:=s.heap.push {cls:=.type "list",data:=.seq (strsFrom s.toks (partsBetween x (occurrences x y 0 x.length (x.length+1)) y.length)).toArray}};rw[strsFrom_eq];exact pQ (numbered s.toks _) _ ((numbered_texts _ _).trans ((Tk (Gn h1)).trans (Tk (Gn hf))).symm)
  ·exact xA AX (wH _ _ _) Ho (Jt _ _) (meets_str_split_not_found x y t u h1 No hf)
    (pQ [(x,t)] _ ((Tk (Gn h1)).trans (ak hf)).symm)
 ·exact xA AX (wH _ _ _) Ho (Jt _ _) (meets_str_split_cannot_occur x y t u h1)
   (pQ [(x,t)] _ (ak h1).symm)
theorem f8.split (xz:f8 c k O Y o (.str x)) (he:f8 c k O Y e (.str y)) (No:(y.length==0)=false) (hx:x.length≤100000)
 (fH:∀V,attributeBase o "split" V (eval o V)=eval o V:=by intro;rfl) (hs:∀V,starEach [e] V=[(false,eval e V)]:=by intro;rfl)
 (fY:(c5.endLine==pos.line)=true:=by rfl):f8 c k O Y (.Call (.Attribute o "split" c5) [e] [] pos) (.list (ww (Txt.split x y))):=
 f8.m6 xz .str A7 AX F.type_str_split (.cons he .nil hs) (bZ.split No hx) fH (fun V=>by rw[hs];rfl) (fun V=>by rw[hs];rfl) fY
theorem bZ.join (hs:aK c O Y d (ww ys)) (hok:(ys.map (fun x=>x.length)).sum+ys.length*x.length≤1000000):bZ c k O Y (.builtin "str.join") [.str x,d] (.str (Txt.join x ys)):=by
 intro A V s Z H ok r t Q E g;refine fB (m8 t) fun bg bK s4 h₁ h₂=>?_;subst s4;clear t;refine h₁.s fun J=>?_;refine dS (hs _ V Z bK r h₂) fun a its n s4 hg FS=>?_;subst s4;exact g9 (PyProof.Rows.join_list ⟨_,hg,rfl,n,rfl⟩ (xh FS) (by exact Ev ‹_› (by decide)) fun t' tk up=>gV g r.top r.sub (.str _ _) up.toks)
theorem f8.join (xz:f8 c k O Y o (.str x)) (he:f8 c k O Y e d) (XS:aK c O Y d (ww ys)) (hok:(ys.map (fun x=>x.length)).sum+ys.length*x.length≤1000000)
 (fH:∀V,attributeBase o "join" V (eval o V)=eval o V:=by intro;rfl) (hs:∀V,starEach [e] V=[(false,eval e V)]:=by intro;rfl)
 (fY:(c5.endLine==pos.line)=true:=by rfl):f8 c k O Y (.Call (.Attribute o "join" c5) [e] [] pos) (.str (Txt.join x ys)):=
 f8.m6 xz .str A7 F.slot_str_join F.type_str_join (.cons he .nil hs) (bZ.join XS hok) fH (fun V=>by rw[hs];rfl) (fun V=>by rw[hs];rfl) fY
theorem f8.Be {v:Expr} {lo hi:Option Expr} {p pos:Pos} {x:Str} {i j:Option Int} (s5:f8 c k O Y v (.str x)) (hl:ff c k O Y lo i) (hh:ff c k O Y hi j) (hx:x.length≤1000000)
 (hsub:∀t y,∃ops,subscripted (.Slice lo hi Option.none p) false (.str x t) y=operate ops (getItem (.str x t) y):=by intros;exact⟨_,rfl⟩):f8 c k O Y (.Subscript v (.Slice lo hi Option.none p) pos) (.str (Txt.slice x i j)):=by
 intro A V s Z ok r Q E g;refine Subscript_ (s5 A V s Z ok r _ E fun bg s₁ aC EQ h₁=>OS hl hh ff.none (ok.step EQ) (r.step EQ) fun a b ck s₂ bx t₂ jh mP pd=>?_);refine h₁.s fun tk=>?_;have r₂:=(r.step EQ).step t₂;have hsz:x.length≤sizeLine:=by refine U cQ ?_;exact Ev ‹_› (by decide)
 have st:=Step.alloc (c:=c) (Z:=bx) t₂.top t₂.sub {cls:=.type "slice",data:=.fields #[a,b,ck]};cases pd;obtain⟨ops,Fl⟩:=hsub tk (.ref s₂.heap.objs.size);refine r7 (T:="str") (wH _ _ _) F.slot_str_getitem.lookup ?_ Fl;refine g9 ?_
 induction jh with
 |none=>
  induction mP with
  |none=>exact Bs (l:=Option.none) (u:=Option.none) (st:=Option.none) ⟨_,dN _ rfl,rfl,rfl⟩ rfl (D5 ⟨Ev (x8 x _ _) hsz,fun t' tk up=>g _ _ _ (((EQ.trans t₂).trans st).toks up.toks) (.str _ _)⟩)
  |int j u=>exact Bs (l:=Option.none) (u:=some (j,u)) (st:=Option.none) ⟨_,dN _ rfl,rfl,rfl⟩ rfl (D5 ⟨Ev (x8 x _ _) hsz,fun t' tk up=>g _ _ _ (((EQ.trans t₂).trans st).toks up.toks) (.str _ _)⟩)
 |int i w=>
  induction mP with
  |none=>exact Bs (l:=some (i,w)) (u:=Option.none) (st:=Option.none) ⟨_,dN _ rfl,rfl,rfl⟩ rfl (D5 ⟨Ev (x8 x _ _) hsz,fun t' tk up=>g _ _ _ (((EQ.trans t₂).trans st).toks up.toks) (.str _ _)⟩)
  |int j u=>exact Bs (l:=some (i,w)) (u:=some (j,u)) (st:=Option.none) ⟨_,dN _ rfl,rfl,rfl⟩ rfl (D5 ⟨Ev (x8 x _ _) hsz,fun t' tk up=>g _ _ _ (((EQ.trans t₂).trans st).toks up.toks) (.str _ _)⟩)
theorem Kz:∀{H:List Value} {ns:List Int},au Z H (ns.map .int)→∃xs:List (Int×Tok),H=xs.map (fun p=>.int p.1 p.2)∧xs.map Prod.fst=ns
 |_,[],h=>by refine h.n ?_;exact⟨[],rfl,rfl⟩
 |_,n::ns,h=>by
  refine h.c fun h1 h2=>?_;refine h1.i fun t=>?_;refine wS (Kz h2) fun xs s4 eg=>?_;subst s4 eg;exact⟨(n,t)::xs,rfl,rfl⟩
theorem bZ.sum {d:D} {ns:List Int} (hh:c.hd=false) (hs:aK c O Y d (ns.map .int)):bZ c k O Y (.builtin "sum") [d] (.int ns.sum):=by
 intro A V s Z H ok r t Q E g;refine wS (iF t) fun bg s4 h₁=>?_;subst s4;refine dS (hs _ V Z bg r h₁) fun a its n s4 hg FS=>?_;subst s4;refine wS (Kz FS) fun xs e1 e2=>?_;have e3:its=intItems xs.toArray:=by
  apply F_.mp;refine U e1 ?_;simp[intItems]
 subst e3;refine g9 (sum_intListG (ok.hand hh) ⟨_,hg,rfl,n,rfl⟩ fun h' tk t' dI up=>?_);have fX:preSum (numAt xs.toArray) xs.toArray.size=ns.sum:=by
  rw[preSum_eq,←e2];simp only[jv];exact U (vJ (by simp)) rfl
 refine U fX ?_;refine g _ _ Z ⟨⟨up.size,fun b o e=>⟨o,dI b o e,.refl _⟩⟩,fun b o e=>dI b o (r.top b o e),.refl ..,fun b o e=>⟨dI b o (r.sub.get e),(r.sub b o e).2⟩,up.toks,⟨_,_,rfl⟩⟩ (.int _ _)
theorem f8.sum {e:Expr} {p pos:Pos} {d:D} {ns:List Int} (hh:c.hd=false) (hf:f8 c k O Y (.Name "sum" p) (.val (.builtin "sum"))) (he:f8 c k O Y e d) (hs:aK c O Y d (ns.map .int))
 (hst:∀V,starEach [e] V=[(false,eval e V)]:=by intro;rfl):f8 c k O Y (.Call (.Name "sum" p) [e] [] pos) (.int ns.sum):=
 f8.call hf (.inl fun a e=>(by injection e)) (.cons he .nil hst) (bZ.sum hh hs) (fun V=>by rw[hst];rfl)
end
end
theorem acm (t:aT c):
 wE c k (vars [("path",.loc)] [.str x] [("kind",.loc)] [("type",.type "type"),("issubclass",.builtin "issubclass"),("str",.type "str"),("bytes",.type "bytes")]) B.no (gJ (bF 15)) (pL (.str x)):=by
 kst_p
 refine wE.cons (FM.assign (d:=.val (.type "str")) (f8.call (by kd_p) sS (.cons (by kd_p) .nil (by kd_p)) bZ.Zt (by kd_p)) (by kd_in) ?_);refine wE.cons (FM.ifs (b:=true) (az.plain (d:=.val (.bool true)) (f8.call (by kd_p) r_ (.cons (by kd_p) (.cons (f8.tuple (.cons (by kd_p) (.cons (by kd_p) .nil (by kd_p)) (by kd_p)) (by simp)) .nil (by kd_p)) (by kd_p)) bZ.X_ (by kd_p)) di.bool) (fun J=>wE.cons (FM.ret (by kd_p) ?_)) (fun h=>(by injection h)));rfl
theorem QC (t:aT c):cg c (k+1) (.ref 214) [.str x] (.str x):=
 cg.fn (st:=bF 15) (qual:="fspath") (dV:=.none) (t.fn rfl rfl rfl rfl) (by kd_p)
  (bB (t.dh (by kd_p) (by kd_p) (by decide)) (bB (t.dh (by kd_p) (by kd_p) (by decide)) (bB (t.dh (by kd_p) (by kd_p) (by decide)) (bB (t.dh (by kd_p) (by kd_p) (by decide)) cG)))) rfl (fun J J=>iZ fun J=>rfl) (fun bN=>acm (t.at (L:=bN)))
noncomputable abbrev aP:Str:=Str.ofString "/"
theorem Oi (t:aT c) (hf:f8 c (k+1) O Y (.Name "fspath" p) (.val (.ref 214))) (he:f8 c (k+1) O Y e (.str x)) (hs:∀V,starEach [e] V=[(false,eval e V)]:=by kd_p):f8 c (k+1) O Y (.Call (.Name "fspath" p) [e] [] pos) (.str x):=
 f8.call hf (fM (st:=bF 15) (t.fn rfl rfl rfl rfl)) (.cons he .nil hs) (cg.r (QC t)) (fun V=>by rw[hs];rfl)
theorem Im (hf:f8 c k O Y (.Name "isinstance" p) (.val (.builtin "isinstance"))) (he:f8 c k O Y e (.str x)) (hb:f8 c k O Y b (.val (.type "bytes"))) (hs:∀V,starEach [e,b] V=[(false,eval e V),(false,eval b V)]:=by kd_p) (n5:∀V,starEach [b] V=[(false,eval b V)]:=by kd_p):az c k O Y (.Call (.Name "isinstance" p) [e,b] [] pos) false:=
 az.plain (f8.call hf r_ (.cons he (.cons hb .nil n5) (fun V=>by rw[hs,n5])) bZ.VK (fun V=>by rw[hs];rfl)) di.bool
theorem Sn (t:aT c) (hx:x.length≤1000) (h1:(Txt.slice x none (some 1) !=aP)=false) (h2:((Txt.slice x (some 1) (some 2) !=aP)||(Txt.slice x (some 2) (some 3)==aP))=true):
 wE c (k+1) (vars [("p",.loc)] [.str x] [("sep",.loc),("empty",.loc)] [("fspath",.ref 214),("isinstance",.builtin "isinstance"),("bytes",.type "bytes")]) B.no (gJ (bF 19)) (pL (.tup [.str Str.empty,.str aP,.str (Txt.slice x (some 1) none)])):=by
 kst_p
 refine wE.cons (FM.assign (d:=.str x) (Oi t (by kd_p) (by kd_p)) (by kd_in) ?_);refine wE.cons (FM.ifs (b:=false) (Im (by kd_p) (by kd_p) (by kd_p)) (fun h=>(by injection h)) fun J=>?_);refine wE.cons (FM.assign (d:=.str aP) (by kd_p) (by kd_in) ?_);refine wE.cons (FM.assign (d:=.str Str.empty) (by kd_p) (by kd_in) ?_);refine wE.nil ?_;refine wE.cons (FM.ifs (b:=false) ?_ (fun h=>(by injection h)) fun J=>?_)
 ·exact ZB h1 (az.cmp (f8.Be (by kd_p) .none (.some (by kd_p)) (by kd_p)) (by kd_p) Rs.pU)
 refine wE.cons (FM.ifs (b:=true) ?_ (fun J=>?_) (fun h=>(by injection h)))
 ·refine ZB h2 (ZB (tT (Txt.slice x (some 2) (some 3)==aP)) ?_);refine az.q2 (az.cmp (f8.Be (by kd_p) (.some (by kd_p)) (.some (by kd_p)) (by kd_p)) (by kd_p) Rs.pU) fun J=>?_;exact az.q2 (az.cmp (f8.Be (by kd_p) (.some (by kd_p)) (.some (by kd_p)) (by kd_p)) (by kd_p) Rs.eqStr) fun J=>az.yC
 refine wE.cons (FM.ret (d:=.tup [.str Str.empty,.str aP,.str (Txt.slice x (some 1) none)]) (f8.tuple (.cons (by kd_p) (.cons (by kd_p) (.cons (f8.Be (by kd_p) (.some (by kd_p)) .none (by kd_p)) .nil (by kd_p)) (by kd_p)) (by kd_p)) (by simp)) ?_);rfl
theorem Vf (t:aT c) (hx:x.length≤1000) (h1:(Txt.slice x none (some 1) !=aP)=false) (h2:((Txt.slice x (some 1) (some 2) !=aP)||(Txt.slice x (some 2) (some 3)==aP))=true):cg c (k+2) (.ref 228) [.str x] (.tup [.str Str.empty,.str aP,.str (Txt.slice x (some 1) none)]):=
 cg.fn (st:=bF 19) (qual:="splitroot") (dV:=.none) (t.fn rfl rfl rfl rfl) (by kd_p)
  (bB (t.glob (by kd_p)) (bB (t.dh (by kd_p) (by kd_p) (by decide)) (bB (t.dh (by kd_p) (by kd_p) (by decide)) cG))) rfl (fun J J=>iZ fun J=>rfl) (fun bN=>Sn (t.at (L:=bN)) hx h1 h2)
noncomputable abbrev ow:Str:=Str.ofString "."
noncomputable abbrev nI:Str:=Str.ofString ".."
noncomputable def xX (x:Str):Bool:=!(x.length !=0)||(x==ow)
noncomputable def gF (wP:List Str) (x:Str):List Str:=if xX x then wP else if x !=nI then wP++[x]else wP.dropLast
noncomputable def i9 (wP xs:List Str):List Str:=xs.foldl gF wP
noncomputable def qN (p:Str):Str:=aP++Txt.join aP (i9 [] (Txt.split (Txt.slice p (some 1) none) aP))
theorem aeZ (h:∀y∈wP,(y==nI)=false):∀y∈gF wP x,(y==nI)=false:=by
 intro y No;unfold gF at No;split at No
 ·exact h y No
 ·split at No
  ·rcases b5.mp No with No|No
   ·exact h y No
   ·rcases fq.mp No with rfl
    simp_all
  ·exact h y (List.dropLast_subset _ No)
theorem aeA:(gF wP x).length≤wP.length+1:=by
 unfold gF;split
 ·exact b7 _
 ·split
  ·simp
  ·simp;lia
theorem afD (h:∀y∈wP,y.length≤b) (hx:x.length≤b):∀y∈gF wP x,y.length≤b:=by
 intro y No;unfold gF at No;split at No
 ·exact h y No
 ·split at No
  ·rcases b5.mp No with No|No
   ·exact h y No
   ·rcases fq.mp No with rfl;exact hx
  ·exact h y (List.dropLast_subset _ No)
theorem Ey {l:List Str} {b:Nat} (h:∀y∈l,y.length≤b):(l.map (fun x=>x.length)).sum≤l.length*b:=by
 induction l with
 |nil=>simp
 |cons x l ih=>
  have h1:=h x (.head _);have h2:=ih fun y No=>h y (.tail _ No);simp only[aJ,List.sum_cons,bU,Nat.add_mul,Nat.one_mul];exact Ev (lK h1 h2) (bT (uy ..))
inductive Qq (x:Str) (cs:List Str) (a:Addr) (aD:List D) (O:XV) (Y:B):Prop
 |mk (done ay:List Str) (wP:List Str) (o:Option D):(aD=ww ay)→(cs=done++ay)→(Y=B.no.put a (some (.list (ww wP))))→(wP.length≤done.length)→((∀y∈wP,y.length≤1000))→((∀y∈wP,(y==nI)=false))→(i9 [] cs=i9 wP ay)→(O=[⟨"path",.loc,some (.str (Txt.slice x (some 1) none))⟩,⟨"sep",.loc,some (.str aP)⟩,⟨"dot",.loc,some (.str ow)⟩,⟨"dotdot",.loc,some (.str nI)⟩,⟨"_",.loc,some (.str Str.empty)⟩,⟨"initial_slashes",.loc,some (.str aP)⟩,⟨"comps",.loc,some (.list (ww cs))⟩,⟨"new_comps",.loc,some (.val (.ref a))⟩,⟨"comp",.loc,o⟩,⟨"fspath",.bw,some (.val (.ref 214))⟩,⟨"isinstance",.bw,some (.val (.builtin "isinstance"))⟩,⟨"bytes",.bw,some (.val (.type "bytes"))⟩,⟨"splitroot",.bw,some (.val (.ref 228))⟩])→Qq x cs a aD O Y
theorem Y9 (t:aT c) (hx:x.length≤1000) (xG:x.length≠0) (h1:(Txt.slice x none (some 1) !=aP)=false) (h2:((Txt.slice x (some 1) (some 2) !=aP)||(Txt.slice x (some 2) (some 3)==aP))=true)
 (hs:(Txt.split (Txt.slice x (some 1) none) aP).length≤300∧∀y∈Txt.split (Txt.slice x (some 1) none) aP,y.length≤1000):
 wE c (k+2) (vars [("path",.loc)] [.str x] [("sep",.loc),("dot",.loc),("dotdot",.loc),("_",.loc),("initial_slashes",.loc),("comps",.loc),("new_comps",.loc),("comp",.loc)] [("fspath",.ref 214),("isinstance",.builtin "isinstance"),("bytes",.type "bytes"),("splitroot",.ref 228)]) B.no (gJ (bF 20)) (pL (.str (qN x))):=by
 kst_p
 have hh:=t.hd;refine wE.cons (FM.assign (d:=.str x) (Oi t (by kd_p) (by kd_p)) (by kd_in) ?_);refine wE.cons (FM.ifs (b:=false) (Im (by kd_p) (by kd_p) (by kd_p)) (fun h=>(by injection h)) fun J=>?_);refine wE.cons (FM.assign (d:=.str aP) (by kd_p) (by kd_in) ?_);refine wE.cons (FM.assign (d:=.str ow) (by kd_p) (by kd_in) ?_);refine wE.cons (FM.assign (d:=.str nI) (by kd_p) (by kd_in) ?_);refine wE.nil ?_;refine wE.cons (FM.ifs (b:=false) ?_ (fun h=>(by injection h)) fun J=>wE.nil ?_)
 ·have:false= !(x.length !=0):=by simp[xG]
  exact U this (az.not (az.plain (by kd_p) (di.str (Ev hx (by decide)))))
 refine wE.cons (FM.B8 hh (d:=.tup [.str Str.empty,.str aP,.str (Txt.slice x (some 1) none)]) (f8.call (by kd_p) (fM (st:=bF 19) (t.fn rfl rfl rfl rfl)) (.cons (by kd_p) .nil (by kd_p)) (cg.r (Vf t hx h1 h2)) (by kd_p)) ?_);refine bh.tuple (bh.name (by kd_in) (bh.name (by kd_in) (bh.name (by kd_in) ?_)));dsimp only[rz];have hr:(Txt.slice x (some 1) none).length≤1000:=Ev (x8 x _ _) hx;refine wE.cons (FM.assign (f8.split (by kd_p) (by kd_p) (by kd_p) (Ev hr (by decide))) (by kd_in) ?_);generalize adq:Txt.split (Txt.slice x (some 1) none) aP=cs at hs;have cO:qN x=aP++Txt.join aP (i9 [] cs):=by unfold qN;exact U adq rfl
 refine wE.cons (FM.iG (aE.newList .nil (by simp) fun a J=>⟨_,by kd_in,?_⟩));refine wE.cons (FM.for hh gG (items:=ww cs) (bA.list (by kd_p)) (Qq x cs a)
  ⟨[],cs,[],_,rfl,rfl,rfl,aH _,by simp,by simp,rfl,rfl⟩ (fun J J J J=>trivial) ?_ ?_)
 ·intro d rest NE I Go;obtain⟨done,ay,wP,o,sN,he,rfl,hl,hb,hd,hg,rfl⟩:=Go;rcases ay with _|⟨y,ay⟩
  ·injection sN
  refine Op (jd sN) fun s4 eg=>?_;subst s4 eg;have No:y.length≤1000:=hs.2 y (by refine U he ?_;simp);have gg:done.length+ay.length+1≤300:=by have:=hs.1;rw[he]at this;simp at this;exact this
  have gX:(ww wP).length=wP.length:=by simp[ww]
  have uZ:=Ev (bV done.length (ay.length+1)) gg;have hda:=jX gX hl uZ;refine bh.name (by kd_in) ?_;have hnext:∀ru,ru=gF wP y→∃(Ph nU:List Str) (zV:List Str) (o:Option D),ww ay=ww nU∧cs=Ph++nU∧B.no.put a (some (.list (ww ru)))=B.no.put a (some (.list (ww zV)))∧zV.length≤Ph.length∧(∀y∈zV,y.length≤1000)∧(∀y∈zV,(y==nI)=false)∧i9 [] cs=i9 zV nU∧o=some (D.str y):=by
   rintro _ rfl;refine⟨done++[y],ay,_,_,rfl,by rw[he,jU];rfl,rfl,?_,afD hb No,aeZ hd,by rw[hg];rfl,rfl⟩;simp;exact Ev aeA (gr hl)
  refine wE.cons (FM.ifs (b:=xX y) ?_ (fun dJ=>wE.cons (FM.cont ?_)) fun dJ=>wE.nil ?_)
  ·unfold xX;exact ZB (tT (y==ow)) (az.q2 (az.not (az.plain (by kd_p) (di.str (Ev No (by decide))))) fun J=>az.q2 (az.cmp (by kd_p) (by kd_p) Rs.eqStr) fun J=>az.yC)
  ·refine vm (hnext wP (by unfold gF;exact U (ak dJ) rfl)) fun ck t' ji o' e1 e2 e3 fX e5 m5 ou s4=>?_;subst s4;exact⟨ck,t',ji,_,e1,e2,e3,fX,e5,m5,ou,rfl⟩
  refine wE.cons (FM.ifs (b:=y !=nI) ?_ (fun Ef=>?_) fun Ef=>?_)
  ·refine ZB (tT (y !=nI)) ?_;refine az.q2 (az.cmp (by kd_p) (by kd_p) Rs.pU) fun J=>?_;refine ZB (tT false) ?_;refine az.q2 (az.YD ((az.not (az.plain (d:=.str aP) (by kd_p) (di.str (by kd_p)))).to (by kd_p))) fun J=>?_;refine ZB (tT false) ?_;refine az.q2 ?_ fun J=>az.yC;refine ZB (JF (!(ww wP).isEmpty)) ?_;refine az.xO (az.plain (by kd_p) (di.seq (aK.cell (B.ai ..)) (Ev hda (by decide)))) fun a_=>?_;rcases P4 wP with rfl|⟨Ak,z,rfl⟩
   ·injection a_
   have hz:(z==nI)=false:=hd z (by simp);refine ZB hz (ZB (vM (z==nI)) ?_);refine az.xO (az.cmp (f8.sub (d₁:=.val (.ref a)) (d₂:=.int (-1)) (by kd_p) (f8.neg f8.int) (Rs.ve (aK.cell (B.ai ..)) (by decide) ?_ ?_ (Ev hda (by decide)))) (by kd_p) Rs.eqStr) fun J=>az.Lv
   ·simp[ww];exact HV (kr _)
   ·simp only[ww,List.concat_eq_append,gA,aJ,su,dR,b8,bU,gU];refine U (show((-1:Int)+((Ak.length+(0+1):Nat):Int)).toNat=(Ak.map D.str).length by rw[b8];exact Ic) ?_;simp
  ·refine wE.cons (FM.expr (aE.append (a:=a) (l:=ww wP) (d:=.str y) (by kd_p) (by kd_p) (B.ai ..) (Ev hda (by decide)) ?_));refine wE.nil ?_;refine wE.nil ?_;refine vm (hnext (wP++[y]) (by unfold gF;refine U dJ (U Ef ?_);rfl)) fun ck t' ji o' e1 e2 e3 fX e5 m5 ou s4=>?_;subst s4;refine⟨ck,t',ji,_,e1,e2,?_,fX,e5,m5,ou,rfl⟩;refine U B.mq (ZB e3 ?_);simp[ww]
  ·refine wE.cons (FM.ifs (b:=!(ww wP).isEmpty) (az.plain (by kd_p) (di.seq (aK.cell (B.ai ..)) (Ev hda (by decide)))) (fun a_=>?_) fun a_=>wE.nil ?_)
   ·rcases P4 wP with rfl|⟨Ak,z,rfl⟩
    ·injection a_
    refine wE.cons (FM.expr (aE.pop (a:=a) (l:=ww Ak) (d:=.str z) (by kd_p) ?_ ?_ ?_))
    ·rw[B.ai];simp[ww]
    ·simp[ww];simp at hl;exact fS (gZ hl) uZ (by decide)
    refine wE.nil ?_;refine wE.nil ?_;refine wE.nil ?_;refine vm (hnext Ak (by unfold gF;refine U dJ (U Ef ?_);simp)) fun ck t' ji o' e1 e2 e3 fX e5 m5 ou s4=>?_;subst s4;refine⟨ck,t',ji,_,e1,e2,?_,fX,e5,m5,ou,rfl⟩;exact U B.mq (ZB e3 rfl)
   ·refine wE.nil ?_;refine wE.nil ?_;have Bm:wP=[]:=by cases wP with
     |nil=>rfl
     |cons z r=>simp[ww]at a_
    refine vm (hnext wP (by unfold gF;refine U dJ (U Ef (U Bm ?_));rfl)) fun ck t' ji o' e1 e2 e3 fX e5 m5 ou s4=>?_;subst s4;exact⟨ck,t',ji,_,e1,e2,e3,fX,e5,m5,ou,rfl⟩
 ·intro NE I Go;obtain⟨done,ay,wP,o,sN,he,rfl,hl,hb,hd,hg,rfl⟩:=Go;rcases ay with _|⟨y,ay⟩
  rotate_left
  ·injection sN
  have Bm:i9 [] cs=wP:=by refine U hg ?_;rfl
  have gX:(ww wP).length=wP.length:=by simp[ww]
  rw[fQ]at he;subst he;refine wE.nil ?_;refine wE.cons (FM.assign (d:=.val (.ref a)) (by kd_p) (by kd_in) ?_);have ja:aP.length=1:=by decide+kernel
  have hsum:=Ey hb;have vN:(Txt.join aP wP).length≤700000:=by
   unfold Txt.join;rw[zL,ja];exact IX (Ev hl hs.1) hsum
  have hnl:(qN x).length=1+(Txt.join aP wP).length:=by rw[cO,Bm,CT,ja]
  refine wE.cons (FM.assign (d:=.str (qN x)) ?_ (by kd_in) ?_)
  ·refine U cO (U Bm ?_);refine f8.bin (by kd_p) (f8.join (by kd_p) (by kd_p) (aK.cell (B.ai ..)) ?_) (Rs.qw (Mf vN ja));exact U ja (E3 (Ev hl hs.1) hsum)
  refine wE.cons (FM.ret (f8.BE (d:=.str (qN x)) (by kd_p) (di.str (Ev (bT hnl) (Ev (jl vN 1) (by decide)))) (fun J=>rfl) (fun h=>absurd h (by refine U hnl ?_;simp))) ?_);rfl
theorem O_ (t:aT c) (hx:x.length≤1000) (xG:x.length≠0) (h1:(Txt.slice x none (some 1) !=aP)=false) (h2:((Txt.slice x (some 1) (some 2) !=aP)||(Txt.slice x (some 2) (some 3)==aP))=true)
 (hs:(Txt.split (Txt.slice x (some 1) none) aP).length≤300∧∀y∈Txt.split (Txt.slice x (some 1) none) aP,y.length≤1000):cg c (k+3) (.ref 235) [.str x] (.str (qN x)):=
 cg.fn (st:=bF 20) (qual:="normpath") (dV:=.none) (t.fn rfl rfl rfl rfl) (by kd_p)
  (bB (t.glob (by kd_p)) (bB (t.dh (by kd_p) (by kd_p) (by decide)) (bB (t.dh (by kd_p) (by kd_p) (by decide)) (bB (t.glob (by kd_p)) cG)))) rfl (fun J J=>iZ fun J=>rfl) (fun bN=>Y9 (t.at (L:=bN)) hx xG h1 h2 hs)
section
theorem Qv (h:Q (s.heap.get? a) s):wpAny M A (loadIfAlive a) Q E s:=by
 intro Γ p _;unfold loadIfAlive;rw[Sem.wp_loadIfAlive];exact h
structure aX where
 it:Addr
 src:Addr
 j:Nat
 H:Array Value
noncomputable def aX.at (q:aX) (h:Heap):Prop:=h.IsListIter q.it q.src q.j∧h.IsList q.src q.H
noncomputable def aX.up (q:aX):aX:={q with j:=q.j+1}
theorem aX.at.ext {q:aX} {h h':Heap} (x:q.at h) (e:∀b o,b=q.it∨b=q.src→h.get? b=some o→h'.get? b=some o):q.at h':=by
 refine Op x fun abY Vu=>wS Vu fun o' bG r'=>?_;obtain⟨o,xz,r⟩:=abY;exact⟨⟨o,e _ _ (.inl rfl) xz,r⟩,o',e _ _ (.inr rfl) bG,r'⟩
noncomputable abbrev aX.v (q:aX):Value:=.ref q.it
noncomputable def aX.apart (zs:List aX):Prop:=(zs.map (fun x=>x.it)).Nodup∧∀q∈zs,q.src∉zs.map (fun x=>x.it)
theorem aX.apart.tail (h:aX.apart (q::zs)):aX.apart zs:=⟨(dg.mp h.1).2,fun p hp Ch=>h.2 p (.tail _ hp) (.tail _ Ch)⟩
theorem aX.apart.ne (hd:aX.apart (q::zs)):∀p∈zs,p.it≠q.it∧p.src≠q.it:=fun p hp=>by
 refine Op hd fun h1 h2=>?_;rw[aJ,dg]at h1;refine⟨fun e=>h1.1 ?_,fun e=>h2 p (.tail _ hp) ?_⟩
 ·exact ZB e (ao.mpr ⟨p,hp,rfl⟩)
 ·exact U e (.head _)
inductive qg:List aX→List Value→Prop
 |nil:qg [] []
 |cons {q:aX} {zs:List aX} {x:Value} {xs:List Value}:q.H[q.j]?=some x→qg zs xs→qg (q::zs) (x::xs)
section
variable {prog:Program} {w:World} {A:Around} {E:Value→Shared→Prop}
theorem Sy
 (hF:∀(it) (wP) (s) (Q:ForInStep (Option Fin×Array Value)→Shared→Prop),wpAny (model prog w) A (Builtin.SmallTypes.nextOf (.ref it)) (fun x s'=>Q (.yield (none,wP.push x)) s') E s→wpAny (model prog w) A (F (.ref it) (none,wP)) Q E s):
 ∀(zs) (xs) (wP) (s) (Q:Option Fin×Array Value→Shared→Prop),aX.apart zs→qg zs xs→(∀q∈zs,q.at s.heap)→
  (∀h':Heap,(∀q∈zs,q.up.at h')→(∀b o,b∉zs.map (fun x=>x.it)→s.heap.get? b=some o→h'.get? b=some o)→h'.objs.size=s.heap.objs.size→Q (none,wP++xs.toArray) {s with heap:=h'})→
  wpAny (model prog w) A (forIn (zs.map aX.v) ((none:Option Fin),wP) F) Q E s:=by
 intro zs
 induction zs with
 |nil=>
  intro xs wP s Q _ hg _ h;cases hg;refine On ?_;have:=h s.heap (by simp) (fun J J J e=>e) rfl;simpa using this
 |cons q zs ih=>
  intro xs wP s Q hd hg hat h;cases hg with
  | @cons _ _ x xs hx hg=>
  rw[aJ,pH];refine Op (hat q (.head _)) fun h1 h2=>?_;refine u8 (hF _ _ _ _ (AR h1 h2 hx fun h₁ qm av=>?_));have ry:=hd.ne;refine ih xs (wP.push x) {s with heap:=h₁} Q hd.tail hg (fun p hp=>(hat p (.tail _ hp)).ext fun b o hb e=>av.extBut b o (by rcases hb with rfl|rfl;exact(ry p hp).1;exact(ry p hp).2) e) fun h' ha hk hs=>?_;have HR:q.src≠q.it:=fun e=>hd.2 q (.head _) (by refine U e ?_;exact .head _);have e:wP.push x++xs.toArray=wP++(x::xs).toArray:=by simp
  refine U e ?_;refine h h' (fun p hp=>?_) (fun b o hb e=>hk b o (fun hm=>hb (.tail _ hm)) (av.extBut b o (fun q'=>hb (q'▸ .head _)) e)) (hs.trans av.1);rcases aY.mp hp with rfl|hp
  ·refine(show p.up.at h₁ from⟨qm,h2.extBut av.extBut HR⟩).ext fun b o hb e=>hk b o ?_ e;rcases hb with rfl|rfl
   ·exact(dg.mp hd.1).1
   ·exact fun hm=>hd.2 p (.head _) (.tail _ hm)
  ·exact ha p hp
inductive wC:List aX→Prop
 |here {q:aX} {zs:List aX}:q.H[q.j]?=none→wC (q::zs)
 |later {q:aX} {zs:List aX} {x:Value}:q.H[q.j]?=some x→wC zs→wC (q::zs)
theorem acU (hh:A.handled=none)
 (hF:∀(it) (wP) (s) (Q:ForInStep (Option Fin×Array Value)→Shared→Prop),wpAny (model prog w) A (Builtin.SmallTypes.nextOf (.ref it)) (fun x s'=>Q (.yield (none,wP.push x)) s') E s→wpAny (model prog w) A (F (.ref it) (none,wP)) Q E s):
 ∀(zs) (wP) (s) (Q:Option Fin×Array Value→Shared→Prop),aX.apart zs→wC zs→(∀q∈zs,q.at s.heap)→
  (∀h' e,(∀b o,b∉zs.map (fun x=>x.it)→s.heap.get? b=some o→h'.get? b=some o)→(∃o,h'.get? e=some o∧o.cls= .type "StopIteration")→E (.ref e) {s with heap:=h'})→
  wpAny (model prog w) A (forIn (zs.map aX.v) ((none:Option Fin),wP) F) Q E s:=by
 intro zs
 induction zs with
 |nil=>intro wP s Q _ hg;cases hg
 |cons q zs ih=>
  intro wP s Q hd hg hat h;cases hg with
  |here hx=>
   rw[aJ,pH];refine Op (hat q (.head _)) fun h1 h2=>?_;refine u8 (hF _ _ _ _ (KR hh h1 h2 hx fun h₁ e hk he=>?_));exact h h₁ e (fun b o hb e=>hk b o (fun q'=>hb (q'▸ .head _)) e) he
  |later hx hg=>
   rw[aJ,pH];refine Op (hat q (.head _)) fun h1 h2=>?_;refine u8 (hF _ _ _ _ (AR h1 h2 hx fun h₁ qm av=>?_));have ry:=hd.ne;refine ih (wP.push _) {s with heap:=h₁} Q hd.tail hg (fun p hp=>(hat p (.tail _ hp)).ext fun b o hb e=>av.extBut b o (by rcases hb with rfl|rfl;exact(ry p hp).1;exact(ry p hp).2) e) fun h' e hk he=>?_;exact h h' e (fun b o hb e=>hk b o (fun hm=>hb (.tail _ hm)) (av.extBut b o (fun q'=>hb (q'▸ .head _)) e)) he
noncomputable abbrev cS (H:Array Value) (n:Nat):Obj:={cls:=.type "tuple",data:=.seq H n}
theorem VM (done r:List Value) (y x:Value):((done++y::r).toArray).setIfInBounds done.length x=(done++[x]++r).toArray:=by
 simp[List.set_append]
theorem Tz
 (hF:∀(it) (k) (s) (Q:ForInStep (Option Fin×Unit)→Shared→Prop),(∀lU:Value→Shared→Prop,wpAny (model prog w) A (Builtin.SmallTypes.nextOf (.ref it)) (fun x s'=>∃kept n,s'.heap.get? TO=some (cS kept n)∧kept.size≤1000∧∀h' gx,h'.get? TO=some (cS (kept.setIfInBounds k x) gx)→Heap.SameBut TO s'.heap h'→Q (.yield (none,())) {s' with heap:=h'}) lU s)→wpAny (model prog w) A (F (.ref it,k) (none,())) Q E s):
 ∀(zs) (xs) (done) (n) (s) (Q:Option Fin×Unit→Shared→Prop),aX.apart zs→qg zs xs→(∀q∈zs,q.at s.heap)→(∀q∈zs,TO≠q.it∧TO≠q.src)→
  done.length+zs.length≤1000→s.heap.get? TO=some (cS (done++zs.map fun J=>Value.none).toArray n)→
  (∀h' gx,(∀q∈zs,q.up.at h')→(∀b o,b∉zs.map (fun x=>x.it)→b≠TO→s.heap.get? b=some o→h'.get? b=some o)→h'.objs.size=s.heap.objs.size→h'.get? TO=some (cS (done++xs).toArray gx)→Q (none,()) {s with heap:=h'})→
  wpAny (model prog w) A (forIn ((zs.map aX.v).zipIdx done.length) ((none:Option Fin),()) F) Q E s:=by
 intro zs
 induction zs with
 |nil=>
  intro xs done n s Q _ hg _ _ _ hT h;cases hg;exact On (h s.heap n (by simp) (fun J J J J e=>e) rfl (by simpa using hT))
 |cons q zs ih=>
  intro xs done n s Q hd hg hat FS xo hT h;cases hg with
  | @cons _ _ x xs hx hg=>
  rw[aJ,List.zipIdx_cons,pH];refine Op (hat q (.head _)) fun h1 h2=>?_;refine Op (FS q (.head _)) fun t1 fD=>?_;have ry:=hd.ne;refine u8 (hF _ _ _ _ fun lU=>AR h1 h2 hx fun h₁ qm av=>?_);refine r9 _ n (av.extBut TO _ t1 hT) (by simpa using xo) (fun h₂ gx OG Io=>?_);rw[aJ,VM]at OG;have HR:q.src≠q.it:=fun e=>hd.2 q (.head _) (by refine U e ?_;exact .head _);have step:∀b o,b≠q.it→b≠TO→s.heap.get? b=some o→h₂.get? b=some o:=fun b o b1 fj e=>Io.extBut b o fj (av.extBut b o b1 e);have key:=ih xs (done++[x]) gx {s with heap:=h₂} Q hd.tail hg (fun p hp=>(hat p (.tail _ hp)).ext fun b o hb e=>step b o (by rcases hb with rfl|rfl;exact(ry p hp).1;exact(ry p hp).2) (by rcases hb with rfl|rfl;exact(FS p (.tail _ hp)).1.symm;exact(FS p (.tail _ hp)).2.symm) e) (fun p hp=>FS p (.tail _ hp)) (by simp at xo⊢;exact oH ‹_›) OG;rw[dR]at key;refine key fun h' m ha hk hs Fo=>?_;refine h h' m (fun p hp=>?_) (fun b o hb fj e=>hk b o (fun hm=>hb (.tail _ hm)) fj (step b o (fun q'=>hb (q'▸ .head _)) fj e)) (hs.trans (Io.1.trans av.1)) (by simpa using Fo);rcases aY.mp hp with rfl|hp
  ·have ad3:p.up.at h₂:=(show p.up.at h₁ from⟨qm,h2.extBut av.extBut HR⟩).ext fun b o hb e=>Io.extBut b o (by rcases hb with rfl|rfl;exact t1.symm;exact fD.symm) e;refine ad3.ext fun b o hb e=>hk b o ?_ (by rcases hb with rfl|rfl;exact t1.symm;exact fD.symm) e;rcases hb with rfl|rfl
   ·have:=hd.1;rw[aJ,dg]at this;exact this.1
   ·exact fun hm=>hd.2 p (.head _) (.tail _ hm)
  ·exact ha p hp
noncomputable abbrev gQ (f0 f1:Value) (TI TO:Addr):Obj:={cls:=.type "zip",dict:=none,data:=.fields #[f0,f1,.bool false,.ref TI,.ref TO],slots:=#[]}
theorem CJ {β:Type} {l:List Value} {b:β} {F:Value→β→Sem (ForInStep β)}:forIn l.toArray b F=forIn l b F:=by simp
theorem X0 {z TI TO T:Addr} {f1:Value} {zs:List aX} {xs:List Value} {n:Nat} {s:Shared} {Q:Value→Shared→Prop}
 (hz:s.heap.get? z=some (gQ (rawInt T) f1 TI TO)) (i_:s.heap.get? TI=some (cS (zs.map aX.v).toArray n)) (hT:∃o,s.heap.get? T=some o) (a_:zs≠[]) (hd:aX.apart zs) (hg:qg zs xs) (hat:∀q∈zs,q.at s.heap) (jc:∀q∈zs,z≠q.it∧z≠q.src)
 (hf:(f1== .bool true)=true∨(f1== .bool true)=false)
 (qL:∀h' iX,h'.get? z=some (gQ (rawInt T) iX TI TO)→(∀q∈zs,q.up.at h')→(∀b o,b≠z→b∉zs.map (fun x=>x.it)→s.heap.get? b=some o→h'.get? b=some o)→h'.objs.size=s.heap.objs.size→
  Q (.ref h'.objs.size) {s with heap:=h'.push (cS xs.toArray 0)}) (hl:xs.length≤1000):
 wpAny (model prog w) A (Builtin.«zip.__next__» ⟨[.ref z],[]⟩) (fun fin s'=>∃v,fin= .done (.ret v)∧Q v s') E s:=by
 show wpAny _ _ (field (.ref z) 2>>=_) _ _ _;refine u8 (gz hz rfl (x:=.bool false) rfl ?_);show wpAny _ _ (field (.ref z) 3>>=_) _ _ _;refine u8 (gz hz rfl (x:=.ref TI) rfl ?_);refine u8 (nc i_ rfl ?_);dsimp only;refine U (Tk (by cases zs<;>simp_all)) ?_;show wpAny _ _ (Builtin.SmallTypes.ownedTupleIsFree (.ref z)>>=_) _ _ _;have main:∀h₀ iX,h₀.get? z=some (gQ (rawInt T) iX TI TO)→(∀q∈zs,q.at h₀)→(∀b o,b≠z→s.heap.get? b=some o→h₀.get? b=some o)→h₀.objs.size=s.heap.objs.size→∀F (K:Option Fin×Array Value→Sem Fin),(∀(it:Addr) (wP:Array Value) (s:Shared) (Q:ForInStep (Option Fin×Array Value)→Shared→Prop),wpAny (model prog w) A (Builtin.SmallTypes.nextOf (.ref it)) (fun x s'=>Q (.yield (none,wP.push x)) s') E s→wpAny (model prog w) A (F (.ref it) (none,wP)) Q E s)→
  (∀wP:Array Value,K (none,wP)=(newTuple wP.toList>>=fun v=>ret v))→
  wpAny (model prog w) A (forIn (zs.map aX.v).toArray ((none:Option Fin),(#[]:Array Value)) F>>=K) (fun fin s'=>∃v,fin= .done (.ret v)∧Q v s') E {s with heap:=h₀}:=by
  intro h₀ iX Pn E_ HS z8 F K hF g8;refine U CJ ?_;refine u8 (Sy hF zs xs #[] {s with heap:=h₀} _ hd hg E_ fun h' ha hk hs=>?_);rw[g8];refine u8 (vQ ?_ (by simpa [cQ]using(by exact Ev ‹_› (by decide):xs.length≤16777216)));refine On ⟨_,rfl,?_⟩;have:=qL h' iX (hk z _ (fun hm=>by refine wS (ao.mp hm) fun q Ch e=>?_;exact(jc q Ch).1 e.symm) Pn) ha (fun b o b1 fj e=>hk b o fj (HS b o b1 e)) (hs.trans z8);simpa using this
 refine u8 ?_;unfold Builtin.SmallTypes.ownedTupleIsFree;refine u8 (gz hz rfl (x:=rawInt T) rfl ?_);refine aO hT fun kU hT=>?_;show wpAny _ _ (loadIfAlive ((T:Int)).toNat>>=_) _ _ _;refine u8 (Qv ?_);rw[qQ,hT];refine U (Tk (by simp)) ?_;refine u8 (gz hz rfl (x:=f1) rfl ?_);rcases hf with hf|hf
 ·refine U (Tk (by simp[bne,hf])) ?_;refine On ?_;refine U (Tk (by decide)) ?_;refine main s.heap f1 hz hat (fun J J J e=>e) rfl _ _ ?_ (fun J=>rfl)
  ·intro it wP s Q h;refine u8 (bW ?_);show wpAny _ _ (Builtin.SmallTypes.nextOf (.ref it)>>=fun v=>pure (some v)) _ _ _;exact u8 (dQ h (fun x s' hx=>On (On hx)) fun J J e=>e)
 ·refine U (ak (by simp[bne,hf])) ?_;refine u8 (rO hz (by simp) fun h₁ pJ iA=>On ?_);refine U (Tk (by decide)) ?_;refine main h₁ (.bool true) pJ (fun q Ch=>(hat q Ch).ext fun b o hb e=>iA.extBut b o (by rcases hb with rfl|rfl;exact(jc q Ch).1.symm;exact(jc q Ch).2.symm) e) (fun b o b1 e=>iA.extBut b o b1 e) iA.1 _ _ ?_ (fun J=>rfl)
  ·intro it wP s Q h;refine u8 (bW ?_);show wpAny _ _ (Builtin.SmallTypes.nextOf (.ref it)>>=fun v=>pure (some v)) _ _ _;exact u8 (dQ h (fun x s' hx=>On (On hx)) fun J J e=>e)
theorem Wb {z TI TO T:Addr} {f1:Value} {zs:List aX} {n:Nat} {s:Shared} {Q:PySem.Fin→Shared→Prop} (hh:A.handled=none)
 (hz:s.heap.get? z=some (gQ (rawInt T) f1 TI TO)) (i_:s.heap.get? TI=some (cS (zs.map aX.v).toArray n)) (hT:∃o,s.heap.get? T=some o) (a_:zs≠[]) (hd:aX.apart zs) (hg:wC zs) (hat:∀q∈zs,q.at s.heap) (jc:∀q∈zs,z≠q.it∧z≠q.src)
 (hf:(f1== .bool true)=true∨(f1== .bool true)=false)
 (gS:∀h' e,(∀b o,b≠z→b∉zs.map (fun x=>x.it)→s.heap.get? b=some o→h'.get? b=some o)→(∃o,h'.get? e=some o∧o.cls= .type "StopIteration")→E (.ref e) {s with heap:=h'}):
 wpAny (model prog w) A (Builtin.«zip.__next__» ⟨[.ref z],[]⟩) Q E s:=by
 show wpAny _ _ (field (.ref z) 2>>=_) _ _ _;refine u8 (gz hz rfl (x:=.bool false) rfl ?_);show wpAny _ _ (field (.ref z) 3>>=_) _ _ _;refine u8 (gz hz rfl (x:=.ref TI) rfl ?_);refine u8 (nc i_ rfl ?_);dsimp only;refine U (Tk (by cases zs<;>simp_all)) ?_;show wpAny _ _ (Builtin.SmallTypes.ownedTupleIsFree (.ref z)>>=_) _ _ _;have main:∀h₀ iX,h₀.get? z=some (gQ (rawInt T) iX TI TO)→(∀q∈zs,q.at h₀)→(∀b o,b≠z→s.heap.get? b=some o→h₀.get? b=some o)→∀F (K:Option Fin×Array Value→Sem Fin),(∀(it:Addr) (wP:Array Value) (s:Shared) (Q:ForInStep (Option Fin×Array Value)→Shared→Prop),wpAny (model prog w) A (Builtin.SmallTypes.nextOf (.ref it)) (fun x s'=>Q (.yield (none,wP.push x)) s') E s→wpAny (model prog w) A (F (.ref it) (none,wP)) Q E s)→
  wpAny (model prog w) A (forIn (zs.map aX.v).toArray ((none:Option Fin),(#[]:Array Value)) F>>=K) Q E {s with heap:=h₀}:=by
  intro h₀ iX Pn E_ HS F K hF;exact U CJ (u8 (acU hh hF zs #[] {s with heap:=h₀} _ hd hg E_ fun h' e hk he=>gS h' e (fun b o b1 fj x=>hk b o fj (HS b o b1 x)) he))
 refine u8 ?_;unfold Builtin.SmallTypes.ownedTupleIsFree;refine u8 (gz hz rfl (x:=rawInt T) rfl ?_);refine aO hT fun kU hT=>?_;show wpAny _ _ (loadIfAlive ((T:Int)).toNat>>=_) _ _ _;refine u8 (Qv ?_);rw[qQ,hT];refine U (Tk (by simp)) ?_;refine u8 (gz hz rfl (x:=f1) rfl ?_);rcases hf with hf|hf
 ·refine U (Tk (by simp[bne,hf])) ?_;refine On ?_;refine U (Tk (by decide)) ?_;refine main s.heap f1 hz hat (fun J J J e=>e) _ _ ?_;intro it wP s Q h;refine u8 (bW ?_);show wpAny _ _ (Builtin.SmallTypes.nextOf (.ref it)>>=fun v=>pure (some v)) _ _ _;exact u8 (dQ h (fun x s' hx=>On (On hx)) fun J J e=>e)
 ·refine U (ak (by simp[bne,hf])) ?_;refine u8 (rO hz (by simp) fun h₁ pJ iA=>On ?_);refine U (Tk (by decide)) ?_;refine main h₁ (.bool true) pJ (fun q Ch=>(hat q Ch).ext fun b o hb e=>iA.extBut b o (by rcases hb with rfl|rfl;exact(jc q Ch).1.symm;exact(jc q Ch).2.symm) e) (fun b o b1 e=>iA.extBut b o b1 e) _ _ ?_;intro it wP s Q h;refine u8 (bW ?_);show wpAny _ _ (Builtin.SmallTypes.nextOf (.ref it)>>=fun v=>pure (some v)) _ _ _;exact u8 (dQ h (fun x s' hx=>On (On hx)) fun J J e=>e)
theorem aaQ {Q:Value→Shared→Prop}
 (hz:s.heap.get? z=some (gQ .none f1 TI TO)) (i_:s.heap.get? TI=some (cS (zs.map aX.v).toArray n)) (hTO:s.heap.get? TO=some (cS (zs.map fun J=>Value.none).toArray m)) (a_:zs≠[]) (hd:aX.apart zs) (hg:qg zs xs) (hat:∀q∈zs,q.at s.heap)
 (jc:∀q∈zs,z≠q.it∧z≠q.src) (zS:∀q∈zs,TO≠q.it∧TO≠q.src) (tw:z≠TO)
 (qL:∀h' iX,h'.get? z=some (gQ (rawInt s.heap.objs.size) iX TI TO)→(∃m,h'.get? TO=some (cS xs.toArray m))→(∀q∈zs,q.up.at h')→(∀b o,b≠z→b≠TO→b∉zs.map (fun x=>x.it)→s.heap.get? b=some o→h'.get? b=some o)→h'.objs.size=s.heap.objs.size+1→
  h'.get? s.heap.objs.size=some (cS xs.toArray 0)→Q (.ref s.heap.objs.size) {s with heap:=h'}) (hl:xs.length≤1000) (xH:zs.length≤1000):
 wpAny (model prog w) A (Builtin.«zip.__next__» ⟨[.ref z],[]⟩) (fun fin s'=>∃v,fin= .done (.ret v)∧Q v s') E s:=by
 show wpAny _ _ (field (.ref z) 2>>=_) _ _ _;refine u8 (gz hz rfl (x:=.bool false) rfl ?_);show wpAny _ _ (field (.ref z) 3>>=_) _ _ _;refine u8 (gz hz rfl (x:=.ref TI) rfl ?_);refine u8 (nc i_ rfl ?_);dsimp only;refine U (Tk (by cases zs<;>simp_all)) ?_;show wpAny _ _ (Builtin.SmallTypes.ownedTupleIsFree (.ref z)>>=_) _ _ _;refine u8 ?_;unfold Builtin.SmallTypes.ownedTupleIsFree;refine u8 (gz hz rfl (x:=.none) rfl (On ?_));simp only[lH];refine u8 (pD ?_);refine u8 (gz hz rfl (x:=.ref TO) rfl ?_);refine u8 (rO hz (by simp) fun h₁ pJ iA=>?_);replace pJ:h₁.get? z=some (gQ .ellipsis f1 TI TO):=pJ;have afH:∀q∈zs,q.at h₁:=fun q Ch=>(hat q Ch).ext fun b o hb e=>iA.extBut b o (by rcases hb with rfl|rfl;exact(jc q Ch).1.symm;exact(jc q Ch).2.symm) e;refine u8 (Tz (TO:=TO) ?_ zs xs [] m {s with heap:=h₁} _ hd hg afH zS (by simpa using xH) (iA.extBut TO _ tw.symm hTO) fun h₂ m' ha hk hs hT=>?_)
 ·intro it k s Q h;refine u8 (wpAny_onRaise ?_);show wpAny _ _ (Builtin.SmallTypes.nextOf (.ref it)>>=fun v=>pure (some v)) _ _ _;refine u8 (dQ (h _) (fun x s' hx=>On ?_) fun J J e=>e);refine fB hx fun kept gx hk agh Ch=>?_;refine u8 (nc hk rfl ?_);refine u8 (tN hk rfl ?_ (by refine U cQ ?_;exact Ev ‹_› (by decide)) (by show(kept.setIfInBounds _ _).size≤_;refine U Array.size_setIfInBounds (U cQ ?_);exact Ev ‹_› (by decide)));refine u8 (w9 (On ?_));have e:=kD (Obj.mapSeq fun acu=>acu.setIfInBounds k x) hk rfl;exact Ch _ _ (e.trans rfl) (mK ..)
 have Ar:h₂.get? z=some (gQ .ellipsis f1 TI TO):=hk z _ (fun hm=>by refine wS (ao.mp hm) fun q Ch e=>?_;exact(jc q Ch).1 e.symm) tw pJ;have PD:h₂.get? TO=some (cS xs.toArray m'):=by simpa using hT
 dsimp only;refine u8 (nc PD rfl ?_);refine u8 (vQ ?_ (by simpa [cQ]using(by exact Ev ‹_› (by decide):xs.length≤16777216)));have hsz:h₂.objs.size=s.heap.objs.size:=hs.trans iA.1;have Ub:(h₂.push {cls:=.type "tuple",data:=.seq xs.toArray.toList.toArray}).get? z=some (gQ .ellipsis f1 TI TO):=bX _ Ar;show wpAny _ _ (Builtin.SmallTypes.ownedTupleHandOut (.ref z) (.ref h₂.objs.size)>>=_) _ _ _;unfold Builtin.SmallTypes.ownedTupleHandOut;refine u8 (u8 (rO Ub (by simp) fun h₄ Ft EO=>?_));replace Ft:h₄.get? z=some (gQ (rawInt h₂.objs.size) f1 TI TO):=Ft;refine rO Ft (by simp) fun DM R7 HM=>?_;have up:∀b o,b≠z→h₂.get? b=some o→DM.get? b=some o:=fun b o b1 e=>HM.extBut b o b1 (EO.extBut b o b1 (bX _ e));have J0:z<h₂.objs.size:=cE Ar;refine On ⟨_,rfl,?_⟩;show Q (.ref h₂.objs.size) _;refine U hsz ?_;refine qL DM _ (by refine ZB hsz ?_;exact R7) ⟨m',up TO _ tw.symm PD⟩ (fun q Ch=>(ha q Ch).ext fun b o hb e=>up b o (by rcases hb with rfl|rfl;exact(jc q Ch).1.symm;exact(jc q Ch).2.symm) e) (fun b o b1 fj lV e=>up b o b1 (hk b o lV fj (iA.extBut b o b1 e))) ?_ ?_
 ·rw[HM.1,EO.1,eS,hsz]
 ·refine ZB hsz ?_;exact HM.extBut _ _ (g_ J0) (EO.extBut _ _ (g_ J0) (by simpa using dN h₂ (o:={cls:=.type "tuple",data:=.seq xs.toArray.toList.toArray}) rfl))
end
end
inductive kE:List aX→Objs→Prop
 |nil:kE [] []
 |cons {q:aX} {zs:List aX} {o:Obj} {os:Objs}:o.cls= .type "list_iterator"→o.data= .fields #[.ref q.src,.int q.j 0]→kE zs os→kE (q::zs) ((q.it,o)::os)
inductive lX (Z:TW):List aX→List (List D)→Prop
 |nil:lX Z [] []
 |cons {q:aX} {zs:List aX} {ds:List D} {eO:List (List D)}:au Z (q.H.toList.drop q.j) ds→lX Z zs eO→lX Z (q::zs) (ds::eO)
inductive v9:List (List D)→List D→List (List D)→Prop
 |nil:v9 [] [] []
 |cons {h:D} {t:List D} {rs:List (List D)} {hs:List D} {ts:List (List D)}:v9 rs hs ts→v9 ((h::t)::rs) (h::hs) (t::ts)
inductive wX:List (List D)→List D→Prop
 |fin {rs:List (List D)}:[]∈rs→wX rs []
 |row {rs ts:List (List D)} {hs l:List D}:v9 rs hs ts→wX ts l→wX rs (.tup hs::l)
theorem lX.mono (le:fK Z Z') (h:lX Z zs eO):lX Z' zs eO:=
 h.rec (motive:=fun zs eO J=>lX Z' zs eO) .nil fun a J b=>.cons (a.mono le) b
theorem kE.keys {zs:List aX} {os:Objs} (h:kE zs os):os.map Prod.fst=zs.map (fun x=>x.it):=
 h.rec (motive:=fun zs os J=>os.map Prod.fst=zs.map (fun x=>x.it)) rfl fun{q _ _ _} J J J b=>cN (fun x=>q.it::x) b
theorem kE.adb {h:Heap} {zs:List aX} {os:Objs} (bL:kE zs os):fT h os→∀q∈zs,h.IsListIter q.it q.src q.j:=by
 induction bL with
 |nil=>intro _ q Ch;exact(d_ Ch).elim
 |cons h1 h2 r ih=>
  intro st q Ch;refine bC Ch ?_ fun Ch=>?_
  ·exact fW _ (st _ (.head _)) h1 h2
  ·exact ih (fun p hp=>st p (.tail _ hp)) q Ch
theorem kE.fields {zs:List aX} {os:Objs} (bL:kE zs os):∀p∈os,p.2.cls= .type "list_iterator"∧∃H,p.2.data= .fields H:=by
 induction bL with
 |nil=>intro q Ch;exact(d_ Ch).elim
 |cons h1 h2 r ih=>
  intro p hp;refine bC hp ?_ fun hp=>?_
  ·exact⟨h1,_,h2⟩
  ·exact ih p hp
theorem kE.of:∀{zs:List aX},(∀q∈zs,h.IsListIter q.it q.src q.j)→∃os,kE zs os∧fT h os
 |[],_=>⟨[],.nil,fun p hp=>by cases hp⟩
 |q::zs,bL=>by
  refine wS (kE.of (zs:=zs) fun p hp=>bL p (.tail _ hp)) fun os h1 h2=>?_;refine aS (bL q (.head _)) fun o xz hc hd=>?_;refine⟨(q.it,o)::os,.cons hc hd h1,fun p hp=>?_⟩;refine bC hp ?_ fun hp=>?_
  ·exact xz
  ·exact h2 p hp
theorem lX.give {eO:List (List D)} {ts:List (List D)} (bL:lX Z zs eO) (dY:v9 eO hs ts):∃xs,qg zs xs∧au Z xs hs∧lX Z (zs.map aX.up) ts:=by
 induction dY generalizing zs with
 |nil=>rcases bL;exact⟨[],.nil,.nil,.nil⟩
 | @cons d t rs hs ts hr ih=>
  rcases bL with _|⟨h,r⟩
  rename_i q zs;refine aS (ih r) fun xs g t' u=>?_;rcases e:q.H.toList.drop q.j with _|⟨v,r'⟩
  ·rw[e]at h;exact h.x
  ·rw[e]at h;rcases h with _|⟨t1,fD⟩
   refine Op (r8 e) fun g1 g2=>?_;exact fW (v::xs) (.cons g1 g) (.cons t1 t') (.cons (by show au Z (q.H.toList.drop (q.j+1)) _;refine U g2 ?_;exact fD) u)
theorem lX.XY (bL:lX Z zs eO):[]∈eO→wC zs:=by
 induction bL with
 |nil=>intro h;exact(d_ h).elim
 | @cons q zs ds eO h r ih=>
  intro hm;rcases e:q.H.toList.drop q.j with _|⟨v,r'⟩
  ·exact .here (w5 e)
  ·refine Op (r8 e) fun g1 g2=>?_;rw[e]at h;rcases aY.mp hm with e'|hm
   ·rw[←e']at h;cases h
   ·exact .later g1 (ih hm)
inductive q8 (Z:TW) (l:List D) (it:Addr):Objs→Prop
 |mk (TI TO:Addr) (zs:List aX) (eO:List (List D)) (f0 f1:Value) (n m:Nat) (kept:Array Value) (its:Objs):
  kE zs its→Z TI=some (cS (zs.map aX.v).toArray n)→zs≠[]→zs.length≤1000→
  (∀q∈zs,∃n,Z q.src=some {cls:=.type "list",data:=.seq q.H n})→lX Z zs eO→wX eO l→(((it,gQ f0 f1 TI TO)::(TO,cS kept m)::its).map Prod.fst).Nodup→
  ((f0= .none∧kept=(zs.map fun J=>Value.none).toArray∧l≠[])∨∃T o,f0=rawInt (T:Nat)∧Z T=some o)→q8 Z l it ((it,gQ f0 f1 TI TO)::(TO,cS kept m)::its)
theorem Lp (v:Value):(v== .bool true)=true∨(v== .bool true)=false:=by cases(v== .bool true)<;>simp
noncomputable def JX:Expr→Prop
 | .Name _ _=>True
 |_=>False
theorem q8.apart (cH:∀p∈(it,gQ f0 f1 TI TO)::(TO,cS kept m)::its,Z p.1=none) (hz:kE zs its)
 (fO:∀q∈zs,∃n,Z q.src=some {cls:=.type "list",data:=.seq q.H n}) (nd:(((it,gQ f0 f1 TI TO)::(TO,cS kept m)::its).map Prod.fst).Nodup) (sub:Sub Z h) (st:fT h ((it,gQ f0 f1 TI TO)::(TO,cS kept m)::its)):
 aX.apart zs∧(∀q∈zs,q.at h)∧(∀q∈zs,it≠q.it∧it≠q.src)∧(∀q∈zs,TO≠q.it∧TO≠q.src)∧it≠TO:=by
 have hk:=hz.keys;simp only[aJ]at nd;rw[hk]at nd;have hnd:=nd;rw[dg,dg]at hnd;refine b4 hnd fun n1 b6 dP=>?_;have ne:∀q∈zs,∀a,Z a=none→a≠q.src:=fun q Ch a ha e=>by
  refine aO (fO q Ch) fun n e'=>?_;rw[←e,ha]at e';injection e'
 have zn:∀q∈zs,Z q.it=none:=fun q Ch=>by
  have:q.it∈its.map Prod.fst:=by refine U hk ?_;exact ao.mpr ⟨q,Ch,rfl⟩
  refine wS (ao.mp this) fun p hp e=>?_;exact ZB e (cH p (.tail _ (.tail _ hp)))
 refine AA ⟨dP,fun q Ch hm=>?_⟩ (fun q Ch=>?_) (fun q Ch=>⟨fun e=>n1 ?_,ne q Ch _ (cH _ (.head _))⟩) (fun q Ch=>⟨fun e=>b6 ?_,ne q Ch _ (cH _ (.tail _ (.head _)))⟩) (fun e=>n1 ?_)
 ·refine wS (ao.mp hm) fun p hp e=>?_;exact ne q Ch _ (zn p hp) e
 ·refine aO (fO q Ch) fun n e=>?_;exact⟨hz.adb (fun p hp=>st p (.tail _ (.tail _ hp))) q Ch,_,sub.get e,rfl,n,rfl⟩
 ·exact U e (.tail _ (ao.mpr ⟨q,Ch,rfl⟩))
 ·exact U e (ao.mpr ⟨q,Ch,rfl⟩)
 ·exact U e (.head _)
theorem X4 (h:qg zs xs):xs.length=zs.length:=by
 induction h with
 |nil=>rfl
 |cons _ _ ih=>simp[ih]
theorem Li {c:ah} {s:Shared} {Z:TW} {h':Heap} {os:Objs} {T:Addr} {kU:Obj} (sub:Sub Z s.heap) (top:c.H0.StaysIn s.heap) (cH:∀p∈os,Z p.1=none∧c.H0.get? p.1=none) (hT:T=s.heap.objs.size) (hg:h'.get? T=some kU) (hc:kU.cls≠ .type "frame")
 (hk:∀b o,b∉os.map Prod.fst→s.heap.get? b=some o→h'.get? b=some o) (hs:s.heap.objs.size≤h'.objs.size)
 (hf:∀b o,b∈os.map Prod.fst→s.heap.get? b=some o→j0 o→∃o',h'.get? b=some o'∧j0 o'):dG c (os.map Prod.fst) s {s with heap:=h'} Z (Z.put T kU):=by
 have nm:∀b o,Z b=some o∨c.H0.get? b=some o→b∉os.map Prod.fst:=fun b o e hm=>by
  refine wS (ao.mp hm) fun p hp s4=>?_;subst s4;refine Op (cH p hp) fun a b=>?_;rcases e with e|e
  ·rw[a]at e;injection e
  ·rw[b]at e;injection e
 refine⟨⟨hs,fun b o hb e=>⟨o,hk b o hb e,.refl _⟩⟩,fun b o e=>hk b o (nm b o (.inr e)) (top b o e),⟨fun a o e=>?_,fun a o e=>?_⟩,fun a o e=>?_,⟨aH _,hs⟩,fun b o e h=>?_,⟨_,_,rfl⟩⟩
 ·unfold TW.put;by_cases q:a=T
  ·subst q;rw[hT,gC sub (aH _)]at e;injection e
  ·exact U (Tk q) e
 ·unfold TW.put at e;by_cases q:a=T
  ·exact .inr (by refine U q (U hT ?_);exact aH _)
  ·rw[Tk q]at e;exact .inl e
 ·unfold TW.put at e;by_cases q:a=T
  ·subst q;rw[ak rfl]at e;obtain rfl:=bf e;exact⟨hg,hc⟩
  ·rw[Tk q]at e;exact⟨hk a o (nm a o (.inl e)) (sub.get e),(sub a o e).2⟩
 ·by_cases hm:b∈os.map Prod.fst
  ·exact hf b o hm e h
  ·exact⟨o,hk b o hm e,h⟩
theorem S6 (zs:List aX):(zs.map aX.up).map aX.v=zs.map aX.v:=by refine U cJ ?_;rfl
theorem WJ (zs:List aX):(zs.map aX.up).map (fun x=>x.it)=zs.map (fun x=>x.it):=by refine U cJ ?_;rfl
theorem X3:qT c q8 (fun J=>True) JX where
 mono:=fun le ⟨TI,TO,zs,eO,f0,f1,n,m,kept,its,h2,h3,h4,h5,h6,ia,q4,pR,sV⟩=>⟨TI,TO,zs,eO,f0,f1,n,m,kept,its,h2,le _ _ h3,h4,h5,fun q Ch=>aO (h6 q Ch) fun n e=>⟨n,le _ _ e⟩,ia.mono le,q4,pR,sV.imp id fun⟨T,o,a,b⟩=>⟨T,o,a,le _ _ b⟩⟩
 rows:=by
  intro Z l it os Go;obtain⟨TI,TO,zs,eO,f0,f1,n,m,kept,its,h2,h3,h4,h5,h6,ia,q4,pR,sV⟩:=Go;refine⟨pR,fun p hp=>?_⟩;rcases aY.mp hp with rfl|hp
  ·exact⟨by simp,fun x=>by simp⟩
  rcases aY.mp hp with rfl|hp
  ·exact⟨by simp,fun x=>by simp⟩
  ·refine Op (h2.fields p hp) fun a abS=>aO abS fun H b=>?_;exact⟨by refine U a ?_;simp,fun x=>by refine U b ?_;simp⟩
 iter:=by
  intro A s Z it os l Q E st Go q;obtain⟨TI,TO,zs,eO,f0,f1,n,m,kept,its,h2,h3,h4,h5,h6,ia,q4,pR,sV⟩:=Go;have hz:=st _ (.head _);have hT:s.TypeIs (.ref it) "zip" :=⟨_,hz,rfl⟩;refine Jq hT F.slot_zip_iter (l5 F.slot_zip_iter hT F.entry_zip_iter ?_ (F.args_zip_iter_1 _));show wpAny _ _ (ret (.ref it)) _ _ s;exact On ⟨_,rfl,"zip",_,hT,tS.lookup,q⟩
 go:=by
  rintro A s Z it os l v bk Q E oz sub top cH st mO q;cases bk with
  |Name=>exact On (q s os (.id top sub) rfl st mO)
  |_=>exact oz.elim
 next:=by
  intro A V s Z O Y it os d l Q E hh r _ cH st Go q;obtain⟨TI,TO,zs,eO,f0,f1,n,m,kept,its,h2,h3,h4,h5,h6,ia,q4,pR,sV⟩:=Go;refine oX (q8.apart (fun p hp=>(cH p hp).1) h2 h6 pR r.sub st) fun ap hat jc zS tw=>?_;cases q4 with
  | @row rs ts hs l abk XR=>
  refine aS (ia.give abk) fun xs g dj tt=>?_;have hz:=st _ (.head _);have hTO:=st _ (.tail _ (.head _));have hT:s.TypeIs (.ref it) "zip" :=⟨_,hz,rfl⟩;have PE:xs.length≤1000:=by refine U (X4 g) ?_;exact h5
  have hkeys:=h2.keys;have fin:∀(h':Heap) (T T0:Addr) (iX:Value) (Ck:Array Value) (m':Nat),T=s.heap.objs.size→h'.get? T=some (cS xs.toArray 0)→h'.get? it=some (gQ (rawInt T0) iX TI TO)→(T0=T∨∃o,Z T0=some o)→h'.get? TO=some (cS Ck m')→(∀q∈zs,q.up.at h')→(∀b o,b≠it→b≠TO→b∉zs.map (fun x=>x.it)→s.heap.get? b=some o→h'.get? b=some o)→s.heap.objs.size≤h'.objs.size→Q (some (.ref T)) {s with heap:=h'}:=by
   intro h' T T0 iX Ck m' e1 e2 e3 iQ fX e5 m5 ou;obtain⟨its',i1,cM⟩:=kE.of (h:=h') (zs:=zs.map aX.up) fun q Ch=>by
    refine wS (ao.mp Ch) fun p hp s4=>?_;subst s4;exact(e5 p hp).1
   have hk':its'.map Prod.fst=its.map Prod.fst:=by rw[i1.keys,WJ,hkeys]
   have le:fK Z (Z.put T (cS xs.toArray 0)):=fun a o e=>by
    unfold TW.put;by_cases q:a=T
    ·subst q;rw[e1,gC r.sub (aH _)]at e;injection e
    ·exact U (Tk q) e
   refine q (.ref T) {s with heap:=h'} (Z.put T (cS xs.toArray 0)) ((it,gQ (rawInt T0) iX TI TO)::(TO,cS Ck m')::its') (Li r.sub r.top cH e1 e2 (by simp) (fun b o hb e=>?_) ou fun b o hb e hf=>?_) (by simp[hk']) (fun p hp=>?_) ⟨TI,TO,zs.map aX.up,ts,_,iX,n,m',Ck,its',i1,by rw[S6];exact le _ _ h3,by simpa using h4,by simpa using h5,fun q Ch=>?_,tt.mono le,XR,?_,.inr ?_⟩ (.tup (TW.ai ..) (by simpa using dj.mono le))
   ·refine m5 b o (fun q=>hb (q▸ .head _)) (fun q=>hb (q▸ .tail _ (.head _))) (fun hm=>hb ?_) e;refine U aJ (U aJ (U hkeys ?_));exact .tail _ (.tail _ hm)
   ·rw[aJ,aJ]at hb;rcases aY.mp hb with rfl|hb
    ·rw[hz]at e;obtain rfl:=bf e;exact absurd rfl (hf.qX _)
    rcases aY.mp hb with rfl|hb
    ·exact absurd hf.2 (by first|(rw[st _ (.tail _ (.head _))]at e;obtain rfl:=bf e;simp)|simp)
    ·refine wS (ao.mp hb) fun p hp s4=>?_;subst s4;rw[st p (.tail _ (.tail _ hp))]at e;obtain rfl:=bf e;refine Op (h2.fields p hp) fun _ Tg=>aO Tg fun H hd=>?_;exact absurd hd (hf.qX H)
   ·rcases aY.mp hp with rfl|hp
    ·exact e3
    rcases aY.mp hp with rfl|hp
    ·exact fX
    ·exact cM p hp
   ·refine wS (ao.mp Ch) fun p hp s4=>?_;subst s4;refine aO (h6 p hp) fun n e=>?_;exact⟨n,le _ _ e⟩
   ·simp only[aJ,hk']at pR⊢;exact pR
   ·rcases iQ with rfl|⟨o,e⟩
    ·exact pS _ _ rfl (TW.ai ..)
    ·exact pS T0 o rfl (le _ _ e)
  unfold pyNext;rcases sV with⟨rfl,rfl,_⟩|⟨T,kU,rfl,D4⟩
  ·refine u8 (qK (rM (name:=Str.ofString "__next__") hT tS
    (l5 tS hT Ju (aaQ hz (r.sub.get h3) hTO h4 ap g hat jc zS tw (fun h' iX a1 a2 iJ iM tY xN=>On ?_) PE h5) (Ek _))))
   refine aO a2 fun m' a2=>?_;exact fin h' _ _ iX _ m' rfl xN a1 (.inl rfl) a2 iJ iM (by lia)
  ·refine u8 (qK (rM (name:=Str.ofString "__next__") hT tS
    (l5 tS hT Ju (X0 hz (r.sub.get h3) ⟨kU,r.sub.get D4⟩ h4 ap g hat jc (Lp _) (fun h' iX a1 iJ iM tY=>On ?_) PE) (Ek _))))
   have S9:h'.get? TO=some (cS kept m):=iM TO _ tw.symm (fun hm=>by refine wS (ao.mp hm) fun q Ch e=>?_;exact(zS q Ch).1 e.symm) hTO;refine fin (h'.push (cS xs.toArray 0)) h'.objs.size T iX kept m tY (dN _ rfl) (bX _ a1) (.inr ⟨kU,D4⟩) (bX _ S9) (fun q Ch=>(iJ q Ch).ext fun b o J e=>bX _ e) (fun b o b1 fj lV e=>bX _ (iM b o b1 lV e)) ?_;rw[eS];lia
 fin:=by
  intro A V s Z O Y it os Q E hh r _ cH st Go q;obtain⟨TI,TO,zs,eO,f0,f1,n,m,kept,its,h2,h3,h4,h5,h6,ia,q4,pR,sV⟩:=Go;refine oX (q8.apart (fun p hp=>(cH p hp).1) h2 h6 pR r.sub st) fun ap hat jc zS tw=>?_;cases q4 with
  |fin hm=>
  have g:=ia.XY hm;rcases sV with⟨_,_,x⟩|⟨T,kU,rfl,D4⟩
  ·exact absurd rfl x
  have hz:=st _ (.head _);have hTO:=st _ (.tail _ (.head _));have hT:s.TypeIs (.ref it) "zip" :=⟨_,hz,rfl⟩;have hkeys:=h2.keys;refine g9 ?_;unfold pyNext;refine u8 (qK (rM (name:=Str.ofString "__next__") hT tS
   (l5 tS hT Ju (Wb hh hz (r.sub.get h3) ⟨kU,r.sub.get D4⟩ h4 ap g hat jc (Lp _) (fun h' e hk he=>?_)) (Ek _))))
  refine wS he fun o xz hc=>?_;refine u8 (Il (T:="StopIteration") (b:=true) ⟨o,xz,hc⟩ isSubtype_stop ?_);refine On fun u=>?_;have nm:∀b o,Z b=some o∨c.H0.get? b=some o→b≠it∧b∉zs.map (fun x=>x.it):=fun b o e=>by
   have key:∀p∈(it,gQ (rawInt T) f1 TI TO)::(TO,cS kept m)::its,b≠p.1:=fun p hp q=>by
    refine Op (cH p hp) fun x y=>?_;rcases e with e|e
    ·rw[q,x]at e;injection e
    ·rw[q,y]at e;injection e
   refine⟨key _ (.head _),fun hm=>?_⟩;rw[←hkeys]at hm;refine wS (ao.mp hm) fun p hp e'=>?_;exact key p (.tail _ (.tail _ hp)) e'.symm
  refine q _ Z ⟨⟨u.size,fun b o hb e=>⟨o,hk b o (fun q=>hb (q▸ .head _)) (fun hm=>hb ?_) e,.refl _⟩⟩,fun b o e=>hk b o (nm b o (.inr e)).1 (nm b o (.inr e)).2 (r.top b o e),.refl ..,fun b o e=>⟨hk b o (nm b o (.inl e)).1 (nm b o (.inl e)).2 (r.sub.get e),(r.sub b o e).2⟩,u,fun b o e hf=>?_,⟨_,_,rfl⟩⟩
  ·refine U aJ (U aJ (U hkeys ?_));exact .tail _ (.tail _ hm)
  ·by_cases b1:b=it
   ·subst b1;rw[hz]at e;obtain rfl:=bf e;exact absurd rfl (hf.qX _)
   by_cases fj:b∈zs.map (fun x=>x.it)
   ·rw[←hkeys]at fj;refine wS (ao.mp fj) fun p hp s4=>?_;subst s4;rw[st p (.tail _ (.tail _ hp))]at e;obtain rfl:=bf e;refine Op (h2.fields p hp) fun _ TZ=>aO TZ fun H hd=>?_;exact absurd hd (hf.qX H)
   ·exact⟨o,hk b o b1 fj e,hf⟩
theorem Rj:jT c q8 (fun J=>True) JX:=X3.c7
section
section
variable {prog:Program} {w:World} {A:Around} {E:Value→Shared→Prop}
theorem abq {F:Value→Array Value→Sem (ForInStep (Array Value))}
 (hF:∀(l) (wP) (s) (Q:ForInStep (Array Value)→Shared→Prop),wpAny (model prog w) A (pyIter (.ref l)) (fun x s'=>Q (.yield (wP.push x)) s') E s→wpAny (model prog w) A (F (.ref l) wP) Q E s):
 ∀(ls:List (Addr×Array Value)) (wP) (s) (Q:Array Value→Shared→Prop),(∀q∈ls,s.heap.IsList q.1 q.2)→
  (∀(h':Heap) (zs:List aX),zs.map (fun q=>(q.src,q.H))=ls→(∀q∈zs,q.j=0∧s.heap.objs.size≤q.it∧h'.IsListIter q.it q.src q.j)→(zs.map (fun x=>x.it)).Nodup→(∀b o,s.heap.get? b=some o→h'.get? b=some o)→s.heap.objs.size≤h'.objs.size→Q (wP++(zs.map aX.v).toArray) {s with heap:=h'})→
  wpAny (model prog w) A (forIn (ls.map fun q=>Value.ref q.1) wP F) Q E s:=by
 intro ls
 induction ls with
 |nil=>
  intro wP s Q _ h;refine On ?_;simpa using h s.heap [] rfl (by simp) (by simp) (fun J J e=>e) (aH _)
 |cons l ls ih=>
  intro wP s Q hl h;rw[aJ,pH];refine u8 (hF _ _ _ _ (wJ (hl l (.head _)) ?_));refine ih _ {s with heap:=s.heap.push {cls:=.type "list_iterator",data:=.fields #[.ref l.1,.int 0 0]}} Q (fun q Ch=>(hl q (.tail _ Ch)).push _) fun h' zs e1 e2 e3 fX e5=>?_;have hsz:(s.heap.push {cls:=.type "list_iterator",data:=.fields #[.ref l.1,.int 0 0]}).objs.size=s.heap.objs.size+1:=eS ..;have key:=h h' (⟨s.heap.objs.size,l.1,0,l.2⟩::zs) (U aJ (U e1 rfl)) (fun q Ch=>?_) ?_ (fun b o e=>fX b o (bX _ e)) (Ev (Ev (b7 _) (bT (eS ..).symm)) e5)
  ·have e:wP.push (Value.ref s.heap.objs.size)++(zs.map aX.v).toArray=wP++(((⟨s.heap.objs.size,l.1,0,l.2⟩:aX)::zs).map aX.v).toArray:=by simp
   exact U e key
  ·refine bC Ch ?_ fun Ch=>?_
   ·exact⟨rfl,aH _,_,fX _ _ (dN _ rfl),rfl,rfl⟩
   ·refine b4 (e2 q Ch) fun a b d=>?_;have b':(s.heap.push {cls:=.type "list_iterator",data:=.fields #[.ref l.1,.int 0 0]}).objs.size≤q.it:=b;rw[hsz]at b';exact⟨a,gZ b',d⟩
  ·rw[aJ,dg];refine⟨fun hm=>?_,e3⟩;refine wS (ao.mp hm) fun q Ch e=>?_;have b':(s.heap.push {cls:=.type "list_iterator",data:=.fields #[.ref l.1,.int 0 0]}).objs.size≤q.it:=(e2 q Ch).2.1;rw[hsz,e]at b';exact absurd b' (JN _)
theorem YC (ls:List (Addr×Array Value)) (xr:ls.length≤1000):PySem.Meets (Builtin.«zip.__new__» ⟨.type "zip" ::ls.map (fun q=>Value.ref q.1),[]⟩) (fun J R s=>(∀q∈ls,s.heap.IsList q.1 q.2)∧
 ∀(h':Heap) (zs:List aX) (z TI TO:Addr),zs.map (fun q=>(q.src,q.H))=ls→(∀q∈zs,q.j=0∧s.heap.objs.size≤q.it∧h'.IsListIter q.it q.src q.j)→(zs.map (fun x=>x.it)).Nodup→(∀b o,s.heap.get? b=some o→h'.get? b=some o)→s.heap.objs.size≤h'.objs.size→
  h'.get? TI=some (cS (zs.map aX.v).toArray 0)→h'.get? TO=some (cS (zs.map fun J=>Value.none).toArray 0)→h'.get? z=some (gQ .none (.bool false) TI TO)→s.heap.objs.size≤TI→s.heap.objs.size≤TO→s.heap.objs.size≤z→(z::TO::zs.map (fun x=>x.it)).Nodup→z≠TI→TO≠TI→
  R (.ok (.ret (.ref z))) {s with heap:=h'}):=
 .of_wp fun prog w A R s h=>by
  obtain⟨hp,g,d,tk,os⟩:=s;refine Op h fun hl h=>?_;have hsub:=PySem.sub_zip;wp_walk;show wpAny (model prog w) A.in1 (forIn (ls.map fun q=>Value.ref q.1) (#[]:Array Value) fun x its=>(do let v←holding its.toList (pyIter x);pure (ForInStep.yield (its.push v)))) _ _ _;refine abq (fun l wP s Q h=>u8 (bW (dQ h (fun x s' hx=>On hx) fun J J e=>e))) ls #[] _ _ hl fun h₁ zs e1 e2 e3 fX e5=>?_;refine On ?_;have xH:zs.length=ls.length:=by rw[←e1,b8]
  have iW:((#[]:Array Value)++(zs.map aX.v).toArray).toList=zs.map aX.v:=by simp
  refine U iW ?_;have x6:zs.length≤sizeLine:=by refine U xH (U cQ ?_);exact Ev ‹_› (by decide)
  refine u8 (vQ ?_ (by rw[b8];exact x6));refine u8 (vQ ?_ (by rw[b8,b8];exact x6));show wpAny _ _ (newObj (.type "zip") (.fields #[.none,.bool false,.bool false,.ref h₁.objs.size,.ref (h₁.push {cls:=.type "tuple",data:=.seq (zs.map aX.v).toArray}).objs.size])>>=fun v=>ret v) _ _ _;refine u8 (iL ?_ (by size_fits));refine On ⟨_,rfl,?_⟩;have DZ:(h₁.push {cls:=.type "tuple",data:=.seq (zs.map aX.v).toArray}).objs.size=h₁.objs.size+1:=eS ..;have em:List.map (fun x=>Value.none) (zs.map aX.v)=zs.map fun J=>Value.none:=by refine U cJ ?_;rfl
  have hit:∀q∈zs,q.it<h₁.objs.size:=fun q Ch=>by refine wS ((e2 q Ch).2.2) fun J e J=>?_;exact cE e
  have rW:((h₁.push {cls:=.type "tuple",data:=.seq (zs.map aX.v).toArray}).push {cls:=.type "tuple",data:=.seq (List.map (fun x=>Value.none) (zs.map aX.v)).toArray}).objs.size=h₁.objs.size+2:=by rw[eS,DZ]
  have nd:(((h₁.push {cls:=.type "tuple",data:=.seq (zs.map aX.v).toArray}).push {cls:=.type "tuple",data:=.seq (List.map (fun x=>Value.none) (zs.map aX.v)).toArray}).objs.size::(h₁.push {cls:=.type "tuple",data:=.seq (zs.map aX.v).toArray}).objs.size::zs.map (fun x=>x.it)).Nodup:=by
   rw[DZ,rW,dg,dg];refine⟨fun hm=>?_,fun hm=>?_,e3⟩
   ·rcases aY.mp hm with e|hm
    ·lia
    ·refine wS (ao.mp hm) fun q Ch e=>?_;have:=hit q Ch;rw[e]at this;exact absurd this (eB.mpr (bV _ 2))
   ·refine wS (ao.mp hm) fun q Ch e=>?_;have:=hit q Ch;rw[e]at this;exact absurd this (eB.mpr (bV _ 1))
  refine h _ zs _ h₁.objs.size (h₁.push {cls:=.type "tuple",data:=.seq (zs.map aX.v).toArray}).objs.size e1 (fun q Ch=>?_) e3 (fun b o e=>bX _ (bX _ (bX _ (fX b o e)))) ?_ (bX _ (bX _ (dN _ rfl))) ?_ (dN _ rfl) e5 ?_ ?_ nd ?_ ?_
  ·refine b4 (e2 q Ch) fun a b Wo=>wS Wo fun o xz r=>?_;exact⟨a,b,o,bX _ (bX _ (bX _ xz)),r⟩
  ·rw[eS];exact Ev e5 (Ev (bV _ 2) (Ev (bT rW.symm) (b7 _)))
  ·exact bX _ ((dN _ rfl).trans (U em rfl))
  ·exact U DZ (Ev e5 (b7 _))
  ·exact U rW (Ev e5 (bV _ 2))
  ·exact U rW (g_ (PW (by decide)))
  ·exact U DZ (g_ (jy _))
end
theorem aaF {α:Type} {l:List α} (h:l.length=2):∃a b,l=[a,b]:=by
 rcases l with _|⟨a,_|⟨b,_|⟨d,l⟩⟩⟩<;>simp_all
theorem aa1 {α:Type} {l:List α} (h:l.length=3):∃a b d,l=[a,b,d]:=by
 rcases l with _|⟨a,_|⟨b,_|⟨d,_|⟨e,l⟩⟩⟩⟩<;>simp_all
theorem Vp (a b c):checkTypeCall "zip" ⟨[a,b,c],[]⟩=pure ():=by kernel_rfl
theorem abP (a b c):checkBuiltinCall "zip.__new__" ⟨[.type "zip",a,b,c],[]⟩=pure ():=by kernel_rfl
theorem Z5 (a b c d):argsOk "object.__init__" ⟨[a,b,c,d],[]⟩:=by
 delta argsOk;rw[signature?_of (id:="object.__init__") (n:=['_','_','t','i','n','i','_','_']) (o:=['t','c','e','j','b','o']) (by kernel_rfl) PySem.F.owner_object];kernel_rfl
theorem QG:∀{H:List Value} {eO:List (List D)},au Z H (eO.map .list)→∃ls:List (Addr×Array Value),H=ls.map (fun q=>Value.ref q.1)∧(∀q∈ls,∃n,Z q.1=some {cls:=.type "list",data:=.seq q.2 n})∧
 ∀zs:List aX,zs.map (fun q=>(q.src,q.H))=ls→(∀q∈zs,q.j=0)→lX Z zs eO
 |[],[],_=>⟨[],rfl,by simp,fun zs h J=>by induction zs with|nil=>exact .nil|cons=>cases h⟩
 |[],_::_,h=>by cases h
 |_::_,[],h=>by cases h
 |v::H,ds::eO,.cons h r=>by
  refine aS (QG r) fun ls s4 h1 h2=>?_;subst s4;refine h.l fun{a xs n} hz FS=>?_;refine fW ((a,xs)::ls) rfl (fun q Ch=>?_) (fun zs e eX=>?_)
  ·refine bC Ch ?_ fun Ch=>?_
   ·exact⟨n,hz⟩
   ·exact h1 q Ch
  ·induction zs with
   |nil=>injection e
   |cons z zs=>
    rw[aJ]at e;injection e with e1 e2;injection e1 with e3 fX;refine .cons ?_ (h2 zs e2 fun q Ch=>eX q (.tail _ Ch));refine U (eX z (.head _)) (U fX (U zw ?_));exact FS
section
variable {c:ah} {k:Nat} {O:XV} {Y:B}
theorem Step.keep (top:c.H0.StaysIn s.heap) (sub:Sub Z s.heap) (hk:∀b o,s.heap.get? b=some o→h'.get? b=some o) (hs:s.heap.objs.size≤h'.objs.size) (FS:s.toks≤t):Step c s Z {s with heap:=h',toks:=t} Z:=
 ⟨⟨hs,fun b o e=>⟨o,hk b o e,.refl _⟩⟩,fun b o e=>hk b o (top b o e),.refl ..,fun b o e=>⟨hk b o (sub.get e),(sub b o e).2⟩,FS,⟨_,_,rfl⟩⟩
theorem Ei (hs:aK c O Y d l) (hb:l.length≤1000000) (r:bz c Z s.heap V O Y) (s5:Tells Z v d) {Q:List Value→Shared→Prop} {E:Value→Shared→Prop}
 (q:∀H s',Step c s Z s' Z→au Z H l→Q H s'):PySem.W.StarOf c.M A E v Q s:=by
 refine dS (hs _ V Z v r s5) fun a H n s4 hg FS=>?_;subst s4;have Fo:s.TypeIs (.ref a) "list" :=⟨_,hg,rfl⟩;have hsz:H.size≤sizeLine:=by refine ZB gB (U FS.length (U cQ ?_));exact Ev ‹_› (by decide)
 have z:wpAny c.M A (collect (.ref a)) Q E s:=g9 (wpAny_collect_seq a (.inl rfl) hg rfl rfl (fun h' hk u=>q _ _ (Step.keep (t:=s.toks) r.top r.sub hk u.size (aH _)) FS) hsz);delta PySem.W.StarOf notIterableAtAll;exact u8 (xm Fo PySem.F.slot_list_iter.lookup (On ⟨rfl,z⟩))
theorem TW.uA (h:Z a=none):fK Z (Z.put a o):=fun b o' e=>by
 delta TW.put;by_cases q:b=a
 ·subst q;rw[h]at e;injection e
 ·exact U (Tk q) e
theorem Step.DG (x:Step c s Z s' Z') (M2:s.heap.objs.size≤a) (hz:Z' a=none) (xz:s'.heap.get? a=some o) (hc:o.cls≠ .type "frame"):Step c s Z s' (Z'.put a o):=by
 refine⟨x.grow,x.top,⟨x.ext.1.trans (TW.uA hz),fun b o' e=>?_⟩,fun b o' e=>?_,x.tok,x.rest⟩
 ·unfold TW.put at e;by_cases q:b=a
  ·exact .inr (q▸M2)
  ·rw[Tk q]at e;exact x.ext.2 b o' e
 ·unfold TW.put at e;by_cases q:b=a
  ·subst q;rw[ak rfl]at e;obtain rfl:=bf e;exact⟨xz,hc⟩
  ·rw[Tk q]at e;exact x.sub b o' e
theorem bA.aeW {eO:List (List D)} (hf:f8 c k O Y (.Name "zip" p) (.val (.type "zip"))) (he:f8 c k O Y e (.list (eO.map .list))) (M2:eO.length=2∨eO.length=3) (hr:wX eO l) (hl:l≠[]):
 bA c k O Y (.Call (.Name "zip" p) [.Starred e c6] [] pos) q8 l:=by
 intro A V s Z ok r Q E q;refine rq (hf A V s Z ok r _ _ fun v s₁ aC EQ s5=>?_);refine s5.v ?_;show wpAny c.M A (callWith pos (.type "zip") [] [(true,(do let v←eval e V;standAt pos;pure v))] []) _ E s₁;refine lR (c:=c) (.inl fun a e=>(by injection e)) (PySem.W.ks_lone (he A V s₁ aC (ok.step EQ) (r.step EQ) _ E fun v s₂ bx t₂ s5=>Ei aK.list (by rw[b8];lia) ((r.step EQ).step t₂) s5 fun H aF t₃ aZ=>⟨t₃.top,?_⟩));refine aS (QG aZ) fun ls s4 h1 h2=>?_;subst s4;have n7:ls.length=eO.length:=by have:=aZ.length;simpa using this
 have fin:∀(h':Heap) (zs:List aX) (z TI TO:Addr),zs.map (fun q=>(q.src,q.H))=ls→(∀q∈zs,q.j=0∧aF.heap.objs.size≤q.it∧h'.IsListIter q.it q.src q.j)→(zs.map (fun x=>x.it)).Nodup→(∀b o,aF.heap.get? b=some o→h'.get? b=some o)→aF.heap.objs.size≤h'.objs.size→
  h'.get? TI=some (cS (zs.map aX.v).toArray 0)→h'.get? TO=some (cS (zs.map fun J=>Value.none).toArray 0)→h'.get? z=some (gQ .none (.bool false) TI TO)→aF.heap.objs.size≤TI→aF.heap.objs.size≤TO→aF.heap.objs.size≤z→(z::TO::zs.map (fun x=>x.it)).Nodup→z≠TI→TO≠TI→
  ({aF with heap:=h'}:Shared).TypeIs (.ref z) "zip"∧wpAny c.M A (pyIter (.ref z)) Q E {aF with heap:=h'}:=by
  intro h' zs z TI TO e1 e2 e3 fX e5 m5 ou M8 GA Uu Xn abe adB aae;refine⟨⟨_,M8,rfl⟩,?_⟩;refine wS (kE.of (h:=h') (zs:=zs) fun q Ch=>(e2 q Ch).2.2) fun its i1 cM=>?_;have zn:∀a,aF.heap.objs.size≤a→bx a=none:=fun a ha=>gC t₃.sub ha;have lM:=(EQ.trans t₂).trans t₃;have Dz:Step c s Z {aF with heap:=h'} (bx.put TI (cS (zs.map aX.v).toArray 0)):=(lM.trans (Step.keep (t:=aF.toks) lM.top t₃.sub fX e5 (aH _))).DG (Ev lM.grow.1 GA) (zn _ GA) m5 (by simp);have xH:zs.length=ls.length:=by rw[←e1,b8]
  have le:fK bx (bx.put TI (cS (zs.map aX.v).toArray 0)):=TW.uA (zn _ GA);have hkeys:=i1.keys;have hst:fT h' ((z,gQ .none (.bool false) TI TO)::(TO,cS (zs.map fun J=>Value.none).toArray 0)::its):=fun p hp=>by
   refine bC hp ?_ fun hp=>?_
   ·exact M8
   refine bC hp ?_ fun hp=>?_
   ·exact ou
   ·exact cM p hp
  have mO:q8 (bx.put TI (cS (zs.map aX.v).toArray 0)) l z ((z,gQ .none (.bool false) TI TO)::(TO,cS (zs.map fun J=>Value.none).toArray 0)::its):=by
   refine⟨TI,TO,zs,eO,_,_,0,0,_,its,i1,TW.ai ..,?_,by refine U xH (U n7 ?_);lia,fun q Ch=>?_,(h2 zs e1 fun q Ch=>(e2 q Ch).1).mono le,hr,?_,.inl ⟨rfl,rfl,hl⟩⟩
   ·rintro rfl;simp at xH;lia
   ·obtain⟨n,e⟩:=h1 (q.src,q.H) (by refine ZB e1 ?_;exact ao.mpr ⟨q,Ch,rfl⟩);exact⟨n,le _ _ e⟩
   ·refine U aJ (U aJ (U hkeys ?_));exact abe
  refine Rj.iter hst mO (q z _ _ _ Dz hst (fun p hp=>?_) mO);have key:aF.heap.objs.size≤p.1∧p.1≠TI:=by
   refine bC hp ?_ fun hp=>?_
   ·exact⟨Xn,adB⟩
   refine bC hp ?_ fun hp=>?_
   ·exact⟨Uu,aae⟩
   ·have hm:p.1∈zs.map (fun x=>x.it):=by refine ZB hkeys ?_;exact ao.mpr ⟨p,hp,rfl⟩
    refine wS (ao.mp hm) fun q Ch e=>?_;refine⟨e▸(e2 q Ch).2.1,fun x=>?_⟩;refine aS ((e2 q Ch).2.2) fun o xz hc J=>?_;have e':q.it=TI:=e.trans x;rw[e',m5]at xz;obtain rfl:=bf xz;simp at hc
  refine⟨Ev lM.grow.1 key.1,?_⟩;delta TW.put;exact U (Tk key.2) (zn _ key.1)
 have aU:∀q∈ls,aF.heap.IsList q.1 q.2:=fun q Ch=>by
  refine aO (h1 q Ch) fun n e=>?_;exact⟨_,t₃.sub.get e,rfl,n,rfl⟩
 show wpAny c.M A (call (.type "zip") (ls.map fun q=>Value.ref q.1)) _ E aF;have hm:=YC ls (by refine U n7 ?_;lia);rcases M2 with M2|M2
 ·obtain⟨a,b,rfl⟩:∃a b,ls=[a,b]:=aaF (n7.trans M2);exact AM (Q:=fun obj s'=>wpAny c.M A (pyIter obj) Q E s') PySem.F.called_zip (by decide) (PySem.F.typeCall_zip_2 _ _) (PySem.F.newCall_zip_2 _ _) (fun obj=>MB obj _ _) KS hm ⟨aU,fin⟩
 ·obtain⟨a,b,d,rfl⟩:∃a b d,ls=[a,b,d]:=aa1 (n7.trans M2);exact AM (Q:=fun obj s'=>wpAny c.M A (pyIter obj) Q E s') PySem.F.called_zip (by decide) (Vp _ _ _) (abP _ _ _) (fun obj=>Z5 obj _ _ _) KS hm ⟨aU,fin⟩
end
end
noncomputable def oK:List Str→List (List Str)→List (List Str)
 |[],_=>[]
 |x::xs,rest=>if rest.all (fun r=>!r.isEmpty)then(x::rest.map (fun x=>x.headD Str.empty))::oK xs (rest.map List.tail)else []
theorem xD (x xs rest):oK (x::xs) rest=if rest.all (fun r=>!r.isEmpty)then(x::rest.map (fun x=>x.headD Str.empty))::oK xs (rest.map List.tail)else []:=rfl
theorem afO (r):oK [] r=[]:=rfl
noncomputable abbrev Dp (r:List Str):D:=.tup (ww r)
theorem Qt:∀{rest:List (List Str)},rest.all (fun r=>!r.isEmpty)=true→v9 (rest.map ww) (ww (rest.map (fun x=>x.headD Str.empty))) ((rest.map List.tail).map ww)
 |[],_=>.nil
 |[]::rest,h=>by simp at h
 |(x::xs)::rest,h=>.cons (Qt (rest:=rest) (by simpa using h))
theorem MM:∀(first) (rest:List (List Str)),wX ((first::rest).map ww) ((oK first rest).map Dp)
 |[],rest=>.fin (by simp[ww])
 |x::xs,rest=>by
  rw[xD];split
  ·rename_i h;exact .row (hs:=ww (x::rest.map (fun x=>x.headD Str.empty))) (ts:=(xs::rest.map List.tail).map ww) (.cons (Qt h)) (MM xs (rest.map List.tail))
  ·rename_i h;refine .fin ?_;refine wS (List.all_eq_false.mp (by simpa using h:rest.all (fun r=>!r.isEmpty)=false)) fun r hr e=>?_;have:r=[]:=by cases r<;>simp_all
   subst this;exact ao.mpr ⟨[],.tail _ hr,rfl⟩
noncomputable def mJ (r:List Str):Bool:=(r.filter (fun x=>x !=r.headD Str.empty)).isEmpty
noncomputable def q_ (first:List Str) (rest:List (List Str)):List Str:=((oK first rest).takeWhile mJ).map (fun x=>x.headD Str.empty)
noncomputable def Bt (l:List Str):Str:=if(Txt.join aP l).length !=0 then Txt.join aP l else aP
noncomputable def c9 (p:Str):List Str:=Txt.split p aP
noncomputable def ri (p:Str) (ps:List Str):Str:=Bt (q_ (c9 p) (ps.map c9))
theorem OP:∀(first) (rest:List (List Str)),(oK first rest).length≤first.length
 |[],_=>aH _
 |x::xs,rest=>by
  rw[xD];split
  ·refine U bU (U bU ?_);exact gr (OP xs (rest.map List.tail))
  ·exact e_ _
theorem OJ:∀(first) (rest:List (List Str)),∀r∈oK first rest,r≠[]∧r.length=rest.length+1∧r.headD Str.empty∈first
 |[],_,r,h=>by cases h
 |x::xs,rest,r,h=>by
  rw[xD]at h;split at h
  ·refine bC h ?_ fun h=>?_
   ·exact⟨by simp,by simp,by simp⟩
   ·refine b4 (OJ xs (rest.map List.tail) r h) fun a b d=>?_;exact⟨a,by simpa using b,.tail _ d⟩
  ·cases h
theorem FM.mono {c:ah} {k:Nat} {O:XV} {Y:B} {st:Stmt} {Sc H6:fy→Prop} (h:FM c k O Y st H6) (q:∀o,H6 o→Sc o):FM c k O Y st Sc:=fun A V s bs Z ok w Q E e=>h A V s bs Z ok w Q E fun o f s' Z' r cP dz hp=>e o f s' Z' r cP dz (q o hp)
theorem FM.RD (hh:c.hd=false) (c7:jT c J Src oz)
 (hi:bA c k O Y iter J items) (Inv:List D→XV→B→Prop) (B6:XV→B→Prop) (h0:Inv items O Y) (fO:∀l NE I,Inv l NE I→Src I)
 (turn:∀d rest NE I,Inv (d::rest) NE I→bh c NE I bk d fun dF=>wE c k dF I body (EF (Inv rest) (EW B6 Sc)))
 (fin:∀NE I,Inv [] NE I→B6 NE I) (ZD:∀NE I,B6 NE I→Sc (.next NE I))
 (hs:∀V x,foldedSetIterable iter V x=pure x:=by intros;rfl) (uz:oz bk:=by trivial):FM c k O Y (.For bk iter body [] pos) Sc:=
 FM.mono (FM.for (Sc:=EW B6 Sc) hh c7 hi Inv h0 fO turn (fun NE I h=>wE.nil (fin NE I h)) hs uz) fun o h=>by
  induction o with
  |next NE I=>exact ZD NE I h
  |ret=>exact h
  |brk=>exact h.elim
  |cont=>exact h.elim
inductive OZ (p:Str) (ps:List Str) (a:Addr) (aD:List D) (O:XV) (Y:B):Prop
 |mk (rows:List (List Str)) (wP:List Str) (o:Option D):(aD=rows.map Dp)→(Y=B.no.put a (some (.list (ww wP))))→(q_ (c9 p) (ps.map c9)=wP++(rows.takeWhile mJ).map (fun x=>x.headD Str.empty))→((∀r∈rows,r≠[]∧r.length=ps.length+1∧(r.headD Str.empty).length≤1000))→(wP.length+rows.length≤300)→((∀y∈wP,y.length≤1000))→(O=[⟨"paths",.loc,some (.list (ww (p::ps)))⟩,⟨"head",.loc,some (.val (.ref a))⟩,⟨"row",.aL,o⟩,⟨"zip",.bw,some (.val (.type "zip"))⟩])→OZ p ps a aD O Y
theorem Zg (t:aT c) (M2:ps.length=1∨ps.length=2) (hb:∀q∈p::ps,q.length≤1000∧(c9 q).length≤300∧c9 q≠[]∧∀y∈c9 q,y.length≤1000):
 wE c k (vars [("paths",.loc)] [.list (ww (p::ps))] [("head",.loc),("row",.aL)] [("zip",.type "zip")]) B.no (gJ (bF 27)) (pL (.str (ri p ps))):=by
 kst_p
 have hh:=t.hd;have hp0:=hb p (.head _);have o9:ps.length≤2:=M2.elim (fun e=>Ev (bT e) (by decide)) bT;refine wE.cons (FM.iG (aE.newList .nil (by simp) fun a K=>⟨_,by kd_in,?_⟩));have ZF:oK (c9 p) (ps.map c9)≠[]:=by
  rcases e:c9 p with _|⟨x,xs⟩
  ·exact absurd e hp0.2.2.1
  ·rw[xD];rw[ak]
   ·simp
   ·simp only[jQ,ao,Cv,forall_exists_index,and_imp,forall_apply_eq_imp_iff₂,List.isEmpty_eq_false_iff];intro q Ch;exact(hb q (.tail _ Ch)).2.2.1
 refine wE.cons (FM.RD hh Rj (items:=(oK (c9 p) (ps.map c9)).map Dp) (bA.aeW (eO:=((p::ps).map c9).map ww) (by kd_p) ?_ ?_ (MM _ _) (by simpa using ZF)) (OZ p ps a)
  (fun O Y=>∃(wP:List Str) (o:Option D),Y=B.no.put a (some (.list (ww wP)))∧q_ (c9 p) (ps.map c9)=wP∧wP.length≤300∧(∀y∈wP,y.length≤1000)∧
   O=[⟨"paths",.loc,some (.list (ww (p::ps)))⟩,⟨"head",.loc,some (.val (.ref a))⟩,⟨"row",.aL,o⟩,⟨"zip",.bw,some (.val (.type "zip"))⟩])
  ⟨_,[],_,rfl,rfl,rfl,fun r hr=>?_,?_,by simp,rfl⟩ (fun K K K K=>trivial) ?_ ?_ ?_)
 ·have e:((p::ps).filter fun K=>true).map (fun q=>D.list (ww (c9 q)))=(((p::ps).map c9).map ww).map .list:=by refine U (kW.mpr (by simp)) ?_;simp[cJ]
  refine ZB e ?_;exact f8.l_ hh gG (caps:=[]) (gs:=[]) (ts:=[("path",.loc)]) (by intros;rfl) (by kd_p) (by simp) cG (bA.list (l:=ww (p::ps)) (by kd_p)) trivial (dO.one (xs:=p::ps) (P:=fun K=>true) (F:=fun q=>.list (ww (c9 q))) .str (by simp;exact Ev o9 (by decide)) fun q Ch=>by
   kst_p
   exact⟨eK.nil,fun K=>f8.split (by kd_p) (by kd_p) (by kd_p) (Ev (hb q Ch).1 (by decide))⟩)
 ·simp;assumption
 ·refine b4 (OJ _ _ r hr) fun a b d=>?_;exact⟨a,by simpa using b,hp0.2.2.2 _ d⟩
 ·have:=OP (c9 p) (ps.map c9);have:=hp0.2.1;simp;exact Ev ‹_› ‹_›
 ·intro d rest NE I Go;obtain⟨rows,wP,o,hr,rfl,uP,bD,aU,kG,rfl⟩:=Go;rcases rows with _|⟨r,rows⟩
  ·injection hr
  obtain⟨rfl,rfl⟩:=jd hr;refine b4 (bD r (.head _)) fun ZV Sp UB=>?_;have jm:(ww r)[((0:Int)).toNat]?=some (.str (r.headD Str.empty)):=by
   rcases r with _|⟨y,ys⟩
   ·exact absurd rfl ZV
   ·rfl
  have nD:r.length≤3:=Ev (bT Sp) (gr o9);refine bh.name (by kd_in) ?_;refine wE.cons (FM.ifs (b:=!((r.filter (fun x=>x !=r.headD Str.empty)).map D.str).isEmpty) (az.plain (f8.l_ hh vU (caps:=[("row",Dp r)]) (gs:=[]) (ts:=[("step",.loc)]) (out:=(r.filter (fun x=>x !=r.headD Str.empty)).map D.str) (by intros;rfl) (by dsimp only[List.map];decide+kernel) ?_ cG (bA.tup (l:=ww r) (by kd_p)) trivial (dO.one (xs:=r) (F:=.str) .str (by kd_p) fun y No=>by
   kst_p
   exact⟨eK.one (az.cmp (by kd_p) (f8.sub (by kd_p) f8.int (Rs.u6 (by decide) jm (by simp[ww];exact Ev nD (by decide)))) Rs.pU),fun K=>by kd_p⟩)) (di.list (Ev (by rw[b8];exact ir _ _) (by exact Ev ‹_› (by decide):r.length≤1000000)))) (fun cU=>?_) fun cU=>wE.nil ?_)
  ·intro y No;refine bC No ?_ fun No=>?_
   ·exact⟨.aL,.inl rfl,by walk_at "v"⟩
   ·cases No
  ·refine wE.cons (FM.brk ?_);refine yb wP _ rfl ?_ (Ev (bV ..) aU) kG rfl;have:mJ r=false:=by delta mJ;simpa using cU
   refine U uP (U List.takeWhile_cons (U this ?_));simp
  ·have:mJ r=true:=by delta mJ;simpa using cU
   refine wE.cons (FM.expr (aE.append (a:=a) (l:=ww wP) (d:=.str (r.headD Str.empty)) (by kd_p) (f8.sub (by kd_p) f8.int (Rs.u6 (by decide) jm (by simp[ww];exact Ev nD (by decide)))) (B.ai ..) (by simp[ww];exact fS (bV ..) aU (by decide)) ?_));refine wE.nil ?_;refine⟨rows,wP++[r.headD Str.empty],_,rfl,?_,?_,fun r' h=>bD r' (.tail _ h),by simp at aU⊢;exact oH aU,fun y No=>?_,rfl⟩
   ·refine U B.mq ?_;simp[ww]
   ·refine U uP (U List.takeWhile_cons (U this ?_));simp
   ·rcases b5.mp No with No|No
    ·exact kG y No
    ·rcases fq.mp No with rfl;exact UB
 ·intro NE I Go;obtain⟨rows,wP,o,hr,rfl,uP,bD,aU,kG,rfl⟩:=Go;rcases rows with _|⟨r,rows⟩
  ·exact yb wP o rfl (by refine U uP ?_;simp) (by simpa using aU) kG rfl
  ·injection hr
 ·intro NE I Go;obtain⟨wP,o,rfl,uP,aU,kG,rfl⟩:=Go;have ja:aP.length=1:=by decide+kernel
  have hsum:=Ey kG;have vN:(Txt.join aP wP).length≤700000:=by
   delta Txt.join;rw[zL,ja];exact IX aU hsum
  refine wE.cons (FM.ret (d:=.str (ri p ps)) (f8.BE (f8.join (ys:=wP) (by kd_p) (by kd_p) (aK.cell (B.ai ..)) (by refine U ja ?_;exact E3 aU hsum)) (di.str (show(Txt.join aP wP).length≤1000000 from Ev vN (by decide))) (fun h=>?_) (fun h=>?_)) rfl)
  ·delta ri Bt;exact U uP (U (ak h) rfl)
  ·delta ri Bt;refine U uP (U (Tk (by simp[h])) ?_);kd_p
theorem acr (t:aT c) (M2:ps.length=1∨ps.length=2) (hb:∀q∈p::ps,q.length≤1000∧(c9 q).length≤300∧c9 q≠[]∧∀y∈c9 q,y.length≤1000):cg c (k+1) (.ref 271) [.list (ww (p::ps))] (.str (ri p ps)):=
 cg.fn (st:=bF 27) (qual:="_law_shared") (dV:=.none) (t.fn rfl rfl rfl rfl) (by kd_p)
  (bB (t.dh (by kd_p) (by kd_p) (by decide)) cG) rfl (fun K K=>iZ fun K=>rfl) (fun bN=>Zg (t.at (L:=bN)) M2 hb)
section
noncomputable def cI (l:List (Str×D)) (k:Str):Option D:=(l.find? fun bO=>bO.1=k).map Prod.snd
noncomputable def fR (l:List (Str×D)) (k:Str) (d:D):List (Str×D):=if l.any (fun bO=>bO.1=k)then l.map (fun bO=>if bO.1=k then(bO.1,d)else bO)else l++[(k,d)]
noncomputable def gw (l:List (Str×D)) (k:Str):List (Str×D):=l.filter fun bO=>decide (bO.1≠k)
section
variable {c:ah} {k:Nat} {O:XV} {Y:B} {Sc:D→B→Prop}
theorem n9 (x) (t):(PySem.strKind p w).is x (.str x t)=true:=by
 show Value.isStrOf x (.str x t)=true;simp[Value.isStrOf]
theorem Am {α:Type} {f:α→Str} {g:α→Value} {P:List α→List (Str×D)→Prop} (h0:P [] []) (h1:∀p kvs d l,Tells Z (g p) d→kvs.map f=l.map Prod.fst→au Z (kvs.map g) (l.map Prod.snd)→P kvs l→P (p::kvs) ((f p,d)::l)) {kvs:List α}:∀{l:List (Str×D)},kvs.map f=l.map Prod.fst→au Z (kvs.map g) (l.map Prod.snd)→P kvs l:=by
 induction kvs with
 |nil=>
  intro l h _;rcases l with _|⟨q,l⟩
  ·exact h0
  ·injection h
 |cons p kvs ih=>
  intro l h bL;rcases l with _|⟨q,l⟩
  ·injection h
  ·refine Op (jd h) fun e h=>?_;change au Z (g p::kvs.map g) (q.2::l.map Prod.snd)at bL;rcases bL with _|⟨a,b⟩
   have e':q=(f p,q.2):=by exact U e rfl
   exact U e' (h1 p kvs q.2 l a h b (ih h b))
theorem v7 (h:kvs.map Prod.fst=l.map Prod.fst) (bL:au Z (kvs.map Prod.snd) (l.map Prod.snd)) (x):(cI l x=none→valueAt kvs x=none)∧∀d,cI l x=some d→∃v,valueAt kvs x=some v∧Tells Z v d:=by
 refine Am (f:=fun p:Str×Value=>p.1) (g:=Prod.snd) (P:=fun kvs l=>(cI l x=none→valueAt kvs x=none)∧∀d,cI l x=some d→∃v,valueAt kvs x=some v∧Tells Z v d) ?_ ?_ h bL
 ·exact⟨fun J=>rfl,fun d h=>by injection h⟩
 ·intro p kvs d l a _ _ ih;delta cI valueAt at*;by_cases e:p.1=x
  ·simp only[qu,e,decide_true,BP];exact⟨fun h=>(by injection h),fun d h=>by obtain rfl:=bf h;exact⟨_,rfl,a⟩⟩
  ·simp only[qu,e,uL];exact ih
theorem To {kvs:List (Str×Value)} {l:List (Str×D)} (h:kvs.map Prod.fst=l.map Prod.fst) (x):kvs.any (fun bO=>bO.1=x)=l.any (fun bO=>bO.1=x):=by
 have e1:kvs.any (fun bO=>bO.1=x)=(kvs.map Prod.fst).any (fun n=>n=x):=by refine U List.any_map ?_;rfl
 have e2:l.any (fun bO=>bO.1=x)=(l.map Prod.fst).any (fun n=>n=x):=by refine U List.any_map ?_;rfl
 exact U e1 (U e2 (U h rfl))
theorem au.concat (h:au Z H l) (h':Tells Z v d):au Z (H++[v]) (l++[d]):=h.append (.cons h' .nil)
theorem GZ {Z:TW} {kvs:List (Str×Value)} {l:List (Str×D)} (h:kvs.map Prod.fst=l.map Prod.fst) (t:au Z (kvs.map Prod.snd) (l.map Prod.snd)) {x:Str} {v:Value} {d:D} (s5:Tells Z v d):(stored kvs x v).map Prod.fst=(fR l x d).map Prod.fst∧au Z ((stored kvs x v).map Prod.snd) ((fR l x d).map Prod.snd):=by
 delta stored fR;refine U (To h x) ?_;rcases l.any (fun bO=>bO.1=x)with _|_
 ·simp only[j7,jE,gA,aJ,su,h];exact⟨trivial,t.concat s5⟩
 ·simp only[lH];refine Am (f:=fun p:Str×Value=>p.1) (g:=Prod.snd) (P:=fun(kvs:List (Str×Value)) (l:List (Str×D))=>(kvs.map fun bO=>if bO.1=x then(bO.1,v)else bO).map Prod.fst=(l.map fun bO=>if bO.1=x then(bO.1,d)else bO).map Prod.fst∧au Z ((kvs.map fun bO=>if bO.1=x then(bO.1,v)else bO).map Prod.snd) ((l.map fun bO=>if bO.1=x then(bO.1,d)else bO).map Prod.snd)) ?_ ?_ h t
  ·exact⟨rfl,.nil⟩
  ·intro p kvs ck l a _ _ ih;simp only[aJ];by_cases q:p.1=x
   ·simp only[q,lH];exact⟨by exact U ih.1 rfl,.cons s5 ih.2⟩
   ·simp only[q,jE];exact⟨by exact U ih.1 rfl,.cons a ih.2⟩
theorem Pq (h:kvs.map Prod.fst=l.map Prod.fst) (bL:au Z (kvs.map Prod.snd) (l.map Prod.snd)) (x):(without kvs x).map Prod.fst=(gw l x).map Prod.fst∧au Z ((without kvs x).map Prod.snd) ((gw l x).map Prod.snd):=by
 refine Am (f:=fun p:Str×Value=>p.1) (g:=Prod.snd) (P:=fun kvs l=>(without kvs x).map Prod.fst=(gw l x).map Prod.fst∧au Z ((without kvs x).map Prod.snd) ((gw l x).map Prod.snd)) ?_ ?_ h bL
 ·exact⟨rfl,.nil⟩
 ·intro p kvs d l a _ _ ih;delta without gw at*;by_cases e:p.1=x
  ·simp only[iV,e,ne_eq,not_true_eq_false,uL,j7,jE];exact ih
  ·simp only[iV,e,ne_eq,not_false_eq_true,decide_true,lH,aJ,ih.1];exact⟨trivial,.cons a ih.2⟩
theorem rV (r:bz c Z h V O Y) (ha:Y a=some (.dict l)):(a==sysModules)=false∧∃kvs,h.DictOf (strKind c.p c.w) a kvs∧kvs.map Prod.fst=l.map Prod.fst∧au Z (kvs.map Prod.snd) (l.map Prod.snd)∧∃o,h.get? a=some o∧o.cls= .type "dict"∧o.dict=none:=by
 refine b4 (r.cells a _ ha) fun aG J h0=>?_;refine wS aG fun o xz UE=>aS UE fun kvs h1 h2 h3=>?_;have IB:=h1;refine eG IB fun es ep hx J=>?_;refine⟨HA.mpr fun e=>r.glob.2.2.1 (e▸h0),kvs,zo.mpr ⟨o,xz,h1⟩,h2,h3,o,xz,hx.1,hx.2.1⟩
theorem AD (r:bz c Z s.heap V O Y) (ha:Y a=some (.dict l)) (hd:h'.DictOf (strKind c.p c.w) a kvs) (h1:kvs.map Prod.fst=l'.map Prod.fst) (h2:au Z (kvs.map Prod.snd) (l'.map Prod.snd)) (av:Heap.SameBut a s.heap h') (FS:s.toks≤t):
 aN c Y s Z (Y.put a (some (.dict l'))) {s with heap:=h',toks:=t} Z:=by
 refine wS (zo.mp hd) fun o xz hk=>?_;have hk':=hk;refine fB hk' fun es ep J E6 J=>?_;exact aN.put r.cells r.top r.sub (by refine U ha ?_;simp) av xz (fun H=>by refine U E6 ?_;simp) ⟨kvs,hk,h1,h2⟩ FS
theorem yp {Z:TW} {kvs:List (Str×Value)} {l:List (Str×D)} (h:kvs.map Prod.fst=l.map Prod.fst):kvs.length=l.length:=by
 have:=cN List.length h;simpa using this
theorem Rs.tB (ha:Y a=some (.dict l)) (hx:cI l x=some d)
 (hsub:∀o j,subscripted bS false o j=operate [o,j] (getItem o j):=by intros;rfl):Rs c k O Y (subscriptTail v bS) (.val (.ref a)) (.str x) d:=by
 intro A V s Z bg bK ok r h₁ h₂ Q E g;refine h₁.v ?_;refine h₂.s fun J=>?_;refine Op (rV r ha) fun _ Ve=>d9 Ve fun kvs hd e1 e2 ab0=>aS ab0 fun o xz hc _=>?_;refine wS ((v7 e1 e2 x).2 d hx) fun y No ty=>?_;exact r7 (T:="dict") ⟨o,xz,hc⟩ slot_dict_getitem.lookup (wpAny_getItem_of (knd:=PySem.strKind c.p c.w) (k:=x) (n9 ..) hd.mapOf No (gV g r.top r.sub ty (b7 _))) (hsub _ _)
theorem Rs.inDict (ha:Y a=some (.dict l)):Rs c k O Y (compareOp .In) (.str x) (.val (.ref a)) (.val (.bool (cI l x).isSome)):=by
 intro A V s Z bg bK ok r h₁ h₂ Q E g;refine h₁.s fun J=>?_;refine h₂.v ?_;refine Op (rV r ha) fun hs Yo=>d9 Yo fun kvs hd e1 e2 _=>?_;have s5:(valueAt kvs x).isSome=(cI l x).isSome:=by
  refine Op (v7 e1 e2 x) fun h1 h2=>?_
  induction q:cI l x with
  |none=>refine U (h1 q) ?_;rfl
  |some d=>refine wS (h2 d q) fun v s5 J=>?_;refine U s5 ?_;rfl
 refine wpAny_in_of (knd:=PySem.strKind c.p c.w) (k:=x) (n9 ..) hs hd.mapOf ?_;exact U s5 (gV g r.top r.sub (.val _) (b7 _))
theorem FM.zm (he:aE c k O Y e fun d I=>f8 c k O I o (.val (.ref a))∧f8 c k O I i (.str x)∧∃l,I a=some (.dict l)∧l.length≤1000000∧aV (.next O (I.put a (some (.dict (fR l x d))))))
 (hs:∀{V},swapsWith e (some (.Subscript o i p)) pos.line V=pure false:=by intros;rfl):FM c k O Y (.Assign [.Subscript o i p] e pos) aV:=by
 intro A V s bs Z ok w Q E q;refine wpAny_Assign_Subscript (he A V s Z ok w.rd _ E fun d I v s₁ aC aq s5 Ti=>b4 Ti fun xz hi aeR=>aS aeR fun l ha hz zg=>?_) hs;have w₁:=w.after aq;have jk:=ok.after aq;refine xz A V s₁ aC jk w₁.rd _ E fun Cb s₂ bx t₂ qU=>hi A V s₂ bx (jk.step t₂) (w₁.rd.step t₂) _ E fun G8 aF er t₃ uM=>?_;refine qU.v ?_;refine uM.s fun J=>?_;have w₃:=(w₁.step t₂).step t₃;refine Op (rV w₃.rd ha) fun _ acI=>d9 acI fun kvs hd e1 e2 _=>?_;refine wpAny_setItem_pairs (knd:=PySem.strKind c.p c.w) (k:=x) (n9 ..) hd (fun h' hd' av=>?_) (by refine U (yp (Z:=er) e1) (U cQ ?_);exact Ev ‹_› (by decide));refine Op (GZ e1 e2 (x:=x) ((s5.mono t₂.le).mono t₃.le)) fun i1 cM=>?_;have wM:=AD (t:=aF.toks+1) w₃.rd ha hd' i1 cM av (b7 _);exact q (.next O _) .next _ _ (((aq.run.trans (t₂.run I)).trans (t₃.run I)).trans wM.run) (w₃.after wM) .next zg
theorem kc.dict (ha:Y a=some (.dict l)):kc c O Y (.val (.ref a)) "dict" :=fun s V Z v r t=>by
 refine t.v ?_;refine Op (rV r ha) fun _ Sm=>d9 Sm fun _ _ _ _ Xj=>aS Xj fun o xz hc hd=>?_;exact⟨⟨o,xz,hc⟩,fun b e=>by cases e;exact⟨o,xz,hd⟩⟩
theorem c_.PY (ha:Y a=some (.dict l)) (hx:cI l x=some d) (hz:l.length≤1000000) (h:Sc d (Y.put a (some (.dict (gw l x))))):c_ c k O Y (.builtin "dict.pop") [.val (.ref a),.str x] Sc:=by
 intro A V s Z H ok r t Q E q;refine fB (m8 t) fun bg bK s4 h₁ h₂=>?_;subst s4;refine h₁.v ?_;refine h₂.s fun J=>?_;refine Op (rV r ha) fun _ aba=>d9 aba fun kvs hd e1 e2 VF=>aS VF fun o xz hc _=>?_;refine wS ((v7 e1 e2 x).2 d hx) fun y No ty=>?_;refine Op (Pq e1 e2 x) fun i1 cM=>?_;refine AP IP hd.typeIs PySem.F.entry_dict_pop (PySem.F.args_dict_pop_2 _ _) (meets_dict_pop_there (PySem.strKind c.p c.w) a (k:=x) (n9 ..) [] (.inl rfl) rfl) ⟨kvs,y,hd,by refine U (yp (Z:=Z) e1) (U cQ ?_);exact Ev ‹_› (by decide),No,fun h' hd' av=>?_⟩;exact q _ _ _ _ Z (AD (t:=s.toks+1) r ha hd' i1 cM av (b7 _)) ty h
theorem bZ.cI (ha:Y a=some (.dict l)):bZ c k O Y (.builtin "dict.get") [.val (.ref a),.str x] ((cI l x).getD (.val .none)):=by
 intro A V s Z H ok r t Q E g;refine fB (m8 t) fun bg bK s4 h₁ h₂=>?_;subst s4;refine h₁.v ?_;refine h₂.s fun J=>?_;refine Op (rV r ha) fun hs abN=>d9 abN fun kvs hd e1 e2 adm=>aS adm fun o xz hc _=>?_;refine AP MD hd.typeIs PySem.F.entry_dict_get (PySem.F.args_dict_get_2 _ _) (meets_dict_get (PySem.strKind c.p c.w) a (k:=x) (n9 ..) hs) ⟨_,hd.mapOf,gV g r.top r.sub ?_ (b7 _)⟩;refine Op (v7 e1 e2 x) fun h1 h2=>?_
 induction Ch:Internal.cI l x with
 |none=>refine U (h1 Ch) ?_;exact .val _
 |some d=>refine wS (h2 d Ch) fun v s5 tv=>?_;refine U s5 ?_;exact tv
theorem FM.del (xz:f8 c k O Y o (.val (.ref a))) (hi:aE c k O Y i fun d I=>d= .str x∧∃l,I a=some (.dict l)∧(Internal.cI l x).isSome=true∧l.length≤1000000∧aV (.next O (I.put a (some (.dict (gw l x)))))):FM c k O Y (.Delete [.Subscript o i p] pos) aV:=by
 intro A V s bs Z ok w Q E q;refine wpAny_Delete (wpAny_deleteEach_cons (wpAny_delete_Subscript ?_));refine xz A V s Z ok w.rd _ E fun Cb s₁ aC EQ qU=>?_;refine qU.v ?_;have w₁:=w.step EQ;refine hi A V s₁ aC (ok.step EQ) w₁.rd _ E fun d I G8 s₂ bx aq uM aeo=>Op aeo fun e abn=>d9 abn fun l ha hx hz zg=>?_;subst e;refine uM.s fun J=>?_;have w₂:=w₁.after aq;refine Op (rV w₂.rd ha) fun _ UJ=>d9 UJ fun kvs hd e1 e2 _=>?_;refine Op (Pq e1 e2 x) fun i1 cM=>?_;have ic:(valueAt kvs x).isSome=true:=by
  refine Op (v7 e1 e2 x) fun _ h2=>?_;refine aO (xe.mp hx) fun d hd'=>?_;refine wS (h2 d hd') fun v s5 J=>?_;refine U s5 ?_;rfl
 delta delItem
 try with_reducible refine bW ?_
 refine u8 (wpAny_sequenceKey hd.typeIs (by decide) ?_);refine u8 (rM (name:=Str.ofString "__delitem__") hd.typeIs KW
  (AP KW hd.typeIs PySem.F.entry_dict_delitem (PySem.F.args_dict_delitem_2 _ _) (meets_dict_delitem_pairs (PySem.strKind c.p c.w) a (k:=x) (n9 ..)) ⟨kvs,hd,by refine U (yp (Z:=Z) e1) (U cQ ?_);exact Ev ‹_› (by decide),ic,fun h' hd' av=>?_⟩))
 have An:=AD (t:=s₂.toks+1) w₂.rd ha hd' i1 cM av (b7 _);exact On (wpAny_deleteEach_nil (q (.next O _) .next _ _ (((EQ.run Y).trans aq.run).trans An.run) (w₂.after An) .next zg))
theorem G9 (r:bz c Z h V O Y) (ha:Y a=some (.set l)):∃n,n≤l.length∧h.SetOf (PySem.strKind c.p c.w) a (fun x=>decide (x∈l)) n∧∃o,h.get? a=some o∧o.cls= .type "set"∧o.dict=none:=by
 refine b4 (r.cells a _ ha) fun aG J h0=>?_;refine wS aG fun o xz U9=>N_ U9 fun es ep oZ hx hd he hm hb hf M2=>?_;exact⟨es.size,M2,⟨o,es,ep,oZ,xz,hx,hd,he,hm,hb,hf,rfl⟩,o,xz,hx.1,hx.2.1⟩
theorem kc.set (ha:Y a=some (.set l)):kc c O Y (.val (.ref a)) "set" :=fun s V Z v r t=>by
 refine t.v ?_;refine aS (G9 r ha) fun _ _ _ aa6=>aS aa6 fun o xz hc hd=>?_;exact⟨⟨o,xz,hc⟩,fun b e=>by cases e;exact⟨o,xz,hd⟩⟩
theorem Rs.inSet (ha:Y a=some (.set l)):Rs c k O Y (compareOp .In) (.str x) (.val (.ref a)) (.val (.bool (decide (x∈l)))):=by
 intro A V s Z bg bK ok r h₁ h₂ Q E g;refine h₁.s fun J=>?_;refine h₂.v ?_;refine aS (G9 r ha) fun n J hS J=>?_;exact wpAny_inSet_of (knd:=PySem.strKind c.p c.w) (k:=x) (n9 ..) rfl hS (gV g r.top r.sub (.val _) (b7 _))
theorem c_.adO (ha:Y a=some (.set l)) (hz:l.length≤1000) (h:Sc (.val .none) (Y.put a (some (.set (l++[x]))))):c_ c k O Y (.builtin "set.add") [.val (.ref a),.str x] Sc:=by
 intro A V s Z H ok r t Q E q;refine fB (m8 t) fun bg bK s4 h₁ h₂=>?_;subst s4;refine h₁.v ?_;refine h₂.s fun J=>?_;refine aS (G9 r ha) fun n M2 hS J=>?_;refine call_set_add (knd:=PySem.strKind c.p c.w) (k:=x) (n9 ..) rfl hS (by show n+1<4096;exact fU (gr (Ev ‹_› ‹_›)) (by decide)) fun h' av hS'=>?_;refine vm hS' fun o' es ep oZ bG hx hd he hm hb hf hsz=>?_;refine q _ _ _ _ Z (aN.put (t:=s.toks+1) (eu:=.set (l++[x])) r.cells r.top r.sub (by refine U ha ?_;simp) av bG (fun H=>by refine U hd ?_;simp) ⟨es,ep,oZ,hx,hd,he,fun k'=>?_,hb,hf,?_⟩ (b7 _)) (.val _) h
 ·rw[←hm k'];simp only[b5,fq,rQ,oB]
 ·refine U hsz (U dR ?_);refine Ev (m:=n+1) ?_ (gr M2);split
  ·exact b7 _
  ·exact aH _
theorem c_.newSet (h:∀a,Y a=none→Sc (.val (.ref a)) (Y.put a (some (.set [])))):c_ c k O Y (.type "set") [] Sc:=by
 intro A V s Z H ok r t Q E q;refine t.n ?_;refine call_set_0 fun cF=>?_;refine q _ _ _ _ Z (aN.new (t:=s.toks) (cl:=.set []) (o:={cls:=.type "set",dict:=none,data:=.set #[] 0 (.fresh 0 0 cF)}) r.cells r.top r.sub rfl ⟨#[],0,_,⟨rfl,rfl,rfl⟩,rfl,fun J h=>by simp at h,fun k=>by simp,by show 0<4096;decide,by cases cF<;>rfl,aH _⟩ (aH _)) (.val _) (h _ (r.fresh (aH _)))
end
end
section
theorem Wq:Slot "map" "__init__" "object.__init__" :=
 .of (owner:="object") (n:="__init__") (by rw[nR,nW];kernel_rfl) (by decide+kernel) (by decide+kernel) (by decide+kernel)
  (by first|exact .inl (by decide+kernel)|exact .inr (by decide+kernel)) (by rw[lS];kernel_rfl)
theorem L2:Slot "map" "__iter__" "map.__iter__" :=
 .of (owner:="map") (n:="__iter__") (by rw[nR,nW];kernel_rfl) (by decide+kernel) (by decide+kernel) (by decide+kernel)
  (by first|exact .inl (by decide+kernel)|exact .inr (by decide+kernel)) (by rw[lS];kernel_rfl)
theorem yr:Slot "map" "__next__" "map.__next__" :=
 .of (owner:="map") (n:="__next__") (by rw[nR,nW];kernel_rfl) (by decide+kernel) (by decide+kernel) (by decide+kernel)
  (by first|exact .inl (by decide+kernel)|exact .inr (by decide+kernel)) (by rw[lS];kernel_rfl)
theorem NZ:Manifest.owners.lookup (String.ofList ['p','a','m'].reverse)=some Manifest.sig_map:=by kernel_rfl
theorem V0 (a):argsOk "map.__iter__" ⟨[a],[]⟩:=by
 unfold argsOk;rw[signature?_of (id:="map.__iter__") (n:=['_','_','r','e','t','i','_','_']) (o:=['p','a','m']) (by kernel_rfl) NZ];kernel_rfl
theorem Q_ (a):argsOk "map.__next__" ⟨[a],[]⟩:=by
 unfold argsOk;rw[signature?_of (id:="map.__next__") (n:=['_','_','t','x','e','n','_','_']) (o:=['p','a','m']) (by kernel_rfl) NZ];kernel_rfl
theorem Mr:entryFor table "map.__next__" =some Builtin.«map.__next__»:=yt (by kernel_rfl)
theorem aco:entryFor table "map.__new__" =some Builtin.«map.__new__»:=yt (by kernel_rfl)
theorem Za:entryFor table "map.__iter__" =some Builtin.«dict_keyiterator.__iter__»:=
 entryFor_alias (id':="dict_keyiterator.__iter__") (by kernel_rfl) (by first|rfl|decide+kernel|(unfold String.splitOn;simp+decide [String.splitOnAux])) (by decide+kernel) (by kernel_rfl)
theorem MP:mroOf (.type "map")=pure [.type "map",.type "object"]:=by rw[mroOf_type];kernel_rfl
theorem Y5:typeLookup (.type "map") "__new__" =pure (some (.builtin "map.__new__")):=by rw[nR,nW];kernel_rfl
theorem So:TypeCalled "map" "map.__new__" "object.__init__" :=
 ⟨by decide+kernel,by decide+kernel,⟨_,_,MP⟩,madeBy_type MP Y5 (by decide+kernel),by decide+kernel,by rw[lS];kernel_rfl,Wq⟩
theorem acX (a b):checkTypeCall "map" ⟨[a,b],[]⟩=pure ():=by kernel_rfl
theorem Xp (a b):checkBuiltinCall "map.__new__" ⟨[.type "map",a,b],[]⟩=pure ():=by kernel_rfl
theorem ZG:isSubtype (.type "map") (.type "map")=pure true:=by rw[lS];kernel_rfl
theorem aeD:typeLookup (.type "map") "__len__" =pure none:=by rw[nR,nW];kernel_rfl
theorem aeF:typeLookup (.type "map") "__length_hint__" =pure none:=by rw[nR,nW];kernel_rfl
noncomputable abbrev je (TI:Addr) (f:Value):Obj:={cls:=.type "map",dict:=none,data:=.fields #[.ref TI,f],slots:=#[]}
noncomputable abbrev ku (h:Heap) (l:Addr):Heap:=h.push {cls:=.type "list_iterator",data:=.fields #[.ref l,.int 0 0]}
noncomputable abbrev mW (h:Heap) (l:Addr):Heap:=(ku h l).push {cls:=.type "tuple",data:=.seq #[.ref h.objs.size]}
theorem T6 (f) (l) (xs):PySem.Meets (Builtin.«map.__new__» ⟨[.type "map",f,.ref l],[]⟩) (fun J R s=>s.heap.IsList l xs∧
 R (.ok (.ret (.ref (mW s.heap l).objs.size))) {s with heap:=(mW s.heap l).push (je (ku s.heap l).objs.size f)}):=
 .of_wp fun prog w A R s h=>by
  obtain⟨hp,g,d,tk,os⟩:=s;refine Op h fun xr h=>?_;have hsub:=ZG;have y9:Heap.IsList (Shared.heap ⟨hp,g,d,tk,os⟩) l xs:=xr;wp_walk using wJ y9;exact⟨_,rfl,h⟩
section
variable {c:ah} {k:Nat}
theorem Step.Bq (x:Step c s₀ jA s Z) (kC:c.H0.StaysIn s₀.heap) (av:Heap.ExtBut a s.heap h') (hs:s.heap.objs.size≤h'.objs.size) (M2:s₀.heap.objs.size≤a) (hz:Z a=none) (FS:s.toks≤t):Step c s₀ jA {s with heap:=h',toks:=t} Z:=by
 refine fE (x.rest) fun h0 t0 iQ=>?_;refine⟨⟨Ev x.grow.1 hs,fun b o e=>?_⟩,fun b o e=>?_,x.ext,fun b o e=>?_,Ev x.tok FS,⟨h',t,by exact U iQ rfl⟩⟩
 ·refine wS (x.grow.2 b o e) fun o' e' q=>?_;exact⟨o',av b o' (fm (fP (cE e) M2)) e',q⟩
 ·by_cases q:b=a
  ·subst q;rw[mG kC M2]at e;injection e
  ·exact av b o q (x.top b o e)
 ·exact⟨av b o (by rintro rfl;rw[hz]at e;injection e) (x.sub.get e),(x.sub b o e).2⟩
theorem XK (hm:s.heap.get? m=some (je TI f)) (i_:s.heap.get? TI=some (cS #[.ref it] n))
 (hit:s.heap.IsListIter it L i) (aU:s.heap.IsList L H) (hx:H[i]?=some x) (a_:m≠it) (Ji:∀h':Heap,h'.IsListIter it L (i+1)→Heap.SameBut it s.heap h'→wpAny (model prog w) A (call f [x]) Q E {s with heap:=h'}):
 wpAny (model prog w) A (Builtin.«map.__next__» ⟨[.ref m],[]⟩) (fun fin s'=>∃v,fin= .done (.ret v)∧Q v s') E s:=by
 show wpAny _ _ (field (.ref m) 0>>=_) _ _ _;refine u8 (gz hm rfl (x:=.ref TI) rfl ?_);refine u8 (nc i_ rfl ?_);dsimp only;refine U (show(#[Value.ref it]:Array Value)=[Value.ref it].toArray from rfl) (U CJ ?_);simp only[pH,A0];refine u8 (u8 (u8 (bW (AR hit aU hx fun h₁ qm av=>On (On ?_)))));refine u8 (gz (av.extBut m _ a_ hm) rfl (x:=f) rfl ?_);refine u8 (bW (dQ (Ji h₁ qm av) (fun v s' s5=>?_) fun J J e=>e));exact u8 (w9 (On ⟨_,rfl,s5⟩))
theorem acA (hh:A.handled=none) (hm:s.heap.get? m=some (je TI f)) (i_:s.heap.get? TI=some (cS #[.ref it] n))
 (hit:s.heap.IsListIter it L i) (aU:s.heap.IsList L H) (hx:H[i]?=none) (gS:∀h' e,Heap.ExtBut it s.heap h'→(∃o,h'.get? e=some o∧o.cls= .type "StopIteration")→E (.ref e) {s with heap:=h'}):
 wpAny (model prog w) A (Builtin.«map.__next__» ⟨[.ref m],[]⟩) Q E s:=by
 show wpAny _ _ (field (.ref m) 0>>=_) _ _ _;refine u8 (gz hm rfl (x:=.ref TI) rfl ?_);refine u8 (nc i_ rfl ?_);dsimp only;refine U (show(#[Value.ref it]:Array Value)=[Value.ref it].toArray from rfl) (U CJ ?_);simp only[pH,A0];exact u8 (u8 (u8 (bW (KR hh hit aU hx gS))))
theorem ZR (hm:s.heap.get? m=some (je TI f)) (i_:s.heap.get? TI=some (cS #[.ref it] n))
 (hit:s.heap.IsListIter it L i) (aU:s.heap.IsList L H) (hx:H[i]?=some x) (a_:m≠it) (Ji:∀h':Heap,h'.IsListIter it L (i+1)→Heap.SameBut it s.heap h'→∀lU,wpAny (model prog w) A.in1 (call f [x]) (fun v=>Q (some v)) lU {s with heap:=h'}):
 wpAny (model prog w) A (pyNext (.ref m)) Q E s:=by
 have hT:s.TypeIs (.ref m) "map" :=⟨_,hm,rfl⟩;unfold pyNext;exact u8 (qK (rM (name:=Str.ofString "__next__") hT yr
  (l5 yr hT Mr
   (XK hm i_ hit aU hx a_ fun h' a1 a2=>dQ (Ji h' a1 a2 (fun J J=>False)) (fun J J x=>On x) fun J J x=>x.elim) (Q_ _))))
theorem Yr (hh:A.handled=none) (hm:s.heap.get? m=some (je TI f)) (i_:s.heap.get? TI=some (cS #[.ref it] n))
 (hit:s.heap.IsListIter it L i) (aU:s.heap.IsList L H) (hx:H[i]?=none) (qL:∀h':Heap,Heap.ExtBut it s.heap h'→s.heap.objs.size≤h'.objs.size→Q none {s with heap:=h'}):
 wpAny (model prog w) A (pyNext (.ref m)) Q E s:=by
 have hT:s.TypeIs (.ref m) "map" :=⟨_,hm,rfl⟩;refine g9 ?_;unfold pyNext;refine u8 (qK (rM (name:=Str.ofString "__next__") hT yr
  (l5 yr hT Mr (acA hh hm i_ hit aU hx fun h' e hk he=>?_) (Q_ _))))
 refine wS he fun o xz hc=>?_;refine u8 (Il (T:="StopIteration") (b:=true) ⟨o,xz,hc⟩ isSubtype_stop ?_);exact On fun u=>qL _ hk u.size
theorem Ok.in4 (x:Ok c (k+1) A s):Ok c k A.in1.in1.in1.in1 s:=⟨by have:=x.depth;show A.depth+k<900;exact fz ‹_›,by have:=x.units;exact B7 (c:=4) this (by decide),x.frames,x.tok,x.hand⟩
noncomputable abbrev pX (H:Array Value) (n:Nat):Obj:={cls:=.type "list",dict:=none,data:=.seq H n,slots:=#[]}
structure YR (c:ah) (s₀:Shared) (jA:TW) (s:Shared) (Z:TW) (m TI it L S:Addr) (f:Value) (H:Array Value) (i:Nat):Prop where
 st:Step c s₀ jA s Z
 hm:s.heap.get? m=some (je TI f)
 i_:Z TI=some (cS #[.ref it] 0)
 hit:s.heap.IsListIter it L i
 aU:∃n,Z L=some {cls:=.type "list",data:=.seq H n}
 nm:s₀.heap.objs.size≤m∧s₀.heap.objs.size≤it∧s₀.heap.objs.size≤S
 q1:Z m=none∧Z it=none∧Z S=none
 ne:m≠it∧m≠S∧it≠S
theorem FU (x:Step c s Z s' Z') (h:s.heap.get? a=some o) (hz:Z a=none):Z' a=none:=by
 induction q:Z' a with
 |none=>rfl
 |some o'=>
  rcases x.ext.2 a o' q with e|e
  ·rw[hz]at e;injection e
  ·exact absurd (cE h) (eB.mpr e)
theorem EL (x:Step c s Z s' Z') (h:s.heap.get? a=some o) (hc:o.cls≠ .type "frame"):s'.heap.get? a=some o:=by
 refine wS (x.grow.2 a o h) fun o' e q=>?_;rw[q.eq hc]at e;exact e
theorem aem (hh:A.handled=none) (kC:c.H0.StaysIn s₀.heap) (ok:∀s Z,Step c s₀ jA s Z→Ok c k A.in1.in1 s):
 ∀aD done s Z i wP zQ,YR c s₀ jA s Z m TI it L S f H i→au Z (H.toList.drop i) aD→au Z wP.toList done→done.length+aD.length≤1000→(∀d∈aD,cg c k f [d] (F d))→s.heap.get? S=some (pX wP zQ)→
  (∀s' Z' ru nF,Step c s₀ jA s' Z'→s'.heap.get? S=some (pX ru nF)→au Z' ru.toList (done++aD.map F)→Z' S=none→R (.ok (.ret res)) s')→
  codeAny c.M A (.builtin "list.extend.loop" ⟨[.ref S,.ref m,res],[]⟩) R s:=by
 intro aD
 induction aD with
 |nil=>
  intro done s Z i wP zQ M FS hd hl hp hS h;obtain⟨n,aU⟩:=M.aU;have hx:H[i]?=none:=by
   rcases e:H.toList.drop i with _|⟨a,b⟩
   ·exact w5 e
   ·rw[e]at FS;cases FS
  refine mX Ll ?_;refine U (nG DT _) ?_;show wpAny _ A.in1 (pyNext (.ref m)>>=_) _ _ s;refine u8 (Yr hh M.hm (M.st.sub.get M.i_) M.hit ⟨_,M.st.sub.get aU,rfl,n,rfl⟩ hx fun h' hk hs=>?_);refine On (h {s with heap:=h'} Z wP zQ (M.st.Bq (t:=s.toks) kC hk hs M.nm.2.1 M.q1.2.1 (aH _)) (hk S _ M.ne.2.2.symm hS) (by simpa using hd) M.q1.2.2)
 |cons d aD ih=>
  intro done s Z i wP zQ M FS hd hl hp hS h;obtain⟨n,aU⟩:=M.aU;rcases e:H.toList.drop i with _|⟨x,r⟩
  ·rw[e]at FS;cases FS
  rw[e]at FS;obtain⟨hx,g2⟩:=r8 e;cases FS with
  |cons t1 fD=>
  refine mX Ll ?_;refine U (nG DT _) ?_;show wpAny _ A.in1 (pyNext (.ref m)>>=_) _ _ s;refine u8 (ZR M.hm (M.st.sub.get M.i_) M.hit ⟨_,M.st.sub.get aU,rfl,n,rfl⟩ hx M.ne.1 fun h₁ qm av lU=>?_);have ny:Step c s₀ jA {s with heap:=h₁} Z:=M.st.Bq (t:=s.toks) kC av.extBut (bT av.1.symm) M.nm.2.1 M.q1.2.1 (aH _);refine hp d (.head _) A.in1.in1 {s with heap:=h₁} Z [x] (ok _ _ ny) ny.top ny.sub (.cons t1 .nil) _ lU fun v s₂ bx t₂ s5=>?_;have Ai:s₂.heap.get? S=some (pX wP zQ):=EL t₂ (av.extBut S _ M.ne.2.2.symm hS) (by simp);have hm₂:s₂.heap.get? m=some (je TI f):=EL t₂ (av.extBut m _ M.ne.1 M.hm) (by simp);have Sk:s₂.heap.IsListIter it L (i+1):=by
   refine aS qm fun o xz hc hd=>?_;exact fW o (EL t₂ xz (by refine U hc ?_;simp)) hc hd
  have V5:bx it=none:=by refine wS qm fun o xz J=>?_;exact FU t₂ xz M.q1.2.1
  have ZU:bx m=none:=FU t₂ (av.extBut m _ M.ne.1 M.hm) M.q1.1;have NF:bx S=none:=FU t₂ (av.extBut S _ M.ne.2.2.symm hS) M.q1.2.2;have gX:wP.size=done.length:=by exact ZB hd.length (U gB rfl)
  show wpAny _ A.in1 (updateSeq S (fun x=>x.push v)>>=_) _ _ s₂;refine u8 (tN Ai rfl ?_ (by refine U gX (U cQ ?_);simp at hl;exact fS (bV ..) hl (by decide)) (by show(wP.push v).size≤_;rw[Array.size_push,gX,cQ];simp at hl;exact gr (fS (bV ..) hl (by decide))));have Cx:=kD (Obj.mapSeq (fun x=>x.push v)) Ai rfl;have C3:Heap.SameBut S s₂.heap (s₂.heap.update S (Obj.mapSeq (fun x=>x.push v))):=mK ..;have lM:Step c s₀ jA {s₂ with heap:=s₂.heap.update S (Obj.mapSeq (fun x=>x.push v))} bx:=(ny.trans t₂).Bq (t:=s₂.toks) kC C3.extBut (bT C3.1.symm) M.nm.2.2 NF (aH _);refine On ⟨Gl DT _,ih (done++[F d]) _ bx (i+1) (wP.push v) _ ⟨lM,C3.extBut m _ M.ne.2.1 hm₂,t₂.le _ _ M.i_,Sk.extBut C3.extBut M.ne.2.2,⟨n,t₂.le _ _ aU⟩,M.nm,⟨ZU,V5,NF⟩,M.ne⟩ (by refine U g2 ?_;exact fD.mono t₂.le) (by refine U Ia ?_;exact(hd.mono t₂.le).concat s5) (by simp at hl⊢;exact oH ‹_›) (fun ck hd'=>hp ck (.tail _ hd')) Cx fun s' Z' ru nF a1 a2 iJ iM=>h s' Z' ru nF a1 a2 (by simpa using iJ) iM⟩
theorem Xx (hh:A.handled=none) (kC:c.H0.StaysIn s₀.heap) (ok:∀s Z,Step c s₀ jA s Z→Ok c k A.in1.in1 s)
 (st:Step c s₀ jA s Z) (hm:s.heap.get? m=some (je TI f)) (i_:Z TI=some (cS #[.ref it] 0)) (hit:s.heap.IsListIter it L 0) (aU:∃n,Z L=some {cls:=.type "list",data:=.seq H n}) (nm:s₀.heap.objs.size≤m∧s₀.heap.objs.size≤it) (q1:Z m=none∧Z it=none) (ne:m≠it)
 (FS:au Z H.toList ds) (hl:ds.length≤1000) (hp:∀d∈ds,cg c k f [d] (F d)) (h:∀nS s' Z',Step c s₀ jA s' Z'→au Z' nS (ds.map F)→Q nS s'):wpAny c.M A (collect (.ref m)) Q E s:=by
 have HY:=cE hm;have LA:it<s.heap.objs.size:=wS hit fun J e J=>cE e;unfold collect;refine u8 (wpAny_runValue (mX PySem.F.entry_proto_collect ?_));refine U (nG PySem.F.plain_proto_collect _) ?_;show wpAny _ A.in1 (newList []>>=fun l=>again (.builtin "list.__iadd__" ⟨[l,.ref m],[]⟩)) _ _ s;refine u8 (iL ?_);refine On ⟨Gl OY _,mX PySem.F.entry_list_iadd ?_⟩;refine U (nG OY _) ?_;have v5:(s.heap.push {cls:=.type "list",data:=.seq ([]:List Value).toArray}).get? m=some (je TI f):=bX _ hm;have hT:∀h':Heap,h'.get? m=some (je TI f)→({s with heap:=h'}:Shared).TypeIs (.ref m) "map" :=fun h' e=>⟨_,e,rfl⟩;show wpAny _ A.in1 (Builtin.List.listExtendWith (.ref s.heap.objs.size) (.ref m) (.ref s.heap.objs.size)) _ _ _;unfold Builtin.List.listExtendWith;refine u8 (wpAny_typeOf (hT _ v5) ?_);have h1:Builtin.List.listSameRef (.ref s.heap.objs.size) (.ref m)=false:=by simp[Builtin.List.listSameRef,g_ HY]
 have h2:(Value.type "map" ==Value.type "list")=false:=by decide
 have h3:(Value.type "map" ==Value.type "tuple")=false:=by decide
 simp only[h1,h2,h3,tT,j7,jE];refine u8 (Jq (hT _ v5) L2 (l5 L2 (hT _ v5) Za ?_ (V0 _)));show wpAny _ _ (ret (.ref m)) _ _ _;refine On ⟨_,rfl,"map",_,hT _ v5,yr.lookup,?_⟩;refine u8 (bW ?_);unfold Builtin.List.listLengthHint;refine u8 (xm (hT _ v5) aeD ?_);show wpAny _ A.in1 (specialOf (Value.ref m) (Str.ofString "__length_hint__")>>=_) _ _ _;refine u8 (xm (hT _ v5) aeF ?_);refine On ?_;show wpAny _ A.in1 (rule "list.extend.makes-room" >>=fun J=>Builtin.List.listTouch (.ref s.heap.objs.size)>>=fun J=>
  again (.builtin "list.extend.loop" ⟨[.ref s.heap.objs.size,.ref m,.ref s.heap.objs.size],[]⟩)) _ _ _
 refine u8 (pD ?_);have Pg:(s.heap.push {cls:=.type "list",data:=.seq ([]:List Value).toArray}).get? s.heap.objs.size=some {cls:=.type "list",data:=.seq ([]:List Value).toArray}:=dN _ rfl;refine u8 ?_;show wpAny _ A.in1 (updateSeq s.heap.objs.size (fun x=>x.push .none)>>=fun J=>updateSeq s.heap.objs.size (fun x=>x.pop)) _ _ _;refine u8 (tN Pg rfl ?_);have Ai:=kD (Obj.mapSeq (fun x=>x.push Value.none)) Pg rfl;refine tN Ai rfl ?_;have Cx:=kD (Obj.mapSeq (fun x=>x.pop)) Ai rfl;have OW:Z s.heap.objs.size=none:=gC st.sub (aH _);have av:Heap.ExtBut s.heap.objs.size s.heap (((s.heap.push {cls:=.type "list",data:=.seq ([]:List Value).toArray}).update s.heap.objs.size (Obj.mapSeq (fun x=>x.push Value.none))).update s.heap.objs.size (Obj.mapSeq (fun x=>x.pop))):=fun b o hb e=>
  (rP _ _ (bQ hb)).trans ((rP _ _ (bQ hb)).trans (bX _ e))
 have hsz:s.heap.objs.size≤(((s.heap.push {cls:=.type "list",data:=.seq ([]:List Value).toArray}).update s.heap.objs.size (Obj.mapSeq (fun x=>x.push Value.none))).update s.heap.objs.size (Obj.mapSeq (fun x=>x.pop))).objs.size:=fz (cE Cx);have ny:=st.Bq (t:=s.toks) kC av hsz st.grow.1 OW (aH _);refine On ⟨Gl DT _,aem (F:=F) hh kC ok ds [] _ Z 0 #[] _ ⟨ny,av m _ (fm HY) hm,i_,hit.extBut av (fm LA),aU,⟨nm.1,nm.2,st.grow.1⟩,⟨q1.1,q1.2,OW⟩,⟨ne,fm HY,fm LA⟩⟩ (by refine U zw ?_;exact FS) .nil (by simpa using hl) hp Cx fun s' Z' ru nF a1 a2 iJ iM=>?_⟩;show wpAny _ A (load s.heap.objs.size>>=_) _ _ s';refine u8 (kR a2 ?_);exact On (h _ s' Z' a1 (by simpa using iJ))
open PySem.AutoSeq1 (wpAny_loadPart')in
theorem acz (hm:s.heap.get? m=some (je TI f))
 (GN:wpAny (model prog w) A.in1 (collect (.ref m)) (fun H s'=>H.length≤1000∧R (.ok (.ret (.ref s'.heap.objs.size))) {s' with heap:=s'.heap.push {cls:=.type "tuple",data:=.seq H.toArray}}) (fun e s'=>R (.error e) s') s):
 wpAny (model prog w) A.in1 (Builtin.«tuple.__new__» ⟨[.type "tuple",.ref m],[]⟩) (fun fin s'=>match fin with| .done f=>R (.ok f) s'| .again nF=>nF.quiet=true∧codeAny (model prog w) A nF R s') (fun e s'=>R (.error e) s') s:=by
 obtain⟨hp,g,d,tk,os⟩:=s;have hsub:=sub_tuple_self;have xP:=init_tuple_lookup;have ab3:=madeHere_tuple;have FS:Heap.get? (Shared.heap ⟨hp,g,d,tk,os⟩) m=some (je TI f):=hm;have hT:Shared.TypeIs ⟨hp,g,d,tk,os⟩ (.ref m) "map" :=⟨_,hm,rfl⟩;have adh:∀{xj:List Value→Shared→Prop} {lU:Value→Shared→Prop},((∀H s',(H.length≤1000∧R (.ok (.ret (.ref s'.heap.objs.size))) {s' with heap:=s'.heap.push {cls:=.type "tuple",data:=.seq H.toArray}})→xj H s')∧(∀e s',R (.error e) s'→lU e s'))→wpAny (model prog w) A.in1 (collect (.ref m)) xj lU ⟨hp,g,d,tk,os⟩:=fun x=>dQ GN x.1 x.2;wp_walk using fk FS,wpAny_typeOf hT,adh;refine⟨fun H s' s5=>?_,fun e s' he=>he⟩;obtain⟨hl,s5⟩:=s5;show wpAny _ _ (Builtin.Tuple.tupleExact H.toArray>>=fun v=>ret v) _ _ _;unfold Builtin.Tuple.tupleExact;refine u8 (iL ?_ (by show H.toArray.size≤sizeLine;refine U jv (U cQ ?_);exact Ev ‹_› (by decide)));exact On s5
theorem f8.SO (hh:c.hd=false) (FS:f8 c (k+1) O Y (.Name "tuple" p) (.val (.type "tuple"))) (hm:f8 c (k+1) O Y (.Name "map" zk) (.val (.type "map"))) (hf:f8 c (k+1) O Y (.Name n uo) (.val (.ref f))) (he:f8 c (k+1) O Y e (.list ds))
 (hl:ds.length≤1000) (hp:∀d∈ds,cg c k (.ref f) [d] (F d)) (hs:∀V,starEach [e] V=[(false,eval e V)]:=by intro;rfl):f8 c (k+1) O Y (.Call (.Name "tuple" p) [.Call (.Name "map" zk) [.Name n uo,e] [] Fw] [] pos) (.tup (ds.map F)):=by
 intro A V s Z ok r Q E g;have hand:=ok.hand hh;refine rq (FS A V s Z ok r _ _ fun v s₁ aC EQ s5=>?_);refine s5.v ?_;have jk:=ok.step EQ;have r₁:=r.step EQ;show wpAny c.M A (callWith pos (.type "tuple") [] [(false,eval (.Call (.Name "map" zk) [.Name n uo,e] [] Fw) V)] []) Q E s₁;refine lR (c:=c) sS (zx (wO ?_));refine rq (hm A V s₁ aC jk r₁ _ _ fun v s₂ bx t₂ s5=>?_);refine s5.v ?_;have lI:=jk.step t₂;have r₂:=r₁.step t₂;show wpAny c.M A (callWith Fw (.type "map") [] (backTo Fw (starEach [.Name n uo,e] V)) []) _ E s₂;refine lR (c:=c) sS (nu (.cons hf (.cons he .nil hs) (by intro;rfl)) lI r₂ (fun V=>by show((false,eval (.Name n uo) V)::starEach [e] V).all _=true;rw[hs];rfl) fun H aF er t₃ aZ=>⟨t₃.top,?_⟩);refine fB (m8 aZ) fun bg bK s4 h₁ h₂=>?_;subst s4;refine h₁.v ?_;have x_:=r₂.step t₃;have u5:=lI.step t₃;refine h₂.l fun{L xs gx} hz nY=>?_;have lM:=(EQ.trans t₂).trans t₃;refine AM (Q:=fun obj s'=>wpAny c.M A (spliced []) (fun H s₂=>c.H0.StaysIn s₂.heap∧wpAny c.M A (PySem.call (.type "tuple") ([]++(obj::H)) []) Q E s₂) E s') So (by decide) (acX _ _) (Xp _ _) (fun obj=>MB obj _ _) aco (T6 (.ref f) L xs) ⟨⟨_,t₃.sub.get hz,rfl,gx,rfl⟩,⟨_,dN _ rfl,rfl⟩,?_⟩;have mT:(ku aF.heap L).objs.size=aF.heap.objs.size+1:=eS ..;have vA:(mW aF.heap L).objs.size=aF.heap.objs.size+2:=by rw[eS,mT]
 have abU:((mW aF.heap L).push (je (ku aF.heap L).objs.size (.ref f))).objs.size=aF.heap.objs.size+3:=by rw[eS,vA]
 have g3:((mW aF.heap L).push (je (ku aF.heap L).objs.size (.ref f))).get? (mW aF.heap L).objs.size=some (je (ku aF.heap L).objs.size (.ref f)):=dN _ rfl;have g2:((mW aF.heap L).push (je (ku aF.heap L).objs.size (.ref f))).get? (ku aF.heap L).objs.size=some (cS #[.ref aF.heap.objs.size] 0):=bX _ (dN _ rfl);have g1:((mW aF.heap L).push (je (ku aF.heap L).objs.size (.ref f))).get? aF.heap.objs.size=some {cls:=.type "list_iterator",data:=.fields #[.ref L,.int 0 0]}:=bX _ (bX _ (dN _ rfl));have hk:∀b o,aF.heap.get? b=some o→((mW aF.heap L).push (je (ku aF.heap L).objs.size (.ref f))).get? b=some o:=fun b o e=>bX _ (bX _ (bX _ e));have zn:∀a,aF.heap.objs.size≤a→er a=Option.none:=fun a ha=>gC t₃.sub ha;have e1:aF.heap.objs.size≤(ku aF.heap L).objs.size:=by refine U mT ?_;exact b7 _
 have e2:aF.heap.objs.size≤(mW aF.heap L).objs.size:=by refine U vA ?_;exact bV _ 2
 have Dz:Step c aF er {aF with heap:=(mW aF.heap L).push (je (ku aF.heap L).objs.size (.ref f))} (er.put (ku aF.heap L).objs.size (cS #[.ref aF.heap.objs.size] 0)):=
  (Step.keep (t:=aF.toks) t₃.top t₃.sub hk (by refine U abU ?_;exact bV _ 3) (aH _)).DG e1 (zn _ e1) g2 (by simp)
 have le:fK er (er.put (ku aF.heap L).objs.size (cS #[.ref aF.heap.objs.size] 0)):=TW.uA (zn _ e1);have n1:(mW aF.heap L).objs.size≠(ku aF.heap L).objs.size:=by refine U mT (U vA ?_);exact g_ (jy _)
 have b6:aF.heap.objs.size≠(ku aF.heap L).objs.size:=by refine U mT ?_;exact fm (jy _)
 have dP:(mW aF.heap L).objs.size≠aF.heap.objs.size:=by refine U vA ?_;exact g_ (PW (by decide))
 refine wK ⟨Dz.top,?_⟩;refine callType_codes (Q₁:=fun obj s₁=>s₁.TypeIs obj "tuple"∧Q obj s₁) z6 (N7 _) PySem.F.entry_object_init (zA z6.plain N1 (qR (MN _) (acz g3 (Xx (A:=A.in1.in1) (F:=F) hand t₃.top (fun s Z t=>(u5.step t).in4) Dz g3 (TW.ai ..) ⟨_,g1,rfl,rfl⟩ ⟨gx,le _ _ hz⟩ ⟨e2,aH _⟩ ⟨?_,?_⟩ dP (nY.mono le) hl hp fun nS s' Z' st PG=>⟨?_,⟨_,dN _ rfl,rfl⟩,?_⟩)))) fun obj s₁ h₁=>⟨h₁.1,KP obj _,?_⟩
 ·exact(Tk n1).trans (zn _ e2)
 ·exact(Tk b6).trans (zn _ (aH _))
 ·rw[PG.length,b8];exact hl
 ·have aek:=lM.trans st;have Th:=aek.trans (Step.push st.top st.sub {cls:=.type "tuple",data:=.seq nS.toArray} rfl (by simp));exact g _ _ _ Th (.tup (TW.ai ..) (by simpa using PG.mono (TW.uA (gC st.sub (aH _)))))
 ·exact PySem.object_init_meets z6.init.lookup z6.made (by decide) c.p c.w A.in1 _ s₁ ⟨h₁.1,rfl,h₁.2⟩
end
end
section
noncomputable def CI (x y:Str):Bool:=decide (x.cps.toList<y.cps.toList)
noncomputable def eZ (gt:Bool):List Str→List Str→Bool
 |[],[]=>false
 |[],_::_=>!gt
 |_::_,[]=>gt
 |x::xs,y::ys=>if x==y then eZ gt xs ys else if gt then CI y x else CI x y
theorem Bx (gt x xs y ys):eZ gt (x::xs) (y::ys)=if x==y then eZ gt xs ys else if gt then CI y x else CI x y:=rfl
theorem agl (gt):eZ gt [] []=false:=rfl
theorem afZ (gt y ys):eZ gt [] (y::ys)= !gt:=rfl
theorem afT (gt y ys):eZ gt (y::ys) []=gt:=rfl
theorem UQ {gt} {xs ys:List Str} (h:xs=[]∨ys=[]):eZ gt xs ys=if gt then decide (xs.length>ys.length)else decide (xs.length<ys.length):=by
 rcases h with rfl|rfl
 ·rcases ys with _|⟨y,r⟩<;>rcases gt with _|_<;>rfl
 ·rcases xs with _|⟨y,r⟩<;>rcases gt with _|_<;>rfl
theorem Sh {gt} {i:Nat} {xs ys:List Str} (h:xs.drop i=[]∨ys.drop i=[]) (h1:i≤xs.length) (h2:i≤ys.length):eZ gt (xs.drop i) (ys.drop i)=if gt then decide (xs.length>ys.length)else decide (xs.length<ys.length):=by
 refine(UQ h).trans ?_;simp only[gt_iff_lt,vF,KG h1,KG h2]
noncomputable def codeOf (gt:Bool):Int:=if gt then 4 else 0
open AutoSeq1 (wpAny_loadPart')in
open PySem.MeetsSeq3 in
set_option maxHeartbeats 1000000 in
theorem RH (gt) (l b) (items jF) (n b6) (xs ys) (h1:StrsAre items.toList xs) (h2:StrsAre jF.toList ys) (k):
 ∀i:Nat,items.size-i=k→i≤items.size→i≤jF.size→PySem.Meets (Builtin.«list.__eq__.loop» ⟨[.ref l,.ref b,rawInt i,rawInt (codeOf gt)],[]⟩)
  (fun J R s=>s.heap.get? l=some {cls:=.type "list",dict:=none,data:=.seq items n,slots:=#[]}∧s.heap.get? b=some {cls:=.type "list",dict:=none,data:=.seq jF b6,slots:=#[]}∧
   R (.ok (.ret (.bool (eZ gt (xs.drop i) (ys.drop i))))) s):=by
 have l1:items.size=xs.length:=by refine ZB gB ?_;exact h1.length
 have l2:jF.size=ys.length:=by refine ZB gB ?_;exact h2.length
 have miss:∀(wL:Bool) (i:Nat),items.size-i≥0→i≤items.size→i≤jF.size→(xs[i]?=none∨ys[i]?=none)→PySem.Meets (Builtin.«list.__eq__.loop» ⟨[.ref l,.ref b,rawInt i,rawInt (codeOf wL)],[]⟩)
  (fun J R s=>s.heap.get? l=some {cls:=.type "list",dict:=none,data:=.seq items n,slots:=#[]}∧s.heap.get? b=some {cls:=.type "list",dict:=none,data:=.seq jF b6,slots:=#[]}∧
   R (.ok (.ret (.bool (eZ wL (xs.drop i) (ys.drop i))))) s):=by
  intro wL i _ sR qx hm prog w A R s h;obtain⟨hp,g,d,tk,os⟩:=s;obtain⟨hl,hb,h⟩:=h;have e:eZ wL (xs.drop i) (ys.drop i)=(if wL then decide (items.size>jF.size)else decide (items.size<jF.size)):=by
   refine U l1 (U l2 ?_);rw[l1]at sR;rw[l2]at qx;exact Sh (hm.imp (fun h=>Fb (lP.mp h)) fun h=>Fb (lP.mp h)) sR qx
  rw[e]at h;have PS:items[((i:Nat):Int).toNat]?=none∨jF[((i:Nat):Int).toNat]?=none:=by
   rcases hm with hm|hm
   ·rw[lP]at hm;left;simp;exact Ev (bT l1) hm
   ·rw[lP]at hm;right;simp;exact Ev (bT l2) hm
  rcases wL with _|_
  ·wp_walk using fk hl,fk hb;rcases PS with xz|xz
   ·refine U xz ?_;wp_walk using fk hl,fk hb;exact h
   ·rcases Ch:items[((i:Nat):Int).toNat]? with _|v
    ·wp_walk using fk hl,fk hb;exact h
    ·refine U xz ?_;wp_walk using fk hl,fk hb;exact h
  ·wp_walk using fk hl,fk hb;rcases PS with xz|xz
   ·refine U xz ?_;wp_walk using fk hl,fk hb;exact h
   ·rcases Ch:items[((i:Nat):Int).toNat]? with _|v
    ·wp_walk using fk hl,fk hb;exact h
    ·refine U xz ?_;wp_walk using fk hl,fk hb;exact h
 induction k with
 |zero=>
  intro i hk sR qx;exact miss gt i (e_ _) sR qx (.inl (by rw[lP];exact Ev (bT l1.symm) (Em hk)))
 |succ k ih=>
  intro i hk sR qx;rcases No:ys[i]? with _|y
  ·exact miss gt i (e_ _) sR qx (.inr No)
  have bJ:i<xs.length:=k7 (yH hk) l1;obtain⟨x,hx⟩:∃x,xs[i]?=some x:=⟨xs[i],fV bJ⟩;have CA:i<ys.length:=by
   rw[lq]at No;exact No.1
  obtain⟨dj,aaq⟩:=h1.at hx;obtain⟨ty,aaR⟩:=h2.at No;have Dr:items[((i:Nat):Int).toNat]?=some (.str x dj):=by simpa using aaq
  have D_:jF[((i:Nat):Int).toNat]?=some (.str y ty):=by simpa using aaR
  have dx:xs.drop i=x::xs.drop (i+1):=by
   rw[lq]at hx;obtain⟨_,rfl⟩:=hx;exact sy _
  have Wz:ys.drop i=y::ys.drop (i+1):=by
   rw[lq]at No;obtain⟨_,rfl⟩:=No;exact sy _
  have hc:((i:Int)+1)=((i+1:Nat):Int):=by push_cast;rfl
  intro prog w A R s h;obtain⟨hp,g,d,tk,os⟩:=s;obtain⟨hl,hb,h⟩:=h;rw[dx,Wz]at h;rcases gt with _|_
  ·wp_walk using fk hl,fk hb;refine U Dr (U D_ ?_);refine u8 (Rq x dj y ty _ _ _ _ ?_);rw[Bx]at h;rcases dJ:x==y with _|_
   ·rw[dJ]at h;wp_walk using fk hl,fk hb;refine U Dr (U D_ ?_);refine u8 ?_;show wpAny _ _ (compareOp .Lt (.str x dj) (.str y ty)) _ _ _;exact lt_str (On h)
   ·rw[dJ]at h;wp_walk;refine U hc ?_;exact⟨qG plain_eq_loop _,mX entry_eq_loop (by
     refine U (nG plain_eq_loop _) ?_;exact ih (i+1) (cN Nat.pred hk) (yH hk) (k7 CA l2.symm) prog w A R _ ⟨hl,hb,by simpa using h⟩)⟩
  ·wp_walk using fk hl,fk hb;refine U Dr (U D_ ?_);refine u8 (Rq x dj y ty _ _ _ _ ?_);rw[Bx]at h;rcases dJ:x==y with _|_
   ·rw[dJ]at h;wp_walk using fk hl,fk hb;refine U Dr (U D_ ?_);refine u8 ?_;show wpAny _ _ (compareOp .Gt (.str x dj) (.str y ty)) _ _ _;exact PySem.P.gt_str (On h)
   ·rw[dJ]at h;wp_walk;refine U hc ?_;exact⟨qG plain_eq_loop _,mX entry_eq_loop (by
     refine U (nG plain_eq_loop _) ?_;exact ih (i+1) (cN Nat.pred hk) (yH hk) (k7 CA l2.symm) prog w A R _ ⟨hl,hb,by simpa using h⟩)⟩
open AutoSeq1 (wpAny_loadPart')in
open PySem.MeetsSeq3 in
theorem aag (l b) (items jF) (n b6) (xs ys) (h1:StrsAre items.toList xs) (h2:StrsAre jF.toList ys):
 PySem.Meets (Builtin.«list.__lt__» ⟨[.ref l,.ref b],[]⟩)
  (fun J R s=>s.heap.get? l=some {cls:=.type "list",dict:=none,data:=.seq items n,slots:=#[]}∧s.heap.get? b=some {cls:=.type "list",dict:=none,data:=.seq jF b6,slots:=#[]}∧
   R (.ok (.ret (.bool (eZ false xs ys)))) s):=by
 intro prog w A R s h;obtain⟨hp,g,d,tk,os⟩:=s;refine b4 h fun hl hb h=>?_;have f3:=AutoSeq1.sub_list_list;wp_walk using fk hl,fk hb;exact⟨qG plain_eq_loop _,mX entry_eq_loop (by
  refine U (nG plain_eq_loop _) ?_;exact RH false l b items jF n b6 xs ys h1 h2 _ 0 rfl (e_ _) (e_ _) prog w A R _ ⟨hl,hb,by simpa using h⟩)⟩
open AutoSeq1 (wpAny_loadPart')in
open PySem.MeetsSeq3 in
theorem TN (l b) (items jF) (n b6) (xs ys) (h1:StrsAre items.toList xs) (h2:StrsAre jF.toList ys):
 PySem.Meets (Builtin.«list.__gt__» ⟨[.ref l,.ref b],[]⟩)
  (fun J R s=>s.heap.get? l=some {cls:=.type "list",dict:=none,data:=.seq items n,slots:=#[]}∧s.heap.get? b=some {cls:=.type "list",dict:=none,data:=.seq jF b6,slots:=#[]}∧
   R (.ok (.ret (.bool (eZ true xs ys)))) s):=by
 intro prog w A R s h;obtain⟨hp,g,d,tk,os⟩:=s;refine b4 h fun hl hb h=>?_;have f3:=AutoSeq1.sub_list_list;wp_walk using fk hl,fk hb;exact⟨qG plain_eq_loop _,mX entry_eq_loop (by
  refine U (nG plain_eq_loop _) ?_;exact RH true l b items jF n b6 xs ys h1 h2 _ 0 rfl (e_ _) (e_ _) prog w A R _ ⟨hl,hb,by simpa using h⟩)⟩
theorem abz {c:ah} {Z:TW} {A:Around} {s:Shared} {bg bK:Value} {xs ys:List Str} {Q E:Value→Shared→Prop} (sub:Sub Z s.heap) (EQ:Tells Z bg (.list (ww xs))) (t₂:Tells Z bK (.list (ww ys))) (cU:A.units<9900) (q:Q (.bool (eZ false xs ys)) s):
 wpAny c.M A (richCompare .Lt bg bK) Q E s:=by
 refine EQ.l fun h₁ sW=>?_;refine t₂.l fun h₂ uB=>?_;exact richCompare_meets_room (op:=.Lt) ⟨_,sub.get h₁,rfl⟩ ⟨_,sub.get h₂,rfl⟩ PySem.F.slot_list_lt PySem.F.entry_list_lt (PySem.F.args_list_lt_2 _ _) (aag _ _ _ _ _ _ xs ys (xh sW) (xh uB)) ⟨sub.get h₁,sub.get h₂,show Value.bool (eZ _ xs ys)≠Value.notImplemented∧Q (.bool (eZ _ xs ys)) s from⟨(fun x=>(by injection x)),q⟩⟩ cU
theorem ada {c:ah} {Z:TW} {A:Around} {s:Shared} {bg bK:Value} {xs ys:List Str} {Q E:Value→Shared→Prop} (sub:Sub Z s.heap) (EQ:Tells Z bg (.list (ww xs))) (t₂:Tells Z bK (.list (ww ys))) (cU:A.units<9900) (q:Q (.bool (eZ true xs ys)) s):
 wpAny c.M A (richCompare .Gt bg bK) Q E s:=by
 refine EQ.l fun h₁ sW=>?_;refine t₂.l fun h₂ uB=>?_;exact richCompare_meets_room (op:=.Gt) ⟨_,sub.get h₁,rfl⟩ ⟨_,sub.get h₂,rfl⟩ PySem.F.slot_list_gt PySem.F.entry_list_gt (PySem.F.args_list_gt_2 _ _) (TN _ _ _ _ _ _ xs ys (xh sW) (xh uB)) ⟨sub.get h₁,sub.get h₂,show Value.bool (eZ _ xs ys)≠Value.notImplemented∧Q (.bool (eZ _ xs ys)) s from⟨(fun x=>(by injection x)),q⟩⟩ cU
noncomputable def oF (bt:D→D→Bool):D→List D→D
 |b,[]=>b
 |b,d::r=>oF bt (if bt d b then d else b) r
theorem Ea (bt b d r):oF bt b (d::r)=oF bt (if bt d b then d else b) r:=rfl
section
variable {c:ah} {k:Nat} {b₀:D} {ds₀:List D}
noncomputable def P7 (nm:String) (op:CmpOp):Builtin:=by
 have e:Builtin.«max.loop»=Builtin.«max.loop»:=rfl;delta Builtin.«max.loop» at e;exact(fun{f:String→CmpOp→Builtin} (_:f "max" .Gt=f "max" .Gt)=>f) e nm op
noncomputable def adn (nm:String):Builtin:=by
 have e:Builtin.max=Builtin.max:=rfl;delta Builtin.max at e;exact(fun{f:String→Builtin} (_:f "max" =f "max")=>f) e nm
theorem afp {nm id:String} {op:CmpOp} (ent:entryFor table id=some (P7 nm op)) (pl:plainId id=true) (wg:(toString nm++toString ".loop" :String)=id) {A:Around} {R:Result→Shared→Prop} {s₀:Shared} {Z:TW} {br S L:Addr} {H:Array Value} {n:Nat} (hh:A.handled=none) (aU:Z L=some (pX H n)) (rG:Sub Z s₀.heap) (qs:s₀.heap.objs.size≤br) (hS:s₀.heap.objs.size≤S) (a_:br≠S) {bt:D→D→Bool} {P:D→Prop}
 (cmp:∀d ck v v' (s),P d→P ck→Sub Z s.heap→Tells Z v d→Tells Z v' ck→∀Q E,Q (.bool (bt d ck)) s→wpAny c.M A.in1 (richCompare op v v') Q E s)
 (bD:∀v (h'),(∀a o,s₀.heap.get? a=some o→h'.get? a=some o)→s₀.heap.objs.size≤h'.objs.size→Tells Z v (oF bt b₀ ds₀)→R (.ok (.ret v)) {s₀ with heap:=h'}):
 ∀rest h b qD j AQ,(∀d∈rest,P d)→P b→oF bt b rest=oF bt b₀ ds₀→au Z (H.toList.drop j) rest→Tells Z qD b→(∀a o,s₀.heap.get? a=some o→h.get? a=some o)→s₀.heap.objs.size≤h.objs.size→h.IsListIter br L j→h.get? S=some (pX #[qD,qD] AQ)→
 codeAny c.M A (.builtin id ⟨[.ref br,.none,.ref S],[]⟩) R {s₀ with heap:=h}:=by
 have Bw:∀{a:Addr} {o:Obj},s₀.heap.get? a=some o→a≠br:=fun e=>fm (fP (cE e) qs);have D7:∀{a:Addr} {o:Obj},s₀.heap.get? a=some o→a≠S:=fun e=>fm (fP (cE e) hS);intro rest
 induction rest with
 |nil=>
  intro h b qD j AQ _ _ CY FS hb hk hz hit q7;have Ih:=hk _ _ (rG.get aU);refine mX ent ?_;refine U (nG pl _) ?_;show wpAny _ A.in1 (seqItems? (.ref S)>>=_) _ _ _;refine u8 (nc q7 rfl ?_);show wpAny _ A.in1 (tryCatch (pyNext (.ref br)) _>>=_) _ _ _;have Ch:H.toList.drop j=[]:=by induction Ch:H.toList.drop j with|nil=>rfl|cons v r'=>rw[Ch]at FS;cases FS
  refine u8 (Dt (g9 (Gp hh hit ⟨_,Ih,rfl,n,rfl⟩ (w5 Ch) fun h' x u=>?_)));have hS':=x S _ a_.symm q7;show wpAny _ A.in1 (updateSeq S (fun J=>#[])>>=_) _ _ _;refine u8 ?_;refine tN hS' rfl (u8 (w9 (On ?_)));refine bD qD _ (fun a o e=>(rP _ _ (D7 e).symm).trans (x a o (Bw e) (hk a o e))) ?_ (CY▸hb);rw[yx];exact Ev hz u.size
 |cons d rest ih=>
  intro h b qD j AQ lC MY CY FS hb hk hz hit q7;have Ih:=hk _ _ (rG.get aU);refine mX ent ?_;refine U (nG pl _) ?_;show wpAny _ A.in1 (seqItems? (.ref S)>>=_) _ _ _;refine u8 (nc q7 rfl ?_);show wpAny _ A.in1 (tryCatch (pyNext (.ref br)) _>>=_) _ _ _;rcases Ch:H.toList.drop j with _|⟨v,r'⟩
  ·rw[Ch]at FS;cases FS
  rw[Ch]at FS;obtain⟨g1,g2⟩:=r8 Ch;cases FS with
  |cons t1 fD=>
  refine u8 (Dt (Dd hit ⟨_,Ih,rfl,n,rfl⟩ g1 fun h' se av=>?_));have hS':=(av.2 S a_.symm).trans q7;have hk':∀a o,s₀.heap.get? a=some o→h'.get? a=some o:=fun a o e=>(av.2 a (Bw e)).trans (hk a o e);have Ao:Sub Z h':=fun a o e=>⟨hk' a o (rG.get e),(rG a o e).2⟩;have Eb:s₀.heap.objs.size≤h'.objs.size:=by refine U av.1 ?_;exact hz
  show wpAny _ A.in1 (tryCatch (holding [v,v] (richCompare op v qD>>=_)) _>>=_) _ _ _;refine u8 (Dt (bW (u8 (cmp d b v qD _ (lC _ (.head _)) MY Ao t1 hb _ _ ?_))));refine u8 (bW (Al ?_));refine u8 (w9 (On ?_));rcases OM:bt d b with _|_
  ·simp only[j7,jE];refine u8 (w9 ?_);refine U wg ?_;refine On ⟨qG pl _,ih _ b qD (j+1) AQ (fun x hx=>lC x (.tail _ hx)) MY ?_ (by refine U g2 ?_;exact fD) hb hk' Eb se hS'⟩;rw[←CY,Ea,Tk (by simp[OM])]
  ·simp only[lH];refine u8 ?_;refine tN hS' rfl (u8 (w9 ?_));refine U wg ?_;refine On ⟨qG pl _,ih _ d v (j+1) _ (fun x hx=>lC x (.tail _ hx)) (lC _ (.head _)) ?_ (by refine U g2 ?_;exact fD) t1 (fun a o e=>(rP _ _ (D7 e).symm).trans (hk' a o e)) (by rw[yx];exact Eb) ?_ (kD _ hS' rfl)⟩
   ·rw[←CY,Ea,ak OM]
   ·refine aS se fun o h1 h2 h3=>?_;exact fW o ((rP _ _ a_.symm).trans h1) h2 h3
theorem Ln {nm id:String} {op:CmpOp} (ent:entryFor table id=some (P7 nm op)) (pl:plainId id=true) (wg:(toString nm++toString ".loop" :String)=id) (kd:builtinKind nm=Option.none) (Xu:plainId nm=true) (aey:entryFor table nm=some (adn nm)) (U8:∀a:Value,argsOk nm {pos:=[a]}) {bt:D→D→Bool} {P:D→Prop} {Q E:Value→Shared→Prop} (hh:A.handled=none) (top:c.H0.StaysIn s.heap) (sub:Sub Z s.heap) (s5:Tells Z v (.list (d::ds))) (lC:∀x∈d::ds,P x)
 (cmp:∀d ck v v' (s),P d→P ck→Sub Z s.heap→Tells Z v d→Tells Z v' ck→∀Q E,Q (.bool (bt d ck)) s→wpAny c.M A.in1 (richCompare op v v') Q E s)
 (g:Gives c s Z (oF bt d ds) Q):wpAny c.M A (call (.builtin nm) [v]) Q E s:=by
 cases s5 with
 | @list L H n _ aU hl=>
 refine call_function_tree kd Xu aey (U8 _) ?_;show wpAny _ A.in1 (Builtin.Builtins.bindParams nm ["key","default"] 0 ⟨[],[]⟩>>=_) _ _ s;refine u8 (qR (show Builtin.Builtins.bindParams nm ["key","default"] 0 ⟨[],[]⟩=pure [none,none]from rfl) ?_);refine u8 (On ?_);refine u8 (wJ ⟨_,sub.get aU,rfl,_,rfl⟩ ?_);refine u8 (iL ?_);refine U wg ?_;refine On ⟨qG pl _,?_⟩;obtain⟨hp,D9,dd,tk,os⟩:=s;have mT:(hp.push {cls:=.type "list_iterator",data:=.fields #[.ref L,.int 0 0]}).objs.size=hp.objs.size+1:=eS ..;have dI:∀a o,hp.get? a=some o→((hp.push {cls:=.type "list_iterator",data:=.fields #[.ref L,.int 0 0]}).push (pX #[] 0)).get? a=some o:=fun a o e=>bX _ (bX _ e);have q7:((hp.push {cls:=.type "list_iterator",data:=.fields #[.ref L,.int 0 0]}).push (pX #[] 0)).get? (hp.objs.size+1)=some (pX #[] 0):=by refine ZB mT ?_;exact dN _ rfl
 have a_:hp.objs.size≠hp.objs.size+1:=fm (jy _);have hit:((hp.push {cls:=.type "list_iterator",data:=.fields #[.ref L,.int 0 0]}).push (pX #[] 0)).IsListIter hp.objs.size L 0:=⟨_,bX _ (dN _ rfl),rfl,rfl⟩;dsimp only at*;refine U mT ?_;refine mX ent ?_;refine U (nG pl _) ?_;show wpAny _ A.in1 (seqItems? (.ref (hp.objs.size+1))>>=_) _ _ _;refine u8 (nc q7 rfl ?_);show wpAny _ A.in1 (tryCatch (pyNext (.ref hp.objs.size)) _>>=_) _ _ _;have Cq:au Z (H.toList.drop 0) (d::ds):=hl;rcases Ch:H.toList.drop 0 with _|⟨v,r'⟩
 ·rw[Ch]at Cq;cases Cq
 rw[Ch]at Cq;obtain⟨g1,g2⟩:=r8 Ch;cases Cq with
 |cons t1 fD=>
 refine u8 (Dt (Dd hit ⟨_,dI _ _ (sub.get aU),rfl,n,rfl⟩ g1 fun h' se av=>?_));have hS':=(av.2 _ a_.symm).trans q7;have Bw:∀{a:Addr} {o:Obj},hp.get? a=some o→a≠hp.objs.size:=fun e=>fm (cE e);have D7:∀{a:Addr} {o:Obj},hp.get? a=some o→a≠hp.objs.size+1:=fun e=>fm (fP (cE e) (b7 _));show wpAny _ A.in1 (updateSeq (hp.objs.size+1) (fun J=>#[v,v])>>=_) _ _ _;refine u8 ?_;refine tN hS' rfl ?_;refine U wg ?_;have RJ:hp.objs.size≤h'.objs.size:=by rw[av.1,eS,mT];exact Ev (b7 _) (b7 _)
 refine On ⟨qG pl _,afp ent pl wg (A:=A) (s₀:=⟨hp,D9,dd,tk,os⟩) (b₀:=d) (ds₀:=ds) (bt:=bt) (P:=P) hh aU sub (aH _) (b7 _) a_ cmp (fun v h'' hk hz hb=>?_) ds _ d v 1 _ (fun x hx=>lC x (.tail _ hx)) (lC _ (.head _)) rfl (by refine U g2 ?_;exact fD) t1 (fun a o e=>(rP _ _ (D7 e).symm).trans ((av.2 a (Bw e)).trans (dI a o e))) (by rw[yx];exact RJ) ?_ (kD _ hS' rfl)⟩
 ·exact g v _ Z (Step.keep (s:=⟨hp,D9,dd,tk,os⟩) top sub hk hz (aH _)) hb
 ·refine aS se fun o h1 h2 h3=>?_;exact fW o ((rP _ _ a_.symm).trans h1) h2 h3
theorem L4 {bt:D→D→Bool} {P:D→Prop} {Q E:Value→Shared→Prop} (hh:A.handled=none) (top:c.H0.StaysIn s.heap) (sub:Sub Z s.heap) (s5:Tells Z v (.list (d::ds))) (lC:∀x∈d::ds,P x)
 (cmp:∀d ck v v' (s),P d→P ck→Sub Z s.heap→Tells Z v d→Tells Z v' ck→∀Q E,Q (.bool (bt d ck)) s→wpAny c.M A.in1 (richCompare .Gt v v') Q E s)
 (g:Gives c s Z (oF bt d ds) Q):wpAny c.M A (call (.builtin "max") [v]) Q E s:=
 Ln (op:=.Gt) PySem.F.entry_max_loop PySem.F.plain_max_loop (by decide) PySem.F.kind_max PySem.F.plain_max PySem.F.entry_max PySem.F.args_max1 hh top sub s5 lC cmp g
theorem Yt {bt:D→D→Bool} {P:D→Prop} {Q E:Value→Shared→Prop} (hh:A.handled=none) (top:c.H0.StaysIn s.heap) (sub:Sub Z s.heap) (s5:Tells Z v (.list (d::ds))) (lC:∀x∈d::ds,P x)
 (cmp:∀d ck v v' (s),P d→P ck→Sub Z s.heap→Tells Z v d→Tells Z v' ck→∀Q E,Q (.bool (bt d ck)) s→wpAny c.M A.in1 (richCompare .Lt v v') Q E s)
 (g:Gives c s Z (oF bt d ds) Q):wpAny c.M A (call (.builtin "min") [v]) Q E s:=
 Ln (op:=.Lt) PySem.F.entry_min_loop PySem.F.plain_min_loop (by decide) PySem.F.kind_min PySem.F.plain_min PySem.F.entry_min PySem.F.args_min1 hh top sub s5 lC cmp g
end
end
section
noncomputable def zN (i:Nat):List D→List D
 |[]=>[]
 |d::ds=>.tup [.int i,d]::zN (i+1) ds
noncomputable abbrev CE (it:Addr) (i:Int) (old:Value):Obj:={cls:=.type "enumerate",dict:=none,data:=.fields #[.none,.bool false,.ref it,rawInt i,.none,old],slots:=#[]}
noncomputable abbrev MC (it:Addr) (i:Int) (old:Value) (a:Addr):Obj:={cls:=.type "enumerate",dict:=none,data:=.fields #[rawInt a,.bool false,.ref it,rawInt i,.none,old],slots:=#[]}
inductive Ie (Z:TW) (l:List D) (e:Addr):Objs→Prop
 |mk (it L:Addr) (H:Array Value) (n i:Nat) (old:Value) (i0:Obj) (ds:List D):i0.cls= .type "list_iterator"→i0.data= .fields #[.ref L,.int i 0]→e≠it→Z L=some (pX H n)→au Z (H.toList.drop i) ds→l=zN i ds→Ie Z l e [(e,CE it i old),(it,i0)]
noncomputable def adV:Expr→Prop
 | .Tuple _ _ _=>True
 |_=>False
theorem dG.tk (x:dG c S s {s with heap:=h'} Z Z') (FS:s.toks≤t):dG c S s {s with heap:=h',toks:=t} Z Z':=
 ⟨x.chg,x.top,x.ext,x.sub,⟨FS,x.up.size⟩,x.fld,⟨_,_,rfl⟩⟩
theorem O9 (h:a≠b) (hc:o.cls= .type n) (M2:n≠"frame") (hd:o.data= .fields H) (i6:o'.cls= .type gx) (gM:gx≠"frame") (hd':o'.data= .fields nS):Rows [(a,o),(b,o')]:=by
 refine⟨by simpa using h,fun p hp=>?_⟩;refine bC hp ?_ fun hp=>?_
 ·exact⟨by refine U hc ?_;simpa using M2,fun x=>by refine U hd ?_;simp⟩
 refine bC hp ?_ fun hp=>?_
 ·exact⟨by refine U i6 ?_;simpa using gM,fun x=>by refine U hd' ?_;simp⟩
 ·cases hp
theorem vZ:fT h [(a,o),(b,o')]↔h.get? a=some o∧h.get? b=some o':=
 ⟨fun x=>⟨x _ (.head _),x _ (.tail _ (.head _))⟩,fun x p hp=>by
  refine bC hp ?_ fun hp=>?_
  ·exact x.1
  refine bC hp ?_ fun hp=>?_
  ·exact x.2
  cases hp⟩
theorem SD:jT c Ie (fun J=>True) adV where
 mono:=fun le ⟨it,L,H,n,i,old,i0,ds,h2,h3,h4,h5,h6,ia⟩=>⟨it,L,H,n,i,old,i0,ds,h2,h3,h4,le _ _ h5,h6.mono le,ia⟩
 rows:=fun⟨it,L,H,n,i,old,i0,ds,h2,h3,h4,h5,h6,ia⟩=>O9 h4 rfl (by decide) rfl h2 (by decide) h3
 iter:=by
  intro A s Z e os l Q E st Go q;obtain⟨it,L,H,n,i,old,i0,ds,h2,h3,h4,h5,h6,ia⟩:=Go;exact wpAny_pyIter_enum (vZ.mp st).1 q
 next:=by
  intro A V s Z O Y e os d l Q E hh r _ cH st Go q;obtain⟨it,L,H,n,i,old,i0,ds,h2,h3,h4,h5,h6,ia⟩:=Go;obtain⟨s1,s2⟩:=vZ.mp st;rcases ds with _|⟨ck,ds⟩
  ·injection ia
  obtain⟨rfl,rfl⟩:=jd ia;rcases Ch:H.toList.drop i with _|⟨v,r'⟩
  ·rw[Ch]at h6;cases h6
  rw[Ch]at h6;obtain⟨g1,g2⟩:=r8 Ch;cases h6 with
  |cons t1 fD=>
  have hle:e<s.heap.objs.size:=cE s1;have agf:it<s.heap.objs.size:=cE s2;refine wpAny_pyNext_enum_item s1 ⟨i0,s2,h2,h3⟩ ⟨_,r.sub.get h5,rfl,n,rfl⟩ g1 h4 fun h' u9 se hT hsz hk=>?_;refine aS se fun IW bG i6 hd'=>?_;have abK:Z s.heap.objs.size=none:=gC r.sub (aH _);have le:fK Z (Z.put s.heap.objs.size (cS #[.int i s.toks,v] 0)):=TW.uA abK;have i8:dG c ([(e,CE it i old),(it,i0)].map Prod.fst) s {s with heap:=h',toks:=s.toks+1} Z (Z.put s.heap.objs.size (cS #[.int i s.toks,v] 0)):=
   (Li r.sub r.top cH rfl hT (by simp) (fun b o hb x=>hk b o (fun y=>hb (by simp[y])) (fun y=>hb (by simp[y])) x) (by refine U hsz ?_;exact b7 _) (fun b o hb x hf=>by
    simp only[aJ,su,aY,d_,gO]at hb;rcases hb with rfl|rfl
    ·rw[s1]at x;obtain rfl:=bf x;exact absurd rfl (hf.qX _)
    ·rw[s2]at x;obtain rfl:=bf x;exact absurd h3 (hf.qX _))).tk (b7 _)
  refine q _ _ _ [(e,MC it ((i+1:Nat):Int) v s.heap.objs.size),(it,IW)] i8 rfl (vZ.mpr ⟨u9,bG⟩) (O9 h4 rfl (by decide) rfl i6 (by decide) hd') (.tup (TW.ai ..) (.cons (.int _ _) (.cons (t1.mono le) .nil))) ?_;intro P9 bk xj lU uz IK q';cases bk with
  |Tuple elts Ks pos=>
   refine wpAny_letOwnedTupleGo_enum (s:={s with heap:=h',toks:=s.toks+1}) u9 fun h'' Z6 av=>?_;have Zw:=IK (e,MC it ((i+1:Nat):Int) v s.heap.objs.size) (.head _);exact q' _ [(e,CE it ((i+1:Nat):Int) v),(it,IW)] (dG.same (s:={s with heap:=h',toks:=s.toks+1}) i8.top i8.sub Zw av (by simp) (aH _) ⟨_,_,u9,rfl⟩) rfl (vZ.mpr ⟨Z6,(av.2 it h4.symm).trans bG⟩)
    ⟨it,L,H,n,i+1,v,IW,ds,i6,hd',h4,le _ _ h5,by refine U g2 ?_;exact fD.mono le,rfl⟩
  |_=>exact uz.elim
 fin:=by
  intro A V s Z O Y e os Q E hh r _ cH st Go q;obtain⟨it,L,H,n,i,old,i0,ds,h2,h3,h4,h5,h6,ia⟩:=Go;obtain⟨s1,s2⟩:=vZ.mp st;rcases ds with _|⟨ck,ds⟩
  rotate_left
  ·injection ia
  have Ch:H.toList.drop i=[]:=by cases Ch:H.toList.drop i with|nil=>rfl|cons v r'=>rw[Ch]at h6;cases h6
  exact g9 (wpAny_pyNext_enum_end hh s1 ⟨i0,s2,h2,h3⟩ ⟨_,r.sub.get h5,rfl,n,rfl⟩ (w5 Ch) fun h' x u=>q _ Z (dG.ext' r.top r.sub (cH _ (.tail _ (.head _))) x (by simp) u ⟨i0,_,s2,h3⟩))
section
variable {c:ah} {k:Nat} {O:XV} {Y:B}
theorem bA.enum (hf:f8 c k O Y (.Name "enumerate" p) (.val (.type "enumerate"))) (he:f8 c k O Y e (.list l)) (hs:∀V,starEach [e] V=[(false,eval e V)]:=by intro;rfl):
 bA c k O Y (.Call (.Name "enumerate" p) [e] [] pos) Ie (zN 0 l):=by
 intro A V s Z ok r Q E q;refine rq (hf A V s Z ok r _ E fun v s₁ aC EQ s5=>?_);refine s5.v ?_;show wpAny c.M A (callWith pos (.type "enumerate") [] (backTo pos (starEach [e] V)) []) _ E s₁;refine lR (c:=c) sS (nu (.cons he .nil hs) (ok.step EQ) (r.step EQ) (fun V=>by rw[hs];rfl) fun H s₂ bx t₂ aZ=>⟨t₂.top,?_⟩);refine wS (iF aZ) fun v s4 s5=>?_;subst s4;refine s5.l fun{L xs n} vq hl=>?_;refine call_enumerate_1 (t₂.sub.get vq) fun h' u9 se hsz hk=>?_;refine aS se fun i0 xz hc hd=>?_;have st:=(EQ.trans t₂).trans (Step.keep (t:=s₂.toks) t₂.top t₂.sub hk (by refine U hsz ?_;exact bV _ 2) (aH _));refine wpAny_pyIter_enum (s:={s₂ with heap:=h'}) u9 (q _ [(s₂.heap.objs.size+1,CE s₂.heap.objs.size ((0:Nat):Int) .none),(s₂.heap.objs.size,i0)] _ bx st (vZ.mpr ⟨u9,xz⟩) (fun p hp=>?_) ⟨_,_,_,_,0,_,_,_,hc,hd,g_ (jy _),vq,hl,rfl⟩);have hz:=(EQ.trans t₂).grow.1;refine bC hp ?_ fun hp=>?_
 ·exact⟨Ev hz (b7 _),gC t₂.sub (b7 _)⟩
 refine bC hp ?_ fun hp=>?_
 ·exact⟨hz,gC t₂.sub (aH _)⟩
 ·cases hp
noncomputable def wk:List D→List Str
 |[]=>[]
 | .str x::r=>x::wk r
 |_::r=>wk r
theorem w_:∀l:List Str,wk (ww l)=l:=fun k8=>by
 induction k8 with
 |nil=>exact rfl
 |cons x l lZ=>exact by show x::wk (ww l)=_;exact U ((lZ)) rfl
noncomputable def qz (gt:Bool) (d ck:D):Bool:=match d,ck with| .list a,.list b=>eZ gt (wk a) (wk b)|_,_=>false
noncomputable def nT (gt:Bool):List Str→List (List Str)→List Str
 |b,[]=>b
 |b,d::r=>nT gt (if eZ gt d b then d else b) r
theorem By (gt b d r):nT gt b (d::r)=nT gt (if eZ gt d b then d else b) r:=rfl
theorem I0 (gt):∀(b) (r:List (List Str)),oF (qz gt) (.list (ww b)) (r.map fun x=>.list (ww x))= .list (ww (nT gt b r))
 |b,[]=>rfl
 |b,d::r=>by
  rw[aJ,Ea,By];have:qz gt (.list (ww d)) (.list (ww b))=eZ gt d b:=by unfold qz;dsimp only;rw[w_,w_]
  refine U this ?_;cases eZ gt d b<;>exact I0 gt _ r
noncomputable def L0 (d:D):Prop:=∃xs,d= .list (ww xs)
theorem bZ.aeh (hh:c.hd=false):bZ c k O Y (.builtin "max") [.list ((b::r).map fun x=>.list (ww x))] (.list (ww (nT true b r))):=by
 intro A V s Z H ok rd t Q E g;refine wS (iF t) fun v s4 s5=>?_;subst s4;refine L4 (bt:=qz true) (P:=L0) (ok.hand hh) rd.top rd.sub s5 (fun x hx=>?_) ?_ (by rw[I0];exact g)
 ·rw[←aJ (f:=fun x=>D.list (ww x))]at hx;refine wS (ao.mp hx) fun y J s4=>?_;subst s4;exact⟨y,rfl⟩
 ·intro _ _ v v' s Go uD sub EQ t₂ Q E q;obtain⟨x,rfl⟩:=Go;obtain⟨y,rfl⟩:=uD;refine ada sub EQ t₂ (by have:=ok.units;show A.units+1<9900;exact Dl ‹_› (by decide)) ?_;have e:qz true (.list (ww x)) (.list (ww y))=eZ true x y:=by unfold qz;dsimp only;rw[w_,w_]
  rw[e]at q;exact q
theorem bZ.ad4 (hh:c.hd=false):bZ c k O Y (.builtin "min") [.list ((b::r).map fun x=>.list (ww x))] (.list (ww (nT false b r))):=by
 intro A V s Z H ok rd t Q E g;refine wS (iF t) fun v s4 s5=>?_;subst s4;refine Yt (bt:=qz false) (P:=L0) (ok.hand hh) rd.top rd.sub s5 (fun x hx=>?_) ?_ (by rw[I0];exact g)
 ·rw[←aJ (f:=fun x=>D.list (ww x))]at hx;refine wS (ao.mp hx) fun y J s4=>?_;subst s4;exact⟨y,rfl⟩
 ·intro _ _ v v' s Go uD sub EQ t₂ Q E q;obtain⟨x,rfl⟩:=Go;obtain⟨y,rfl⟩:=uD;refine abz sub EQ t₂ (by have:=ok.units;show A.units+1<9900;exact Dl this (by decide)) ?_;have e:qz false (.list (ww x)) (.list (ww y))=eZ false x y:=by unfold qz;dsimp only;rw[w_,w_]
  rw[e]at q;exact q
noncomputable def F3 (d ck:D):Bool:=match d,ck with| .int a,.int b=>decide (b<a)|_,_=>false
noncomputable def jf:Int→List Int→Int
 |b,[]=>b
 |b,d::r=>jf (if b<d then d else b) r
theorem A8 (b d r):jf b (d::r)=jf (if b<d then d else b) r:=rfl
theorem Wh (b):jf b []=b:=rfl
theorem Jy:∀b r,oF F3 (.int b) (r.map .int)= .int (jf b r)
 |b,[]=>rfl
 |b,d::r=>by
  rw[aJ,Ea,A8];have:F3 (.int d) (.int b)=decide (b<d):=rfl;refine U this ?_;by_cases h:b<d
  ·rw[ak h,ak (by simpa using h)];exact Jy _ r
  ·rw[Tk h,Tk (by simpa using h)];exact Jy _ r
theorem bZ.jf (hh:c.hd=false):bZ c k O Y (.builtin "max") [.list ((b::r).map .int)] (.int (jf b r)):=by
 intro A V s Z H ok rd t Q E g;refine wS (iF t) fun v s4 s5=>?_;subst s4;refine L4 (bt:=F3) (P:=fun d=>∃i,d= .int i) (ok.hand hh) rd.top rd.sub s5 (fun x hx=>?_) ?_ (by rw[Jy];exact g)
 ·rw[←aJ (f:=D.int)]at hx;refine wS (ao.mp hx) fun y J s4=>?_;subst s4;exact⟨y,rfl⟩
 ·intro _ _ v v' s Go uD sub EQ t₂ Q E q;obtain⟨x,rfl⟩:=Go;obtain⟨y,rfl⟩:=uD;refine EQ.i fun J=>?_;refine t₂.i fun J=>?_;show wpAny _ _ (compareOp .Gt _ _) _ _ _;exact gt_int q
end
end
noncomputable abbrev rH (es:Array (Int×Value)) (ep:Nat) (oZ:SetTable):Obj:={cls:=.type "set",dict:=none,data:=.set es ep oZ}
theorem LQ (h:Q 1 {s with toks:=s.toks+1}):wpAny (model prog w) A (pyHash (.bool true)) Q E s:=by
 have hT:s.TypeIs (.bool true) "bool" :=rfl;delta pyHash;have s5:[Value.bool true].any Value.onHeap=false:=rfl;refine u8 ?_;rw[cRoomFor,Tk (by refine U s5 ?_;exact oA)];refine On ?_;refine u8 (xm hT Cr.lookup ?_);show wpAny _ _ (if(some (Value.builtin "int.__hash__")==some Value.none)=true then _ else _) Q E s;refine U (Tk (by rw[beq_builtin_none];exact oA)) ?_;refine u8 (xm hT Cr.lookup ?_);show wpAny _ _ (callSpecialIfBoundUnlessNone? (.bool true) "__hash__" _>>=_) Q E s;refine u8 (wpAny_callSpecialIfBoundUnlessNone?_slot hT Cr
  (l5 Cr hT entry_int_hash
   (show wpAny _ _ (do ret (←mkInt (rawHash 1))) _ _ s from wpAny_ret_mkInt ?_) (args_int_hash _)))
 have hr:=rawHash_range 1;show wpAny _ _ (if(decide (-(2:Int)^63≤rawHash 1)&&decide (rawHash 1<2^63))=true then _ else _) Q E _;exact U (ak (by rw[vB hr.1,vB hr.2];rfl)) (On h)
noncomputable def U6 (cF:Bool):Array (Int×Value)×SetTable×Bool×Bool:=layNew (.fresh 0 0 cF) #[] 1 (.bool true)
noncomputable def eY (cF:Bool):SetTable:=(U6 cF).2.1
theorem ac2 (cF):layNew (.fresh 0 0 cF) #[] 1 (.bool true)=(#[(1,.bool true)],eY cF,false,false):=by cases cF<;>rfl
theorem Dm (cF):(eY cF).plain=true:=by cases cF<;>rfl
theorem CN (cF):((eY cF).place.size !=1||decide ((eY cF).fill>(eY cF).mask))=false:=by cases cF<;>rfl
theorem adZ (cF):(eY cF).tooFull=false:=by cases cF<;>rfl
theorem ade (ha:s.heap.get? a=some (rH #[] 0 (.fresh 0 0 cF)))
 (h:∀h',h'.get? a=some (rH #[(1,.bool true)] 1 (eY cF))→Heap.SameBut a s.heap h'→Q true {s with heap:=h',toks:=s.toks+1}):wpAny (model prog w) A (setAdd a (.bool true)) Q E s:=by
 delta setAdd;refine bW (u8 (LQ ?_));unfold setAddHashed setAddHashedIn;refine bW (u8 ?_);delta setState;refine u8 (kR ha ?_);dsimp only;refine U (Tk (by cases cF<;>decide)) ?_;refine On ?_;dsimp only;refine U (ak (by decide+kernel)) ?_;delta setAddByScan;refine u8 (u8 (pD ?_));refine u8 (qR (show setScan a (.bool true) 1 true #[]=pure .absent from rfl) ?_);dsimp only;rw[ac2];dsimp only;refine u8 (On ?_);refine U (ak (Dm cF)) ?_;refine u8 (qR (show hashByValue 8 (.bool true)=pure true from rfl) ?_);simp only[lH];delta storeSet;refine u8 (u8 (kR ha ?_));dsimp only;refine U (Tk (by refine U cQ ?_;decide)) ?_;refine wpAny_update ha ?_;have e:=kD (Obj.putSet #[(1,.bool true)] (eY cF)) ha rfl;refine U (Tk (by rw[adZ];decide)) ?_;refine On (On ?_);exact h _ e (mK ..)
theorem Zj (h:Q true s):wpAny (model prog w) A (eqBool (.bool true) (.bool true)) Q E s:=by
 delta eqBool;refine bW ?_;exact U (ak (by decide)) (u8 (pD (On h)))
theorem aep (ha:s.heap.get? a=some (rH #[(1,.bool true)] ep (eY cF)))
 (h:Q false {s with toks:=s.toks+1}):wpAny (model prog w) A (setAdd a (.bool true)) Q E s:=by
 delta setAdd;refine bW (u8 (LQ ?_));unfold setAddHashed setAddHashedIn;refine bW (u8 ?_);have st:∀{R:Array (Int×Value)×Nat×SetTable→Shared→Prop} {E:Value→Shared→Prop},R (#[(1,.bool true)],ep,eY cF) {s with toks:=s.toks+1}→wpAny (model prog w) A (setState a) R E {s with toks:=s.toks+1}:=fun hr=>by
  delta setState;refine u8 (kR ha ?_);dsimp only;exact U (Tk (by show¬(((eY cF).place.size !=1||decide ((eY cF).fill>(eY cF).mask))=true);rw[CN];decide)) (On hr)
 refine st ?_;dsimp only;refine U (ak (by decide+kernel)) ?_;delta setAddByScan;refine u8 (u8 (pD ?_));show wpAny _ _ (setScanFrom a (.bool true) 1 true [(1,.bool true)] 0>>=_) _ _ _;unfold setScanFrom;refine U (ak (by decide)) ?_;delta setEpoch;refine u8 (u8 (u8 (st (On ?_))));refine u8 (Zj ?_);exact On (On (On h))
theorem Qh (ha:s.heap.get? a=some o) (hc:o.cls= .type "set")
 (h:wpAny (model prog w) A.in1 (setAdd a x) (fun J s'=>Q .none s') E s):wpAny (model prog w) A (call (.builtin "set.add") [.ref a,x]) Q E s:=by
 have hT:s.TypeIs (.ref a) "set" :=⟨_,ha,hc⟩;refine l5 PySem.F.slot_set_add hT PySem.F.entry_set_add ?_ (PySem.F.args_set_add_2 _ _);delta Builtin.«set.add» Builtin.Frozenset.oneOther;simp only[List.isEmpty_nil,bind_assoc];delta Builtin.Frozenset.addrOf;refine u8 (On ?_)
 try dsimp only
 refine u8 (On ?_)
 try dsimp only
 refine u8 (dQ h (fun v s' s5=>On ⟨_,rfl,s5⟩) fun J J e=>e)
theorem V2:entryFor table "set.__iter__" =some Builtin.«frozenset.__iter__»:=
 entryFor_alias (id':="frozenset.__iter__") (by kernel_rfl) (by first|rfl|decide+kernel|(delta String.splitOn;simp+decide [String.splitOnAux])) (by decide+kernel) (by kernel_rfl)
theorem xW:Slot "set_iterator" "__next__" "set_iterator.__next__" :=
 .of (owner:="set_iterator") (n:="__next__") (by rw[nR,nW];kernel_rfl) (by decide+kernel) (by decide+kernel) (by decide+kernel)
  (by first|exact .inl (by decide+kernel)|exact .inr (by decide+kernel)) (by rw[lS];kernel_rfl)
theorem QM:entryFor table "set_iterator.__next__" =some Builtin.«set_iterator.__next__»:=yt (by kernel_rfl)
theorem LF (a):argsOk "set_iterator.__next__" ⟨[a],[]⟩:=by delta argsOk;kernel_rfl
noncomputable abbrev wB (i:Int) (f:Int) (a:Value) (n ep:Int):Obj:={cls:=.type "set_iterator",dict:=none,data:=.fields #[rawInt f,rawInt i,a,rawInt n,rawInt ep],slots:=#[]}
theorem WS (ha:s.heap.get? a=some (rH #[(1,.bool true)] ep (eY cF)))
 (h:Q (.ref s.heap.objs.size) {s with heap:=s.heap.push (wB 0 0 (.ref a) 1 ep)}):wpAny (model prog w) A (pyIter (.ref a)) Q E s:=by
 have hT:s.TypeIs (.ref a) "set" :=⟨_,ha,rfl⟩;refine Jq hT Gb (l5 Gb hT V2 ?_ (PySem.F.args_set_iter_1 _));have st:∀{M:Model} {A:Around} {R:Array (Int×Value)×Nat×SetTable→Shared→Prop} {E:Value→Shared→Prop},R (#[(1,.bool true)],ep,eY cF) s→wpAny M A (setState a) R E s:=fun hr=>by
  delta setState;refine u8 (kR ha ?_);dsimp only;exact U (Tk (by show¬(((eY cF).place.size !=1||decide ((eY cF).fill>(eY cF).mask))=true);rw[CN];decide)) (On hr)
 unfold Builtin.«frozenset.__iter__» Builtin.Frozenset.slot0;refine u8 (u8 (On (On ?_)));delta Builtin.Frozenset.sizeOf setEntries;refine u8 (u8 (u8 (st (On (On ?_)))));delta setDrawn setsByText;refine u8 (u8 (st ?_));dsimp only;refine u8 (u8 (pC (On ?_)));refine On ?_;refine U (Tk (by show¬((_&&(!(eY cF).plain&&_))=true);rw[Dm];simp)) ?_;refine u8 (On ?_);delta setEpoch;refine u8 (u8 (st (On ?_)));exact u8 (iL (On ⟨_,rfl,"set_iterator",_,⟨_,dN _ rfl,rfl⟩,xW.lookup,h⟩))
theorem Tf (ha:s.heap.get? a=some (rH #[(1,.bool true)] ep (eY cF))) (hit:s.heap.get? it=some (wB 0 0 (.ref a) 1 ep)) (a_:a≠it)
 (ye:cF= !(w.params.followText "set-order"))
 (h:∀h' f,h'.get? it=some (wB 1 f (.ref a) 1 ep)→Heap.SameBut it s.heap h'→(w.params.followText "set-order" =false→f=2)→Q (some (.bool true)) {s with heap:=h'}):wpAny (model prog w) A (pyNext (.ref it)) Q E s:=by
 have hT:s.TypeIs (.ref it) "set_iterator" :=⟨_,hit,rfl⟩;have st:∀{M:Model} {A:Around} {R:Array (Int×Value)×Nat×SetTable→Shared→Prop} {E:Value→Shared→Prop},R (#[(1,.bool true)],ep,eY cF) s→wpAny M A (setState a) R E s:=fun hr=>by
  delta setState;refine u8 (kR ha ?_);dsimp only;exact U (Tk (by show¬(((eY cF).place.size !=1||decide ((eY cF).fill>(eY cF).mask))=true);rw[CN];decide)) (On hr)
 delta pyNext;refine u8 (qK (rM (name:=Str.ofString "__next__") hT xW
  (l5 xW hT QM ?_ (LF _))))
 delta Builtin.«set_iterator.__next__»;refine u8 (On ?_);show wpAny _ _ (fieldsOf (.ref it)>>=_) _ _ _;delta fieldsOf;refine u8 (u8 (kR hit (On ?_)));dsimp only[rawInt];delta setEntries;refine u8 (u8 (st (On ?_)));refine U (Tk (by show¬((((1:Nat):Int) !=1)=true);decide)) ?_;delta setNext;refine u8 (u8 (st ?_));delta setsByText;refine u8 (u8 (pC (On ?_)));have e1:(((ep:Int)).toNat)=ep:=qQ ep;have fin:∀next:Nat,(w.params.followText "set-order" =false→next=2)→wpAny (model prog w) A.in1 (do setField (.ref it) 0 (.int next 0);setField (.ref it) 1 (.int (0+1) 0);ret (.bool true)) (fun fin s'=>∃v,fin=PySem.Fin.done (Flow.ret v)∧wpAny (model prog w) A (pure (some v)) Q E s') (fun e s'=>
  wpAny (model prog w) A
   (do
    let UT←isInstance e (Value.type "StopIteration")
    if UT=true then pure none else throw e)
   Q E s') s:=by
  intro next aaU;refine u8 (rO hit (by simp) fun h₁ pJ iA=>?_);refine u8 (rO pJ (by simp) fun h₂ Ar r4=>?_);refine On ⟨_,rfl,On (h h₂ next Ar ⟨r4.1.trans iA.1,fun b hb=>(r4.2 b hb).trans (iA.2 b hb)⟩ fun q=>by refine U (aaU q) ?_;rfl)⟩
 induction hb:w.params.followText "set-order" with
 |true=>
  refine U (ak (show({program:=(model prog w).prog,params:=(model prog w).w.params}:Setting).params.followText "set-order" =true from hb)) (U e1 ?_);dsimp only;refine U (Tk (by simp)) ?_;delta setWalk;refine u8 (u8 (st ?_));delta setsByText;refine u8 (u8 (pC (On ?_)));refine U (ak (show({program:=(model prog w).prog,params:=(model prog w).w.params}:Setting).params.followText "set-order" =true from hb)) ?_;refine u8 (pC (On ?_));refine On ?_;have GV:∀f:Nat→Nat,pickOrder f #[((1:Int),Value.bool true)]=#[((1:Int),Value.bool true)]:=fun f=>by
   delta pickOrder;simp[pickOrder.go,Nat.mod_one]
  dsimp only;rw[GV];exact fin 0 fun q=>by rw[hb]at q;injection q
 |false=>
  rw[hb]at ye;have hl:cF=true:=ye;subst hl;refine U (Tk (show¬(({program:=(model prog w).prog,params:=(model prog w).w.params}:Setting).params.followText "set-order" =true)from fun q=>by have q':w.params.followText "set-order" =true:=q;rw[hb]at q';injection q')) ?_;dsimp only;refine U (Tk (by show¬((!(eY true).plain&&_)=true);rw[Dm];simp)) ?_;refine u8 (On ?_);exact On (fin 2 fun J=>rfl)
theorem YZ (hh:A.handled=none) (ha:s.heap.get? a=some (rH #[(1,.bool true)] ep (eY cF))) (hit:s.heap.get? it=some (wB 1 f (.ref a) 1 ep)) (a_:a≠it)
 (ye:cF= !(w.params.followText "set-order")) (hf:w.params.followText "set-order" =false→f=2)
 (h:∀h',Heap.ExtBut it s.heap h'→s.heap.objs.size≤h'.objs.size→Q none {s with heap:=h'}):wpAny (model prog w) A (pyNext (.ref it)) Q E s:=by
 have hT:s.TypeIs (.ref it) "set_iterator" :=⟨_,hit,rfl⟩;have st:∀{M:Model} {A:Around} {R:Array (Int×Value)×Nat×SetTable→Shared→Prop} {E:Value→Shared→Prop},R (#[(1,.bool true)],ep,eY cF) s→wpAny M A (setState a) R E s:=fun hr=>by
  delta setState;refine u8 (kR ha ?_);dsimp only;exact U (Tk (by show¬(((eY cF).place.size !=1||decide ((eY cF).fill>(eY cF).mask))=true);rw[CN];decide)) (On hr)
 refine g9 ?_;delta pyNext;refine u8 (qK (rM (name:=Str.ofString "__next__") hT xW
  (l5 xW hT QM ?_ (LF _))))
 delta Builtin.«set_iterator.__next__»;refine u8 (On ?_);show wpAny _ _ (fieldsOf (.ref it)>>=_) _ _ _;delta fieldsOf;refine u8 (u8 (kR hit (On ?_)));dsimp only[rawInt];delta setEntries;refine u8 (u8 (st (On ?_)));refine U (Tk (by show¬((((1:Nat):Int) !=1)=true);decide)) ?_;have e1:(((ep:Int)).toNat)=ep:=qQ ep;refine u8 (dQ (Q:=fun r s'=>r=none∧s'=s) (E:=fun J J=>False) ?_ (fun r s' hr=>?_) fun J J x=>x.elim)
 ·delta setNext;refine u8 (st ?_);delta setsByText;refine u8 (u8 (pC (On ?_)))
  induction hb:w.params.followText "set-order" with
  |true=>
   refine U (ak (show({program:=(model prog w).prog,params:=(model prog w).w.params}:Setting).params.followText "set-order" =true from hb)) (U e1 ?_);dsimp only;refine U (Tk (by simp)) ?_;delta setWalk;refine u8 (u8 (st ?_));delta setsByText;refine u8 (u8 (pC (On ?_)));refine U (ak (show({program:=(model prog w).prog,params:=(model prog w).w.params}:Setting).params.followText "set-order" =true from hb)) ?_;refine u8 (pC (On ?_));have GV:∀f:Nat→Nat,pickOrder f #[((1:Int),Value.bool true)]=#[((1:Int),Value.bool true)]:=fun f=>by
    delta pickOrder;simp[pickOrder.go,Nat.mod_one]
   dsimp only;rw[GV];exact On ⟨rfl,rfl⟩
  |false=>
   rw[hb]at ye;have hl:cF=true:=ye;subst hl;have hf2:=hf hb;subst hf2;refine U (Tk (show¬(({program:=(model prog w).prog,params:=(model prog w).w.params}:Setting).params.followText "set-order" =true)from fun q=>by have q':w.params.followText "set-order" =true:=q;rw[hb]at q';injection q')) ?_;dsimp only;refine U (Tk (by show¬((!(eY true).plain&&_)=true);rw[Dm];simp)) ?_;refine u8 (On ?_);exact On ⟨rfl,rfl⟩
 ·refine Op hr fun s4 eg=>?_;subst s4 eg;refine u8 (rO hit (by simp) fun h₁ pJ iA=>?_);show wpAny _ _ (newExc (.type "StopIteration") []>>=_) _ _ _;refine u8 ?_;simp only[newExc,newTuple];refine u8 (iL ?_ (by size_fits));refine u8 (m:=firstArgMember _ _) (qR (a:=Value.none) (by first|rfl|(simp only[firstArgMember];rfl)) ?_);refine iL ?_ (by size_fits);delta raiseNew;refine u8 (wpAny_handled ?_);refine U (show A.in1.handled=none from hh) ?_;refine u8 (On (wpAny_throw ?_));refine u8 (Il (T:="StopIteration") (b:=true) ⟨_,dN _ rfl,rfl⟩ isSubtype_stop ?_);exact On fun u=>h _ ((iA.extBut.push _).push _) u.size
section
section
variable {c:ah} {k:Nat} {O:XV} {Y:B}
noncomputable abbrev LZ (c:ah):Bool:=!(c.w.params.followText "set-order")
noncomputable abbrev Bh (c:ah):Obj:=rH #[] 0 (.fresh 0 0 (LZ c))
noncomputable abbrev qj (c:ah) (ep:Nat):Obj:=rH #[(1,.bool true)] ep (eY (LZ c))
theorem Zz (A) (s) (Q E) (h:∀o,o.isFreed=false→(∀Z,eN c Z o (.raw (Bh c)))→Q (.ref s.heap.objs.size) {s with heap:=s.heap.push o}):wpAny c.M A (newSet (.type "set")) Q E s:=by
 delta newSet setsByText;refine u8 (u8 (pC (On ?_)));exact iL (h _ rfl fun Z=>⟨rfl,by simp⟩)
theorem o_.abT (he:f8 c k O Y elt (.val (.bool true))):o_ c k O Y (fun wP V=>do let v←eval elt V;standAt elt.pos;let _←call (.builtin "set.add") [wP,v]) (.raw (Bh c)) (.raw (qj c 1)):=by
 intro A V s Z wP q9 ok r mo ha Q E q;refine u8 (he A V s Z ok r _ E fun v s₁ aC EQ s5=>?_);refine s5.v ?_;have aq:=EQ.p9 mo;refine Op (aq.cells wP _ ha) fun aG K=>?_;refine aS aG fun o xz s4 K=>?_;subst s4;refine u8 (f6 ?_);refine u8 (Qh xz rfl (ade xz fun h' bG av=>On ?_));exact q _ aC (aq.trans (aN.put (t:=s₁.toks+1) aq.cells EQ.top EQ.sub (by refine U ha ?_;simp) av bG (fun H=>by simp) ⟨rfl,by simp⟩ (b7 _)))
theorem o_.acs (he:f8 c k O Y elt (.val (.bool true))):o_ c k O Y (fun wP V=>do let v←eval elt V;standAt elt.pos;let _←call (.builtin "set.add") [wP,v]) (.raw (qj c ep)) (.raw (qj c ep)):=by
 intro A V s Z wP q9 ok r mo ha Q E q;refine u8 (he A V s Z ok r _ E fun v s₁ aC EQ s5=>?_);refine s5.v ?_;have aq:=EQ.p9 mo;refine Op (aq.cells wP _ ha) fun aG K=>?_;refine aS aG fun o xz s4 K=>?_;subst s4;refine u8 (f6 ?_);refine u8 (Qh xz rfl (aep xz (On ?_)));refine q _ aC (aq.trans (aN.put (t:=s₁.toks+1) (h':=s₁.heap) aq.cells EQ.top EQ.sub (by refine U ha ?_;simp) ⟨rfl,fun b K=>rfl⟩ xz (fun H=>by simp) ⟨rfl,by simp⟩ (b7 _)))
variable {J:TW→List D→Addr→Objs→Prop} {Src:B→Prop} {elt bk iter:Expr} {sc:Scope} {pos:Pos} {items:List D} {ts:List (Str×cZ)} {caps:List (Str×D)} {gs:List (Str×Value)}
theorem ac1 (hh:c.hd=false) (c7:jT c J Src) (hs:∀x,foldedSetIterable iter V x=pure x)
 (hok:nE sc ts (caps.map Prod.fst) (gs.map Prod.fst)=true) (fL:∀x∈caps,∃kd,(kd=cZ.aL∨kd= .gn)∧(⟨x.1,kd,some x.2⟩:iu)∈O) (gp:∀x∈gs,gv c.H0 x.1 x.2)
 (hi:bA c k O Y iter J items) (fO:Src Y) (a_:items≠[])
 (turn:∀d∈items,∀os,os.length=ts.length→∀I,bh c (gy ts os caps gs) I bk d fun dF=>(∃bq,bq.length=ts.length∧dF=gy ts bq caps gs)∧f8 c k dF Y elt (.val (.bool true)))
 (ok:Ok c k A s) (r:bz c Z s.heap V O Y)
 (q:∀wP L s' Z',CompEnd c s Z s' Z' wP L (.raw (qj c 1))→CompPost c.M A none Q E (.ref wP) L s'):
 wpAny c.M A (comprehension (.SetComp elt [⟨bk,iter,[],0⟩] sc pos) sc V (firstIterPos [⟨bk,iter,[],0⟩] pos) (newSet (.type "set")) false (eval iter V) none) Q E s:=by
 refine Hv hh c7 (emit:=fun wP V=>do let v←eval elt V;standAt elt.pos;let _←call (.builtin "set.add") [wP,v]) (t8:=.raw (Bh c)) rfl hs (fun K K K=>rfl) (fun K K K K=>rfl) (fun K K K K=>rfl) (fun K K K K=>rfl) (fun K K K K=>rfl) hok fL gp Zz hi fO
  (fun aD NE cl=>∃pre os,items=pre++aD∧os.length=ts.length∧NE=gy ts os caps gs∧((pre=[]∧cl= .raw (Bh c))∨(pre≠[]∧cl= .raw (qj c 1)))) ⟨[],kh ts,rfl,by simp[kh],rfl,.inl ⟨rfl,rfl⟩⟩ ?_ ok r ?_
 ·intro d rest NE cl Go I;refine jJ Go fun pre os hp xz s4 ez=>?_;subst s4;intro A V s bs Z v ue w FS Q E q;refine turn d (by refine U hp ?_;simp) os xz I A V s bs Z v ue w FS Q E fun dF s' Z' run cP ⟨⟨bq,bG,e⟩,h2⟩=>q dF s' Z' run cP ⟨true,eK.nil,fun x=>(by injection x),fun K=>?_⟩;refine⟨.raw (qj c 1),?_,pre++[d],bq,by refine U hp ?_;simp,bG,e,.inr ⟨by simp,rfl⟩⟩;rcases ez with⟨_,rfl⟩|⟨_,rfl⟩
  ·exact .abT h2
  ·exact .acs h2
 ·intro wP L cl s' Z' Go ce;refine uh Go fun NE pre os hp xz s4 ez=>?_;subst s4;rcases ez with⟨rfl,_⟩|⟨_,rfl⟩
  ·exact absurd hp a_
  ·exact q wP L s' Z' ce
end
end
section
section
variable {c:ah} {k:Nat} {O:XV} {Y:B}
theorem ack (hh:A.handled=none) (ha:s.heap.get? a=some (qj c 1))
 (q:∀h',(∀b o,s.heap.get? b=some o→h'.get? b=some o)→s.heap.objs.size≤h'.objs.size→Q [.bool true] {s with heap:=h'}):wpAny c.M A (unpackItems (.ref a) 1 none) Q E s:=by
 have hT:s.TypeIs (.ref a) "set" :=⟨_,ha,rfl⟩;unfold unpackItems;unfold notIterableAtAll;refine u8 (u8 (xm hT Gb.lookup (On ?_)));dsimp only;refine u8 (bW (WS ha ?_));have Ob:(s.heap.push (wB 0 0 (.ref a) 1 (1:Nat))).get? a=some (qj c 1):=bX _ ha;have a_:a≠s.heap.objs.size:=fm (cE ha);refine u8 (bW (u8 (Tf Ob (dN _ rfl) a_ rfl fun h₁ f hit av hf=>?_)));dsimp only;refine u8 (bW (On (On ?_)));refine U (Tk (by decide)) ?_;have adP:h₁.get? a=some (qj c 1):=av.extBut a _ a_ Ob;refine u8 (bW (YZ (s:={s with heap:=h₁}) hh adP hit a_ rfl hf fun h₂ hk hs=>?_));refine U (Tk (by decide)) ?_;refine On (q h₂ (fun b o e=>hk b o (fm (cE e)) (av.extBut b o (fm (cE e)) (bX _ e))) ?_);have e1:(s.heap.push (wB 0 0 (.ref a) 1 (1:Nat))).objs.size=s.heap.objs.size+1:=eS ..;exact Ev (b7 _) (Ev (bT (e1.symm.trans av.1.symm)) hs)
variable {J:TW→List D→Addr→Objs→Prop} {Src:B→Prop} {elt bk iter:Expr} {sc:Scope} {items:List D} {ts:List (Str×cZ)} {caps:List (Str×D)} {gs:List (Str×Value)} {Sc:fy→Prop}
theorem FM.W5 (hh:c.hd=false) (c7:jT c J Src) (hs:∀V x,foldedSetIterable iter V x=pure x)
 (hok:nE sc ts (caps.map Prod.fst) (gs.map Prod.fst)=true) (fL:∀x∈caps,∃kd,(kd=cZ.aL∨kd= .gn)∧(⟨x.1,kd,some x.2⟩:iu)∈O) (gp:∀x∈gs,gv c.H0 x.1 x.2)
 (hi:bA c k O Y iter J items) (fO:Src Y) (a_:items≠[])
 (turn:∀d∈items,∀os,os.length=ts.length→∀I,bh c (gy ts os caps gs) I bk d fun dF=>(∃bq,bq.length=ts.length∧dF=gy ts bq caps gs)∧f8 c k dF Y elt (.val (.bool true)))
 (eV:dU n (.val (.bool true)) O NE) (h:Sc (.next NE Y))
 (Jk:∀V,swapsWithSole [.Tuple [.Name n p] m c6] (.SetComp elt [⟨bk,iter,[],0⟩] sc pos') pos.line V=pure false:=by intros;rfl)
 (T_:∀V,swappedStores [.Tuple [.Name n p] m c6] (.SetComp elt [⟨bk,iter,[],0⟩] sc pos') V=pure none:=by intros;rfl):FM c k O Y (.Assign [.Tuple [.Name n p] m c6] (.SetComp elt [⟨bk,iter,[],0⟩] sc pos') pos) Sc:=by
 intro A V s bs Z ok w Q E q;have hand:=ok.hand hh;refine Assign_Tuple ?_ (Jk V) (T_ V);show wpAny c.M A (comprehension (.SetComp elt [⟨bk,iter,[],0⟩] sc pos') sc V (firstIterPos [⟨bk,iter,[],0⟩] pos') (newSet (.type "set")) false (eval iter V) none) _ E s;refine ac1 hh c7 (hs V) hok fL gp hi fO a_ turn ok w.rd fun wP L s₁ aC ce=>?_;refine aO (ce.ns) fun m' M2=>?_;refine⟨m',M2,fun h' afQ gM av=>?_⟩;have pN:=ce.last w.rd.top gM av;refine aS (pN.obj) fun o xz s4 jP=>?_;subst s4;have st:=pN.step;show wpAny c.M A (PySem.assign (.Tuple [.Name n p] m c6) V (.ref wP)) (fun K=>Q .next) E {s₁ with heap:=h'};rw[arm_assign_Tuple];refine u8 (f6 ?_);show wpAny c.M A (holding [.ref wP] (unpackItems (.ref wP) 1 none)>>=fun H=>assignInOrder [PySem.assign (.Name n p) V] H) _ E _;refine u8 (bW (ack hand xz fun h₂ hk r4=>?_));have qW:=st.trans (Step.keep (t:=s₁.toks) st.top st.sub hk r4 (aH _));have w₂:=w.step qW;refine Cd (w6 (nk w₂ eV (.val _) fun aF af w₃=>assignInOrder_nil ?_));exact q (.next NE Y) .next aF aC ((qW.run Y).trans ⟨af,.refl _,fun K K h=>.inl h,fun K h=>.inl h⟩) w₃ .next h
end
end
section
section
variable {c:ah} {k:Nat} {O:XV} {Y:B} {Sc:fy→Prop}
theorem FM.D8 (hb:wE c k O Y body Sc):FM c k O Y (.Try body (h₀::hs) [] [] pos) Sc:=by
 intro A V s bs Z ok w Q E q;refine wpAny_Try_except (hb A V s bs Z ok w _ _ fun o f s' Z' r cP dz hp=>?_)
 induction dz with
 |next=>exact wpAny_execs_nil (q _ _ s' Z' r cP .next hp)
 |brk=>exact q _ _ s' Z' r cP .brk hp
 |cont=>exact q _ _ s' Z' r cP .cont hp
 |ret t=>exact q _ _ s' Z' r cP (.ret t) hp
theorem di.tup (hz:l.length≤1000000):di c k O Y (.tup l) (!l.isEmpty):=by
 intro A V s Z v ok r h Q E g;refine h.t fun{a H n} vq FS=>?_;have e:(!H.isEmpty)=(!l.isEmpty):=by
  have h1:=FS.length;rcases H with⟨H⟩;cases H<;>cases l<;>simp_all
 refine truthy_tuple ⟨_,r.sub.get vq,rfl,_,rfl⟩ (by refine ZB gB (U FS.length ?_);exact pn ‹_›) ?_;exact U e (g _ Z ((Step.refl r.top r.sub).toks (bV _ 2)))
end
end
noncomputable def BK (y:Str):Bool:=y.length !=0&&y !=ow
noncomputable def gb (p:Str):List Str:=(c9 p).filter BK
noncomputable def jH:List Str→List Str→List Str
 |x::xs,y::ys=>if x !=y then []else x::jH xs ys
 |_,_=>[]
theorem vR (x xs y ys):jH (x::xs) (y::ys)=if x !=y then []else x::jH xs ys:=rfl
theorem XH (y):jH [] y=[]:=rfl
theorem Tv (x xs):jH (x::xs) []=[]:=rfl
theorem JO:∀xs ys:List Str,(jH xs ys).length≤xs.length
 |[],_=>e_ _
 |_::_,[]=>e_ _
 |x::xs,y::ys=>by
  rw[vR];split
  ·exact e_ _
  ·have:=JO xs ys;simp;assumption
theorem QV:∀xs ys:List Str,∀z∈jH xs ys,z∈xs
 |[],_,_,h=>by cases h
 |_::_,[],_,h=>by cases h
 |x::xs,y::ys,z,h=>by
  rw[vR]at h;split at h
  ·cases h
  ·refine bC h ?_ fun h=>?_
   ·exact .head _
   ·exact .tail _ (QV xs ys z h)
noncomputable def lA (p:Str) (ps:List Str):List Str:=nT false (gb p) (ps.map gb)
noncomputable def lB (p:Str) (ps:List Str):List Str:=nT true (gb p) (ps.map gb)
noncomputable def jN (p:Str) (ps:List Str):Str:=aP++Txt.join aP (jH (lA p ps) (lB p ps))
theorem FE (gt):∀(b) (r:List (List Str)),nT gt b r∈b::r
 |b,[]=>.head _
 |b,d::r=>by
  rw[By];rcases aY.mp (FE gt (if eZ gt d b then d else b) r)with h|h
  ·refine U h ?_;cases eZ gt d b
   ·exact .head _
   ·exact .tail _ (.head _)
  ·exact .tail _ (.tail _ h)
inductive Ko (s1 s2:List Str) (zO zd:D) (aD:List D) (O:XV) (Y:B):Prop
 |mk (i:Nat) (bR bM:Option D):(aD=zN i (ww (s1.drop i)))→(i≤s1.length)→(Y=B.no)→(s1.take i=s2.take i)→(jH s1 s2=s1.take i++jH (s1.drop i) (s2.drop i))→(O=[⟨"paths",.loc,some zO⟩,⟨"sep",.aL,some (.str aP)⟩,⟨"curdir",.aL,some (.str ow)⟩,⟨"split_paths",.loc,some zd⟩,⟨"isabs",.loc,some (.val (.bool true))⟩,⟨"c",.loc,bR⟩,⟨"s1",.loc,some (.list (ww s1))⟩,⟨"s2",.loc,some (.list (ww s2))⟩,⟨"common",.loc,some (.list (ww s1))⟩,⟨"i",.loc,bM⟩,⟨"prefix",.loc,none⟩,⟨"tuple",.bw,some (.val (.type "tuple"))⟩,⟨"map",.bw,some (.val (.type "map"))⟩,⟨"fspath",.bw,some (.val (.ref 214))⟩,⟨"isinstance",.bw,some (.val (.builtin "isinstance"))⟩,⟨"bytes",.bw,some (.val (.type "bytes"))⟩,⟨"min",.bw,some (.val (.builtin "min"))⟩,⟨"max",.bw,some (.val (.builtin "max"))⟩,⟨"enumerate",.bw,some (.val (.type "enumerate"))⟩])→Ko s1 s2 zO zd aD O Y
theorem Vx (t:aT c) (M2:ps.length≤10) (hb:∀q∈p::ps,q.length≤1000∧(c9 q).length≤300∧(∀y∈c9 q,y.length≤1000)∧Txt.startswith q aP=true)
 (hx:∀i,i<(lA p ps).length→(lA p ps).take i=(lB p ps).take i→i<(lB p ps).length):
 wE c (k+2) (vars [("paths",.loc)] [.list (ww (p::ps))] [("sep",.aL),("curdir",.aL),("split_paths",.loc),("isabs",.loc),("c",.loc),("s1",.loc),("s2",.loc),("common",.loc),("i",.loc),("prefix",.loc)] [("tuple",.type "tuple"),("map",.type "map"),("fspath",.ref 214),("isinstance",.builtin "isinstance"),("bytes",.type "bytes"),("min",.builtin "min"),("max",.builtin "max"),("enumerate",.type "enumerate")]) B.no (gJ (bF 21)) (pL (.str (jN p ps))):=by
 kst_p
 have hh:=t.hd;have ja:aP.length=1:=by decide+kernel
 have gg:(ww (p::ps)).length=(p::ps).length:=by simp[ww]
 refine wE.cons (FM.assign (d:=.tup (ww (p::ps))) ?_ (by kd_in) ?_)
 ·have e:ww (p::ps)=(ww (p::ps)).map id:=by simp
  refine U (show D.tup (ww (p::ps))= .tup ((ww (p::ps)).map id)from by rw[←e]) ?_;refine f8.SO hh (by kd_p) (by kd_p) (by kd_p) (by kd_p) (by refine U gg ?_;simp;exact Ev M2 (by decide)) fun d hd=>?_;refine wS (ao.mp hd) fun q Ch s4=>?_;subst s4;exact QC t
 refine wE.cons (FM.ifs (b:=false) ((az.not (az.plain (by kd_p) (di.tup (by refine U gg ?_;simp;exact Ev M2 (by decide))))).to rfl) (fun h=>(by injection h)) fun J=>wE.nil ?_);refine wE.cons (FM.ifs (b:=false) (Im (x:=p) (by kd_p) (f8.sub (by kd_p) f8.int (Rs.u6 (by decide) rfl (by refine U gg ?_;simp;exact Ev M2 (by decide)))) (by kd_p)) (fun h=>(by injection h)) fun J=>?_);refine wE.cons (FM.assign (d:=.str aP) (by kd_p) (by kd_in) ?_);refine wE.cons (FM.assign (d:=.str ow) (by kd_p) (by kd_in) ?_);refine wE.nil ?_;refine wE.cons (FM.D8 ?_);refine wE.cons (FM.nV hh vU (caps:=[("sep",.str aP)]) (gs:=[]) (ts:=[("path",.loc)]) (out:=(p::ps).map fun q=>.list (ww (c9 q))) (by intros;rfl) (by dsimp only[List.map];decide+kernel) ?_ cG (bA.tup (l:=ww (p::ps)) (by kd_p)) trivial ?_ (by kd_in) ?_)
 ·intro y No;refine bC No ?_ fun No=>?_
  ·exact⟨.aL,.inl rfl,by walk_at "v"⟩
  ·cases No
 ·have e:(p::ps).map (fun q=>D.list (ww (c9 q)))=((p::ps).filter fun J=>true).map (fun q=>.list (ww (c9 q))):=by exact U (kW.mpr (by simp)) rfl
  refine U e ?_;exact dO.one (xs:=p::ps) (P:=fun J=>true) (F:=fun q=>.list (ww (c9 q))) .str (by simp;exact Ev M2 (by decide)) fun q Ch=>by
   kst_p
   exact⟨eK.nil,fun J=>f8.split (by kd_p) (by kd_p) (by kd_p) (Ev (hb q Ch).1 (by decide))⟩
 refine wE.cons (FM.D8 ?_);refine wE.cons (FM.W5 hh vU (caps:=[("sep",.str aP)]) (gs:=[]) (ts:=[("p",.loc)]) (by intros;rfl) (by dsimp only[List.map];decide+kernel) ?_ cG (bA.tup (l:=ww (p::ps)) (by kd_p)) trivial (by simp[ww]) ?_ (by kd_in) ?_)
 ·intro y No;refine bC No ?_ fun No=>?_
  ·exact⟨.aL,.inl rfl,by walk_at "v"⟩
  ·cases No
 ·intro d hd os oU I;refine wS (ao.mp hd) fun q Ch s4=>?_;subst s4
  match os,oU with
  |[o],_=>
   refine bh.name (dU.head (.inl rfl)) ⟨⟨[some (.str q)],rfl,rfl⟩,?_⟩;show f8 c _ [⟨"p",.loc,some (.str q)⟩,⟨"sep",.gn,some (.str aP)⟩] _ _ _;exact ZB ((hb q Ch).2.2.2) (f8.startswith (by kd_p) (by kd_p))
 refine wE.nil ?_;have Rn:∀q∈p::ps,(gb q).length≤300∧∀y∈gb q,y.length≤1000:=fun q Ch=>⟨Ev (ir _ _) (hb q Ch).2.1,fun y No=>(hb q Ch).2.2.1 y (cB.mp No).1⟩;refine wE.cons (FM.nV hh gG (caps:=[("curdir",.str ow)]) (gs:=[]) (ts:=[("s",.loc)]) (out:=(p::ps).map fun q=>.list (ww (gb q))) (by intros;rfl) (by dsimp only[List.map];decide+kernel) ?_ cG (bA.list (l:=(p::ps).map fun q=>.list (ww (c9 q))) (by kd_p)) trivial ?_ (by kd_in) ?_)
 ·intro y No;refine bC No ?_ fun No=>?_
  ·exact⟨.aL,.inl rfl,by walk_at "v"⟩
  ·cases No
 ·have e:(p::ps).map (fun q=>D.list (ww (gb q)))=((p::ps).filter fun J=>true).map (fun q=>.list (ww (gb q))):=by exact U (kW.mpr (by simp)) rfl
  refine U e ?_;refine dO.one (xs:=p::ps) (P:=fun J=>true) (F:=fun q=>.list (ww (gb q))) (fun q=>.list (ww (c9 q))) (by simp;exact Ev M2 (by decide)) fun q Ch=>?_
  kst_p
  refine⟨eK.nil,fun J=>?_⟩;refine f8.l_ hh gG (caps:=[("curdir",.str ow)]) (gs:=[]) (ts:=[("c",.loc)]) (out:=ww (gb q)) (by intros;rfl) (by dsimp only[List.map];decide+kernel) ?_ cG (bA.list (l:=ww (c9 q)) (by kd_p)) trivial ?_
  ·intro y No;refine bC No ?_ fun No=>?_
   ·exact⟨.gn,.inr rfl,by walk_at "v"⟩
   ·cases No
  ·refine dO.one (xs:=c9 q) (P:=BK) (F:=.str) .str (Ev (hb q Ch).2.1 (by decide)) fun y No=>?_
   kst_p
   refine⟨eK.one ?_,fun J=>by kd_p⟩;have hyl:=(hb q Ch).2.2.1 y No;unfold BK;exact ZB (vM (y !=ow)) (az.xO (az.plain (by kd_p) (di.str (by kd_p))) fun J=>az.xO (az.cmp (by kd_p) (by kd_p) Rs.pU) fun J=>az.Lv)
 have R5:((p::ps).map fun q=>D.list (ww (gb q)))=((gb p::ps.map gb).map fun x=>D.list (ww x)):=by simp[cJ]
 refine U R5 ?_;refine wE.cons (FM.assign (d:=.list (ww (lA p ps))) (f8.call (by kd_p) r_ (.cons (by kd_p) .nil (by kd_p)) (bZ.ad4 hh) (by kd_p)) (by kd_in) ?_);refine wE.cons (FM.assign (d:=.list (ww (lB p ps))) (f8.call (by kd_p) r_ (.cons (by kd_p) .nil (by kd_p)) (bZ.aeh hh) (by kd_p)) (by kd_in) ?_);have uU:∃q∈p::ps,lA p ps=gb q:=by
  have:=FE false (gb p) (ps.map gb);rw[←aJ]at this;refine wS (ao.mp this) fun q Ch e=>?_;exact⟨q,Ch,e.symm⟩
 have CL:∃q∈p::ps,lB p ps=gb q:=by
  have:=FE true (gb p) (ps.map gb);rw[←aJ]at this;refine wS (ao.mp this) fun q Ch e=>?_;exact⟨q,Ch,e.symm⟩
 have l1:(lA p ps).length≤300∧∀y∈lA p ps,y.length≤1000:=by refine wS uU fun q Ch e=>?_;refine U e ?_;exact Rn q Ch
 have l2:(lB p ps).length≤300∧∀y∈lB p ps,y.length≤1000:=by refine wS CL fun q Ch e=>?_;refine U e ?_;exact Rn q Ch
 have wN:jN p ps=aP++Txt.join aP (jH (lA p ps) (lB p ps)):=rfl;generalize lA p ps=s1 at hx l1 wN;generalize lB p ps=s2 at hx l2 wN;refine U wN ?_;clear uU CL wN;have o8:(ww s1).length=s1.length:=by simp[ww]
 have mS:(ww s2).length=s2.length:=by simp[ww]
 refine wE.cons (FM.assign (d:=.list (ww s1)) (by kd_p) (by kd_in) ?_);generalize I6:D.list ((gb p::ps.map gb).map fun x=>D.list (ww x))=zd;generalize Qs:D.tup (ww (p::ps))=zO;refine wE.cons (FM.RD hh SD (items:=zN 0 (ww s1)) (bA.enum (by kd_p) (by kd_p)) (Ko s1 s2 zO zd)
  (fun O Y=>∃(bR bM:Option D),Y=B.no∧
   O=[⟨"paths",.loc,some zO⟩,⟨"sep",.aL,some (.str aP)⟩,⟨"curdir",.aL,some (.str ow)⟩,⟨"split_paths",.loc,some zd⟩,⟨"isabs",.loc,some (.val (.bool true))⟩,⟨"c",.loc,bR⟩,⟨"s1",.loc,some (.list (ww s1))⟩,⟨"s2",.loc,some (.list (ww s2))⟩,⟨"common",.loc,some (.list (ww (jH s1 s2)))⟩,⟨"i",.loc,bM⟩,⟨"prefix",.loc,none⟩,⟨"tuple",.bw,some (.val (.type "tuple"))⟩,⟨"map",.bw,some (.val (.type "map"))⟩,⟨"fspath",.bw,some (.val (.ref 214))⟩,⟨"isinstance",.bw,some (.val (.builtin "isinstance"))⟩,⟨"bytes",.bw,some (.val (.type "bytes"))⟩,⟨"min",.bw,some (.val (.builtin "min"))⟩,⟨"max",.bw,some (.val (.builtin "max"))⟩,⟨"enumerate",.bw,some (.val (.type "enumerate"))⟩])
  ⟨0,none,none,by simp,e_ _,rfl,by simp,by simp,rfl⟩ (fun J J J J=>trivial) ?_ ?_ ?_)
 ·intro d rest NE I Go;obtain⟨i,bR,bM,hr,hi,rfl,htk,hl,rfl⟩:=Go;rcases mE:s1.drop i with _|⟨x,xs⟩
  ·rw[mE]at hr;injection hr
  rw[mE]at hr;obtain⟨rfl,rfl⟩:=jd hr;have bJ:i<s1.length:=by
   rcases vW i s1.length with h|h
   ·exact h
   ·rw[Fb h]at mE;injection mE
  have CA:=hx i bJ htk;have RM:s1[i]?=some x:=by rw[←Cg,mE];rfl
  have Mx:s2[i]?=some (s2[i]):=fV CA;have N2:s2.drop i=s2[i]::s2.drop (i+1):=sy _;have BV:xs=s1.drop (i+1):=by refine ZB Dw (U mE ?_);rfl
  refine bh.tuple (bh.name (by kd_in) (bh.name (by kd_in) ?_));dsimp only[rz];refine wE.cons (FM.ifs (b:=x !=s2[i]) (az.cmp (by kd_p) (f8.sub (d₂:=.int (i:Nat)) (by kd_p) (by kd_p) (Rs.item aK.list (kr _) (d:=.str s2[i]) ?_ (jX mS l2.1 (by decide)))) Rs.pU) (fun a_=>?_) fun heq=>wE.nil ?_)
  ·simp[ww,Mx]
  ·refine wE.cons (FM.assign (d:=.list (lD (ww s1) none (some (i:Nat)) none)) (f8.slice (by kd_p) aK.list .none (.some (by kd_p)) .none (by simp) (jX o8 l1.1 (by decide))) (by kd_in) ?_);refine wE.cons (FM.brk ?_);have:lD (ww s1) none (some (i:Nat)) none=ww (jH s1 s2):=by
    rw[LD (fz (k7 bJ o8.symm)),hl,mE,N2,vR,ak a_,fQ];simp[ww]
   exact U this (pS _ _ rfl rfl)
  ·refine wE.nil ?_;have aaf:x=s2[i]:=by simpa using heq
   refine⟨i+1,_,_,by refine U BV ?_;rfl,bJ,rfl,?_,?_,rfl⟩
   ·exact U Cp (U Cp (U RM (U Mx (U htk (U aaf rfl)))))
   ·rw[hl,mE,N2,vR,Tk (by simp[heq]),Cp,RM,←BV];simp
 ·intro NE I Go;obtain⟨i,bR,bM,hr,hi,rfl,htk,hl,rfl⟩:=Go;rcases mE:s1.drop i with _|⟨x,xs⟩
  rotate_left
  ·rw[mE]at hr;injection hr
  have hle:s1.length≤i:=by
   rcases vW i s1.length with h|h
   ·have:=sy h;rw[this]at mE;injection mE
   ·exact h
  have:jH s1 s2=s1:=by refine U hl (U mE (U (vJ hle) ?_));simp[vR,XH,Tv]
  exact U this (pS _ _ rfl rfl)
 ·intro NE I Go;obtain⟨bR,bM,rfl,rfl⟩:=Go;refine wE.cons (FM.assign (d:=.str aP) (f8.I8 (b:=true) (az.plain (by kd_p) di.bool) (fun J=>by kd_p) (fun h=>(by injection h))) (by kd_in) ?_);have la:=JO s1 s2;have kG:∀y∈jH s1 s2,y.length≤1000:=fun y No=>l1.2 y (QV _ _ y No);have hsum:=Ey kG;have vN:(Txt.join aP (jH s1 s2)).length≤700000:=by
   unfold Txt.join;rw[zL,ja];exact Sb la l1.1 hsum
  exact wE.cons (FM.ret (f8.bin (by kd_p) (f8.join (by kd_p) (by kd_p) aK.list (by refine U ja ?_;exact WM la l1.1 hsum)) (Rs.qw (Mf vN ja))) rfl)
theorem abr (t:aT c) (M2:ps.length≤10) (hb:∀q∈p::ps,q.length≤1000∧(c9 q).length≤300∧(∀y∈c9 q,y.length≤1000)∧Txt.startswith q aP=true)
 (hx:∀i,i<(lA p ps).length→(lA p ps).take i=(lB p ps).take i→i<(lB p ps).length):cg c (k+3) (.ref 240) [.list (ww (p::ps))] (.str (jN p ps)):=
 cg.fn (st:=bF 21) (qual:="commonpath") (dV:=.none) (t.fn rfl rfl rfl rfl) (by kd_p)
  (bB (t.dh (by kd_p) (by kd_p) (by decide)) (bB (t.dh (by kd_p) (by kd_p) (by decide)) (bB (t.glob (by kd_p)) (bB (t.dh (by kd_p) (by kd_p) (by decide)) (bB (t.dh (by kd_p) (by kd_p) (by decide)) (bB (t.dh (by kd_p) (by kd_p) (by decide)) (bB (t.dh (by kd_p) (by kd_p) (by decide)) (bB (t.dh (by kd_p) (by kd_p) (by decide)) cG)))))))) rfl (fun J J=>iZ fun J=>rfl) (fun bN=>Vx (t.at (L:=bN)) M2 hb hx)
noncomputable def e8 (Y I:B):Prop:=∀a,Y a≠none→I a=Y a
theorem e8.refl (Y):e8 Y Y:=fun J J=>rfl
theorem e8.put (h:Y a=none) (x):e8 Y (Y.put a x):=fun b hb=>B.aa _ _ (by rintro rfl;exact hb h)
theorem e8.some (x:e8 Y I) (h:Y a= .some cl):I a= .some cl:=(x a (by refine U h ?_;simp)).trans h
inductive iR (Y:B):List (Str×D)→List (Str×List Str)→Prop
 |nil:iR Y [] []
 |cons {g:Str} {a:Addr} {l:List Str} {r:List (Str×D)} {ws:List (Str×List Str)}:Y a=some (.list (ww l))→iR Y r ws→iR Y ((g,.val (.ref a))::r) ((g,l)::ws)
noncomputable def sq (Y:B) (W:Addr) (ws:List (Str×List Str)):Prop:=∃l,Y W=some (.dict l)∧iR Y l ws
theorem iR.keep (x:e8 Y I) (h:iR Y l ws):iR I l ws:=by
 induction h with
 |nil=>exact .nil
 |cons h _ ih=>exact .cons (x.some h) ih
theorem iR.lists (x:∀b m,Y b=some (.list m)→I b=some (.list m)) (h:iR Y l ws):iR I l ws:=by
 induction h with
 |nil=>exact .nil
 |cons h _ ih=>exact .cons (x _ _ h) ih
theorem sq.keep (x:e8 Y I) (h:sq Y W ws):sq I W ws:=wS h fun l a b=>⟨l,x.some a,b.keep x⟩
theorem iR.keys (h:iR Y l ws):l.map Prod.fst=ws.map Prod.fst:=by
 induction h with
 |nil=>rfl
 |cons _ _ ih=>simp[ih]
noncomputable def j5 (ws:List (Str×List Str)) (g:Str):Option (List Str):=(ws.find? fun x=>x.1=g).map Prod.snd
theorem iR.get (h:iR Y l ws) (e:j5 ws g=some x):∃a,cI l g=some (.val (.ref a))∧Y a=some (.list (ww x)):=by
 induction h with
 |nil=>injection e
 | @cons pQ a l r ws h _ ih=>
  unfold j5 at e;unfold cI;rw[qu]at e⊢;by_cases q:pQ=g
  ·subst q;simp at e⊢;subst e;exact h
  ·simp[q]at e⊢;refine wS (ih (by unfold j5;simpa using e)) fun b e1 e2=>?_;unfold cI at e1;exact⟨b,by simpa using e1,e2⟩
theorem iR.snoc (h:iR Y l ws) (e:Y a=some (.list (ww x))):iR Y (l++[(g,.val (.ref a))]) (ws++[(g,x)]):=by
 induction h with
 |nil=>exact .cons e .nil
 |cons h _ ih=>exact .cons h ih
theorem Ci (h:k∉l.map Prod.fst):fR l k d=l++[(k,d)]:=by
 unfold fR;rw[Tk];simp only[zX,rQ,not_exists,not_and];intro x hx e;exact h (e▸cz hx)
theorem R_ (h:k∉l.map Prod.fst):cI (l++[(k,d)]) k=some d:=by
 unfold cI;rw[List.find?_append];have:l.find? (fun bO=>decide (bO.1=k))=none:=by
  rw[List.find?_eq_none];intro x hx e;exact h (by have:=EA e;exact this▸cz hx)
 refine U this ?_;simp
structure pV (T:Str→Prop):Prop where
 ok:∀q,T q→q.length≤1000∧(c9 q).length≤300∧c9 q≠[]∧(∀y∈c9 q,y.length≤1000)∧Txt.startswith q aP=true
 idx:∀p ps,T p→(∀q∈ps,T q)→∀i,i<(lA p ps).length→(lA p ps).take i=(lB p ps).take i→i<(lB p ps).length
 shared:∀p ps,T p→(∀q∈ps,T q)→(ps.length=1∨ps.length=2)→jN p ps=ri p ps
 meets:∀x y,T x→T y→((jN x [y]==x)||(jN x [y]==y))=cA x y
noncomputable def pair (x:Str×Str):D:=.tup [.str x.1,.str x.2]
noncomputable def k9 (G:List (Str×Str)):List (Str×List Str):=G.map fun x=>(x.2,(G.map Prod.fst).filter fun one=>cA one x.2)
theorem pV.common (dj:pV T) (t:aT c) (hp:T p) (dH:∀q∈ps,T q) (M2:ps.length≤10):cg c (k+3) (.ref 240) [.list (ww (p::ps))] (.str (jN p ps)):=
 abr t M2 (fun q Ch=>by
  have h:T q:=by refine bC Ch ?_ fun h=>?_;exact hp;exact dH q h
  refine oX (dj.ok q h) fun a b d e f=>?_;exact rR a b e f) (dj.idx p ps hp dH)
theorem pV.RG (dj:pV T) (t:aT c) (hp:T p) (dH:∀q∈ps,T q) (M2:ps.length=1∨ps.length=2):cg c (k+1) (.ref 271) [.list (ww (p::ps))] (.str (jN p ps)):=by
 refine U (dj.shared p ps hp dH M2) ?_;exact acr t M2 fun q Ch=>by
  have h:T q:=by refine bC Ch ?_ fun h=>?_;exact hp;exact dH q h
  refine oX (dj.ok q h) fun a b d e f=>?_;exact rR a b d e
inductive KX (G:List (Str×Str)) (W:Addr) (aI:B) (aD:List D) (O:XV) (Y:B):Prop
 |mk (i:Nat) (l:List (Str×D)) (bR bM d8 cT dB jj s6:Option D):(aD=intsFrom i (G.length-i))→(i≤G.length)→(Y W=some (.dict l))→(iR Y l ((k9 G).take i))→(e8 aI Y)→(O=[⟨"left",.loc,some (.list (G.map pair))⟩,⟨"ways",.loc,some (.val (.ref W))⟩,⟨"i",.loc,bR⟩,⟨"start",.loc,bM⟩,⟨"goal",.loc,d8⟩,⟨"three",.loc,cT⟩,⟨"one",.loc,dB⟩,⟨"other",.loc,jj⟩,⟨"common",.loc,s6⟩,⟨"range",.bw,some (.val (.type "range"))⟩,⟨"len",.bw,some (.val (.builtin "len"))⟩,⟨"commonpath",.bw,some (.val (.ref 240))⟩,⟨"_law_shared",.bw,some (.val (.ref 271))⟩])→KX G W aI aD O Y
inductive KO (G:List (Str×Str)) (W a:Addr) (l':List (Str×D)) (Y:B) (i:Nat) (x y z:Str×Str) (aD:List D) (O:XV) (I:B):Prop
 |mk (done ay:List (Str×Str)) (dB jj s6:Option D):(aD=ay.map pair)→(G=done++ay)→(I=((Y.put a (some (.list (ww ((done.map Prod.fst).filter fun one=>cA one x.2))))).put W (some (.dict l'))))→(O=[⟨"left",.loc,some (.list (G.map pair))⟩,⟨"ways",.loc,some (.val (.ref W))⟩,⟨"i",.loc,some (.int (i:Nat))⟩,⟨"start",.loc,some (.str x.1)⟩,⟨"goal",.loc,some (.str x.2)⟩,⟨"three",.loc,some (.list (ww [y.1,x.1,z.1]))⟩,⟨"one",.loc,dB⟩,⟨"other",.loc,jj⟩,⟨"common",.loc,s6⟩,⟨"range",.bw,some (.val (.type "range"))⟩,⟨"len",.bw,some (.val (.builtin "len"))⟩,⟨"commonpath",.bw,some (.val (.ref 240))⟩,⟨"_law_shared",.bw,some (.val (.ref 271))⟩])→KO G W a l' Y i x y z aD O I
theorem acH (dj:pV T) (t:aT c) (hT:∀x∈G,T x.1∧T x.2) (hl:G.length≤100) (hnd:(G.map Prod.snd).Nodup):
 wE c (k+3) (vars [("left",.loc)] [.list (G.map pair)] [("ways",.loc),("i",.loc),("start",.loc),("goal",.loc),("three",.loc),("one",.loc),("other",.loc),("common",.loc)] [("range",.type "range"),("len",.builtin "len"),("commonpath",.ref 240),("_law_shared",.ref 271)]) aI (gJ (bF 28)) (ux fun d I=>∃W,d= .val (.ref W)∧aI W=none∧sq I W (k9 G)∧e8 aI I):=by
 kst_p
 have hh:=t.hd;have n7:(G.map pair).length=G.length:=by simp
 have Bg:(G.map pair).length≤1000000:=Ev (bT n7) (Ev hl (by decide));refine wE.cons (FM.iG (aE.newDict fun W sd=>⟨_,by kd_in,?_⟩));refine wE.cons (FM.for hh tH (items:=intsFrom 0 G.length) (bA.range (by kd_p) ?_ (by kd_p)) (KX G W aI)
  ⟨0,[],_,_,_,_,_,_,_,rfl,e_ _,B.ai ..,.nil,e8.put sd _,rfl⟩ (fun J J J J=>trivial) ?_ ?_)
 ·exact ZB n7 (f8.len (by kd_p) (by kd_p) aK.list Bg)
 ·intro d rest NE Y Go;obtain⟨i,l,bR,bM,d8,cT,dB,jj,s6,hr,hi,rL,sI,g8,rfl⟩:=Go;rcases vW i G.length with bJ|Lc
  case inr=>rw[Nat.sub_eq_zero_of_le Lc]at hr;cases hr
  obtain⟨n,M2⟩:∃n,G.length-i=n+1:=⟨G.length-i-1,Lz bJ⟩;rw[M2]at hr;cases hr;obtain⟨x,hx⟩:∃x,G[i]?=some x:=⟨G[i],fV bJ⟩;have WU:x∈G:=s_ hx;refine Op (hT x WU) fun WY Fi=>?_;have hz:=Nat.zero_lt_of_lt bJ;have mod:∀j:Int,∃y∈G,(G.map pair)[(((i:Int)-j).fmod (G.length:Nat)).toNat]?=some (pair y)∧0≤((i:Int)-j).fmod (G.length:Nat):=fun j=>by
   have h2:(((i:Int)-j).fmod (G.length:Nat)).toNat<G.length:=rI hz;exact fW _ (rF h2) (by rw[kI,fV h2];rfl) (D3 hz)
  refine aS (mod 1) fun y O2 No ad8=>?_;refine aS (mod 2) fun z acD hz Yk=>?_;refine bh.name (by kd_in) ?_;refine wE.cons (FM.B8 hh (d:=pair x) (f8.sub (d₂:=.int (i:Nat)) (by kd_p) (by kd_p) (Rs.item aK.list (kr _) (by simp[hx]) Bg)) ?_);refine bh.tuple (bh.name (by kd_in) (bh.name (by kd_in) ?_));dsimp only[rz];have MV:∀{O:XV} {p c6 pos:Pos} {s:Str},f8 c (k+3) O Y (.Name "len" p) (.val (.builtin "len"))→f8 c (k+3) O Y (.Name s c6) (.list (G.map pair))→(∀V,starEach [Expr.Name s c6] V=[(false,eval (.Name s c6) V)])→f8 c (k+3) O Y (.Call (.Name "len" p) [.Name s c6] [] pos) (.int (G.length:Nat)):=fun h1 h2 hs=>by
   exact ZB n7 (f8.len h1 h2 aK.list Bg hs)
  refine wE.cons (FM.assign (d:=.list (ww [y.1,x.1,z.1])) (f8.list (.cons ?_ (.cons (by kd_p) (.cons ?_ .nil (by kd_p)) (by kd_p)) (by kd_p)) (by simp[ww])) (by kd_in) ?_)
  ·refine f8.sub (d₁:=pair y) (d₂:=.int 0) (f8.sub (by kd_p) (f8.bin (f8.bin (by kd_p) (by kd_p) Rs.Po) (MV (by kd_p) (by kd_p) (by kd_p)) (Rs.tn (by exact wR ‹_›))) (Rs.item aK.list ad8 No ‹_›)) f8.int (Rs.u6 (by decide) rfl (by simp))
  ·refine f8.sub (d₁:=pair z) (d₂:=.int 0) (f8.sub (by kd_p) (f8.bin (f8.bin (by kd_p) (by kd_p) Rs.Po) (MV (by kd_p) (by kd_p) (by kd_p)) (Rs.tn (wR (Nat.zero_lt_of_lt bJ)))) (Rs.item aK.list Yk hz Bg)) f8.int (Rs.u6 (by decide) rfl (by simp))
  have MT:∀q∈[x.1,z.1],T q:=fun q Ch=>by
   refine bC Ch ?_ fun Ch=>?_
   ·exact WY
   refine bC Ch ?_ fun Ch=>?_
   ·exact(hT z acD).1
   cases Ch
  refine wE.cons (FM.ifs (b:=jN y.1 [x.1,z.1] !=jN y.1 [x.1,z.1]) (az.cmp (f8.call (by kd_p) (fM (st:=bF 21) (t.fn rfl rfl rfl rfl)) (.cons (by kd_p) .nil (by kd_p)) (cg.r (dj.common t (hT y O2).1 MT (by simp))) (by kd_p)) (f8.call (by kd_p) (fM (st:=bF 27) (t.fn rfl rfl rfl rfl)) (.cons (by kd_p) .nil (by kd_p)) (cg.r (cg.less (dj.RG (k:=k) t (hT y O2).1 MT (.inr rfl)) (bV (k+1) 2))) (by kd_p)) Rs.pU) (fun h=>by simp at h) fun J=>wE.nil ?_);have hg:x.2∉l.map Prod.fst:=by
   refine U sI.keys ?_;unfold k9;refine ZB Dy (U cJ ?_);intro hm;refine wS (ao.mp hm) fun mU ic e=>?_;simp only[Function.comp_apply]at e;obtain⟨j,eX,BG⟩:=List.mem_iff_getElem.mp ic;rw[yd]at eX;rw[List.getElem_take]at BG;have RK:G[i]=x:=by rw[fV bJ]at hx;cases hx;rfl
   have h1:(G.map Prod.snd)[j]?=some x.2:=by rw[kI,fV (fP eX (DN ..)),BG];simp[e]
   have h2:(G.map Prod.snd)[i]?=some x.2:=by rw[kI,hx];rfl
   have:=(List.getElem?_inj (by simp;exact fP eX (DN ..)) hnd).mp (h1.trans h2.symm);exact fm (fP eX (Nat.min_le_left ..)) this
  have adi:l.length=i:=by
   have:=cN List.length sI.keys;simp[k9]at this;exact this.trans (AU hi)
  refine wE.cons (FM.zm (aE.newList .nil (by simp) fun a ha=>⟨by kd_p,by kd_p,l,?_,Ev (bT adi) (Ev hi (Ev hl (by decide))),?_⟩))
  ·exact U (B.aa _ _ (by rintro rfl;rw[rL]at ha;cases ha)) rL
  refine U (Ci hg) ?_;have a_:W≠a:=by rintro rfl;rw[rL]at ha;cases ha
  have hdg:=R_ (d:=.val (.ref a)) hg;generalize CV:l++[(x.2,D.val (.ref a))]=l' at hdg;refine wE.cons (FM.for hh gG (items:=G.map pair) (bA.list (by kd_p)) (KO G W a l' Y i x y z)
   ⟨[],G,_,_,_,rfl,rfl,rfl,rfl⟩ (fun J J J J=>trivial) ?_ ?_)
  ·intro d rest NE I Go;obtain⟨done,ay,dB,jj,s6,hr,he,rfl,rfl⟩:=Go;rcases ay with _|⟨u,ay⟩
   ·cases hr
   cases hr;have W3:u∈G:=by refine U he ?_;simp
   have Ff:=(hT u W3).1;have L8:∀q∈[x.2],T q:=fun q Ch=>by rcases fq.mp Ch with rfl;exact Fi
   refine bh.tuple (bh.name (by kd_in) (bh.name (by kd_in) ?_));dsimp only[rz];have Pu:∀{O:XV} {Y:B} {s s':Str} {p c6 pos:Pos},f8 c (k+3) O Y (.Name s p) (.str u.1)→f8 c (k+3) O Y (.Name s' c6) (.str x.2)→f8 c (k+3) O Y (.List [.Name s p,.Name s' c6] pos) (.list (ww [u.1,x.2])):=fun h1 h2=>f8.list (.cons h1 (.cons h2 .nil (by kd_p)) (by kd_p)) (by simp[ww]);refine wE.cons (FM.assign (d:=.str (jN u.1 [x.2])) (f8.call (by kd_p) (fM (st:=bF 21) (t.fn rfl rfl rfl rfl)) (.cons (Pu (by kd_p) (by kd_p)) .nil (by kd_p)) (cg.r (dj.common t Ff L8 (by simp))) (by kd_p)) (by kd_in) ?_);refine wE.cons (FM.ifs (b:=jN u.1 [x.2] !=jN u.1 [x.2]) (az.cmp (by kd_p) (f8.call (by kd_p) (fM (st:=bF 27) (t.fn rfl rfl rfl rfl)) (.cons (Pu (by kd_p) (by kd_p)) .nil (by kd_p)) (cg.r (cg.less (dj.RG (k:=k) t Ff L8 (.inl rfl)) (bV (k+1) 2))) (by kd_p)) Rs.pU) (fun h=>by simp at h) fun J=>wE.nil ?_);have hfl:∀l:List Str,(l.filter fun one=>cA one x.2).length≤l.length:=fun l=>ir _ _;have W4:done.length≤100:=by rw[he]at hl;simp at hl;exact Ev (bV ..) hl
   refine wE.cons (FM.ifs (b:=cA u.1 x.2) ?_ (fun hm=>?_) fun hm=>wE.nil ?_)
   ·refine ZB (dj.meets u.1 x.2 Ff Fi) ?_;exact ZB (tT (jN u.1 [x.2]==x.2)) (az.q2 (az.cmp (by kd_p) (by kd_p) Rs.eqStr) fun J=>az.q2 (az.cmp (by kd_p) (by kd_p) Rs.eqStr) fun J=>az.yC)
   ·refine wE.cons (FM.expr (aE.append (a:=a) (l:=ww ((done.map Prod.fst).filter fun one=>cA one x.2)) (d:=.str u.1) (f8.sub (by kd_p) (by kd_p) (Rs.tB (B.ai ..) hdg)) (by kd_p) ?_ ?_ ?_))
    ·exact U (B.aa _ _ a_.symm) (B.ai ..)
    ·have:=hfl (done.map Prod.fst);simp[ww]at this⊢;exact UL this (Ev W4 (by decide))
    refine wE.nil ?_;refine wE.nil ?_;refine⟨done++[u],ay,_,_,_,rfl,by refine U he ?_;simp,?_,rfl⟩;funext b;unfold B.put;by_cases q:b=a
    ·subst q;refine U (ak rfl) (U (Tk a_.symm) (U (ak rfl) ?_));simp[ww,hm]
    ·refine U (Tk q) ?_;by_cases q':b=W
     ·exact U (ak q') (U (ak q') rfl)
     ·exact U (Tk q') (U (Tk q') (U (Tk q) (U (Tk q) rfl)))
   ·refine wE.nil ?_;refine⟨done++[u],ay,_,_,_,rfl,by refine U he ?_;simp,?_,rfl⟩;simp[hm]
  ·intro NE I Go;obtain⟨done,ay,dB,jj,s6,hr,he,rfl,rfl⟩:=Go;rcases ay with _|⟨u,ay⟩
   rotate_left
   ·cases hr
   rw[fQ]at he;subst he;refine wE.nil ?_;refine wE.nil ?_;have dI:∀b,b≠W→Y b≠none→((Y.put a (some (.list (ww ((G.map Prod.fst).filter fun one=>cA one x.2))))).put W (some (.dict l'))) b=Y b:=fun b hb h=>by
    exact U (B.aa _ _ hb) (U (B.aa _ _ (by rintro rfl;exact h ha)) rfl)
   refine⟨i+1,l',_,_,_,_,_,_,_,by refine U (show G.length-(i+1)=n from cN Nat.pred M2) ?_;rfl,bJ,B.ai ..,?_,?_,rfl⟩
   ·rw[Cp];have:(k9 G)[i]?=some (x.2,(G.map Prod.fst).filter fun one=>cA one x.2):=by unfold k9;rw[kI,hx];rfl
    refine U this ?_
    conv=>arg 2;rw[←CV]
    refine iR.snoc ?_ ?_
    ·exact sI.lists fun b m hb=>(dI b (by rintro rfl;rw[rL]at hb;cases hb) (by refine U hb ?_;simp)).trans hb
    ·exact U (B.aa _ _ a_.symm) (B.ai ..)
   ·exact fun b hb=>(dI b (by rintro rfl;exact hb sd) (by refine U (g8 b hb) ?_;exact hb)).trans (g8 b hb)
 ·intro NE Y Go;obtain⟨i,l,bR,bM,d8,cT,dB,jj,s6,hr,hi,rL,sI,g8,rfl⟩:=Go;rcases vW i G.length with bJ|Lc
  ·obtain⟨n,M2⟩:∃n,G.length-i=n+1:=⟨G.length-i-1,Lz bJ⟩;rw[M2]at hr;cases hr
  refine wE.nil ?_;refine wE.cons (FM.ret (d:=.val (.ref W)) (by kd_p) ?_);refine ur W rfl sd ⟨l,rL,?_⟩ g8;rw[vJ (by unfold k9;simp;assumption)]at sI;exact sI
theorem afE (dj:pV T) (t:aT c) (hT:∀x∈G,T x.1∧T x.2) (hl:G.length≤100) (hnd:(G.map Prod.snd).Nodup):
 cu c (k+4) (.ref 278) [.list (G.map pair)] aI (fun d I=>∃W,d= .val (.ref W)∧aI W=none∧sq I W (k9 G)∧e8 aI I):=
 cu.fn (st:=bF 28) (qual:="_law_ways") (dV:=.none) (t.fn rfl rfl rfl rfl) (by kd_p)
  (bB (t.dh (by kd_p) (by kd_p) (by decide)) (bB (t.dh (by kd_p) (by kd_p) (by decide)) (bB (t.glob (by kd_p)) (bB (t.glob (by kd_p)) cG)))) rfl (fun J J=>.plain rfl (iZ fun J=>rfl)) (fun bN A V s bs Z ok w Q E q=>acH dj (t.at (L:=bN)) hT hl hnd A V s bs Z ok w Q E fun o f s' Z' r cP dz h=>q o f s' Z' r cP dz (by cases o<;>first|exact h|exact h.elim))
section
open PySem.W Builtin
theorem V_:builtinKind "iter" =none:=by decide+kernel
theorem aaX:plainId "iter" =true:=by decide+kernel
theorem Xy:entryFor table "iter" =some Builtin.«iter»:=entryFor_of_fast (by kernel_rfl)
theorem ac7 (a):argsOk "iter" ⟨[a],[]⟩:=by unfold argsOk;kernel_rfl
noncomputable abbrev kL (L:Addr) (i:Nat):Obj:={cls:=.type "list_iterator",data:=.fields #[.ref L,.int i 0]}
noncomputable def mw (c:ah) (k:Nat) (O:XV) (Y:B) (es:List Expr) (aV:List D→B→Prop):Prop:=
 ∀(A:Around) (V:Env) (s:Shared) (Z:TW) (pos:Pos),Ok c k A s→bz c Z s.heap V O Y→∀(Q:List Value→Shared→Prop) (E:Value→Shared→Prop),
  (∀ds I H s' Z',aN c Y s Z I s' Z'→au Z' H ds→aV ds I→Q H s')→wpAny c.M A (spliced (backTo pos (starEach es V))) Q E s
section
variable {c:ah} {k:Nat} {O:XV} {Y:B} {Sc:D→B→Prop}
theorem mw.O8 (h:ie c k O Y es ds) (Ch:aV ds Y):mw c k O Y es aV:=fun A V s Z pos ok x Q E q=>h A V s Z pos ok x Q E fun H s' Z' t s5=>q ds Y H s' Z' (t.after x) s5 Ch
theorem mw.cons (he:aE c k O Y e fun d I=>mw c k O I es fun ds gK=>aV (d::ds) gK)
 (hs:∀V,starEach (e::es) V=(false,eval e V)::starEach es V:=by intro;rfl):mw c k O Y (e::es) aV:=by
 intro A V s Z pos ok x Q E h;rw[hs];show wpAny c.M A (spliced ((false,eval e V)::backTo pos (starEach es V))) Q E s;refine wO (he A V s Z ok x _ E fun d I v s₁ aC EQ s5 hr=>hr A V s₁ aC pos (ok.after EQ) (x.after EQ) _ E fun ds gK H s₂ bx t₂ aZ hp=>?_);exact h _ gK _ s₂ bx (EQ.trans t₂) (.cons (s5.mono t₂.le) aZ) hp
theorem mw.one (he:aE c k O Y e fun d I=>aV [d] I) (hs:∀V,starEach [e] V=[(false,eval e V)]:=by intro;rfl):mw c k O Y [e] aV:=
 .cons (he.mono fun d I h=>.O8 .nil h) hs
theorem ZN (hs:(starEach es V).all (fun y=>!y.1)=true)
 (hp:wpAny c.M A (spliced (backTo pos (starEach es V))) (fun H s'=>Q ⟨H,[]⟩ s') E s):wpAny c.M A (evalArgs f true (backTo pos (starEach es V)) []) Q E s:=by
 revert hp hs;rcases Ch:starEach es V with _|⟨y,r⟩
 ·intro _ hp;unfold evalArgs;show wpAny c.M A (spliced []>>=_) Q E s;refine u8 (dQ hp (fun H s' h'=>?_) fun J J x=>x);refine u8 (On ?_);exact bW (u8 (On (u8 (On (On h')))))
 ·obtain⟨b,t⟩:=y;intro hs hp;rcases b with _|_
  ·exact zx hp
  ·simp at hs
theorem aE.afh {o:Expr} {name:Str} {c5 pos:Pos} {args:List Expr} {d₀:D} {T id:String} (xz:f8 c k O Y o d₀) (hT:kc c O Y d₀ T) (jh:PlainAttrs T) (slot:Slot T name id)
 (Ab:typeOf (.builtin id)=pure (.type "method_descriptor")) (ha:mw c k O Y args fun ds I=>c_ c k O I (.builtin id) (d₀::ds) Sc)
 (fH:∀V,attributeBase o name V (eval o V)=eval o V:=by intro;rfl)
 (hs:∀V,(starEach args V).all (fun y=>!y.1)=true:=by intro;rfl)
 (uI:∀V,((backTo pos (starEach args V)).all (fun x=>!x.1)&&(backToKw pos (keywordEach [] V)).all (fun x=>x.1.isSome)
  &&decide (args.length+([]:List Keyword).length+(if([]:List Keyword).isEmpty then 0 else 1)<30))=true:=by intro;rfl)
 (fY:(c5.endLine==pos.line)=true:=by rfl):aE c k O Y (.Call (.Attribute o name c5) args [] pos) Sc:=by
 intro A V s Z ok r Q E g;refine ya (fH V) (uI V) fY (xz A V s Z ok r _ E fun v s₁ aC EQ s5=>?_);refine Op (hT s₁ V aC v (r.step EQ) s5) fun h1 h2=>?_;refine z3 T id jh slot Ab h1 h2 ?_;refine lR (c:=c) (f:=.builtin id) (first:=[v]) (.inl fun a e=>(by injection e)) (ZN (hs V) (ha A V s₁ aC pos (ok.step EQ) (r.step EQ) _ E fun ds I H s₂ bx t₂ aZ hc=>⟨t₂.top,?_⟩));exact hc A V s₂ bx (v::H) ((ok.step EQ).after t₂) ((r.step EQ).after t₂) (.cons (s5.mono t₂.le) aZ) Q E fun d gK v s' Z' aq=>g d gK v s' Z' (((EQ.after r).trans t₂).trans aq)
theorem c_.iter (aU:Y L=some (.list l)) (h:∀it,Y it=none→Sc (.val (.ref it)) (Y.put it (some (.raw (kL L 0))))):c_ c k O Y (.builtin "iter") [.val (.ref L)] Sc:=by
 intro A V s Z H ok r t Q E q;refine wS (iF t) fun v s4 s5=>?_;subst s4;refine s5.v ?_;refine eG (q3 r aU) fun its n xz FS=>?_;refine call_function_any V_ aaX Xy (ac7 _) ?_;unfold Builtin.«iter»;refine u8 (qR (a:=[.ref L]) rfl ?_);refine u8 (wJ ⟨_,xz,rfl,n,rfl⟩ ?_);exact On (q _ _ _ _ Z (aN.new (t:=s.toks) (cl:=.raw (kL L 0)) (o:=kL L 0) r.cells r.top r.sub rfl ⟨rfl,by simp⟩ (aH _)) (.val _) (h _ (r.fresh (aH _))))
end
end
section
open PySem.W PySem.Calls Builtin Builtin.ObjectAttr
theorem Az:Slot "list_iterator" "__getattribute__" "object.__getattribute__" :=
 .of (owner:="object") (n:="__getattribute__") (by rw[nR,nW];kernel_rfl) (by decide+kernel) (by decide+kernel) (by decide+kernel)
  (by first|exact .inl (by decide+kernel)|exact .inr (by decide+kernel)) (by rw[lS];kernel_rfl)
theorem SN:entryFor table "object.__getattribute__" =some Builtin.«object.__getattribute__»:=yt (by kernel_rfl)
theorem TQ (a b):argsOk "object.__getattribute__" ⟨[a,b],[]⟩:=by delta argsOk;kernel_rfl
theorem F0:Slot "wrapper_descriptor" "__get__" "wrapper_descriptor.__get__" :=
 .of (owner:="wrapper_descriptor") (n:="__get__") (by rw[nR,nW];kernel_rfl) (by decide+kernel) (by decide+kernel) (by decide+kernel)
  (by first|exact .inl (by decide+kernel)|exact .inr (by decide+kernel)) (by rw[lS];kernel_rfl)
theorem Yy:entryFor table "wrapper_descriptor.__get__" =some Builtin.«wrapper_descriptor.__get__»:=yt (by kernel_rfl)
theorem V4 (a b c):argsOk "wrapper_descriptor.__get__" ⟨[a,b,c],[]⟩:=by delta argsOk;kernel_rfl
theorem Mz:typeOf (.builtin "list_iterator.__next__")=pure (.type "wrapper_descriptor"):=by show builtinType _=_;refine U builtinType_eq_fast ?_;kernel_rfl
theorem aeu:typeLookup (.type "wrapper_descriptor") "__set__" =pure none:=by rw[nR,nW];kernel_rfl
theorem UM:typeLookup (.type "wrapper_descriptor") "__delete__" =pure none:=by rw[nR,nW];kernel_rfl
theorem aa3:isSubtype (.type "list_iterator") (.type "list_iterator")=pure true:=by rw[lS];kernel_rfl
noncomputable abbrev mj (it:Addr):Obj:={cls:=.type "method-wrapper",data:=.fields #[.builtin "list_iterator.__next__",.ref it]}
section
variable {prog:Program} {w:World} {A:Around} {E:Value→Shared→Prop} {s:Shared} {it:Addr} {o:Obj} {H:Array Value} {Q:Value→Shared→Prop}
theorem acY (xz:s.heap.get? it=some o) (hc:o.cls= .type "list_iterator")
 (h:R (.ok (.ret (.ref s.heap.objs.size))) {s with heap:=s.heap.push (mj it)}):codeAny (model prog w) A (.call (.builtin "wrapper_descriptor.__get__") ⟨[.builtin "list_iterator.__next__",.ref it,Aa],[]⟩) R s:=by
 refine zA F0.plain Yy (F0.check _ _ _ _ _ _ _ _ Mz (V4 _ _ _) ?_);obtain⟨hh,g,d,t,os⟩:=s;have CU:Looks (model prog w) hh (typeOf (.ref it)) (.type "list_iterator"):=hc▸(Looks.ld xz).andThen .now;have Ay:Looks (model prog w) hh (isSubtype (.type "list_iterator") (.type "list_iterator")) true:=qe aa3;have bG:hh.get? it=some o:=xz;delta Builtin.«wrapper_descriptor.__get__»
 repeat lk
 exact h
theorem adg (xz:s.heap.get? it=some o) (hc:o.cls= .type "list_iterator") (hd:o.dict=none) (s5:o.data= .fields H)
 (h:Q (.ref s.heap.objs.size) {s with heap:=s.heap.push (mj it),toks:=s.toks+1}):wpAny (model prog w) A (getAttr (.ref it) "__next__" true) Q E s:=by
 obtain⟨hh,g,d,t,os⟩:=s;obtain⟨yM,od,af0,yS⟩:=o;dsimp only at hc hd s5;subst hc hd s5;have bG:hh.get? it=some ⟨.type "list_iterator",none,.fields H,yS⟩:=xz;have CU:Looks (model prog w) hh (typeOf (.ref it)) (.type "list_iterator"):=(Looks.ld bG).andThen .now;have Ay:Looks (model prog w) hh (typeLookup (.type "list_iterator") "__getattribute__") (some (.builtin "object.__getattribute__")):=qe Az.lookup;delta getAttr getAttrBy;refine u8 (wpAny_mkText (bW (u8 (CU.at (u8 (Ay.at ?_))))));show wpAny _ _ (getAttrByItsOwn _ _ _ _ _ _) _ _ _;delta getAttrByItsOwn;refine u8 (On ?_);refine u8 (qK (bW ?_));show wpAny _ _ (boundAndCalled _ _ _) _ _ _;delta boundAndCalled;rw[Az.bind];refine u8 (On (oO (zA Az.plain SN (Az.check _ _ _ _ _ _ _ _ ⟨_,bG,rfl⟩ (TQ _ _) ?_))));have ady:Looks (model prog w) hh (typeLookup (.type "list_iterator") "__next__") (some (.builtin "list_iterator.__next__")):=qe slot_listiter_next.lookup;have agj:Looks (model prog w) hh (typeOf (.builtin "list_iterator.__next__")) (.type "wrapper_descriptor"):=qe Mz;have af4:Looks (model prog w) hh (typeLookup (.type "wrapper_descriptor") "__get__") (some (.builtin "wrapper_descriptor.__get__")):=qe F0.lookup;have agm:Looks (model prog w) hh (typeLookup (.type "wrapper_descriptor") "__set__") none:=qe aeu;have afY:Looks (model prog w) hh (typeLookup (.type "wrapper_descriptor") "__delete__") none:=qe UM;delta Builtin.«object.__getattribute__»
 repeat(first|with_reducible refine oO ?_|lk)
 exact acY (s:=⟨hh,g,d,t+1,os⟩) bG rfl (On (On h))
end
theorem aeP (it):checkBoundCall "list_iterator.__next__" ⟨[.ref it],[]⟩=pure ():=by kernel_rfl
theorem RB:plainId "list_iterator.__next__" =true:=by decide+kernel
section
variable {c:ah} {A:Around} {E:Value→Shared→Prop} {s:Shared} {it m:Addr} {Q:Value→Shared→Prop}
theorem Lf (hm:s.heap.get? m=some (mj it))
 (h:wpAny c.M A.in1 (Builtin.«list_iterator.__next__» ⟨[.ref it],[]⟩) (fun fin s'=>∃v,fin= .done (.ret v)∧Q v s') E s):wpAny c.M A (call (.ref m) []) Q E s:=by
 refine oO (Ik ?_);show wpAny _ _ (callAny (.ref m) _) _ _ _;delta callAny;refine u8 (kR hm ?_);dsimp only;refine U (ak (by decide)) ?_;show wpAny _ _ (checkBoundCall "list_iterator.__next__" ⟨[.ref it],[]⟩>>=_) _ _ _;rw[aeP];refine u8 (On (On ⟨qG RB _,mX entry_listiter_next ?_⟩));refine U (nG RB _) ?_;refine dQ h (fun fin s' Wn=>wS Wn fun v e q=>?_) fun J J x=>x;subst e;exact q
end
end
section
open PySem.W
structure bP where
 name:Str
 np:Int
 succ:List Str
structure eE where
 i:Addr
 d:Addr
 l:Addr
noncomputable def jK (Y:B) (a:eE) (n:bP):Prop:=Y a.i=some (.inst 40 a.d [some (.str n.name),some (.int n.np),some (.val (.ref a.l))])∧Y a.d=some (.attrs [])∧Y a.l=some (.list (ww n.succ))
inductive cY (Y:B):List eE→List bP→Prop
 |nil:cY Y [] []
 |cons {a:eE} {n:bP} {as:List eE} {ns:List bP}:jK Y a n→cY Y as ns→cY Y (a::as) (n::ns)
noncomputable def g4:List eE→List bP→List (Str×D)
 |a::as,n::ns=>(n.name,.val (.ref a.i))::g4 as ns
 |_,_=>[]
theorem ym (a as n ns):g4 (a::as) (n::ns)=(n.name,.val (.ref a.i))::g4 as ns:=rfl
theorem OO:g4 [] []=[]:=rfl
noncomputable def f7:List eE→List bP→Str→Option (eE×bP)
 |a::as,n::ns,x=>if n.name=x then some (a,n)else f7 as ns x
 |_,_,_=>none
theorem mF (a as n ns x):f7 (a::as) (n::ns) x=if n.name=x then some (a,n)else f7 as ns x:=rfl
theorem Y3 (x):f7 [] [] x=none:=rfl
noncomputable def dZ:List bP→Str→Option bP
 |[],_=>none
 |n::ns,x=>if n.name=x then some n else dZ ns x
theorem m7 (n ns x):dZ (n::ns) x=if n.name=x then some n else dZ ns x:=rfl
theorem XX (x):dZ [] x=none:=rfl
noncomputable def ee:List bP→Str→bP→List bP
 |[],_,_=>[]
 |n::ns,x,m=>if n.name=x then m::ns else n::ee ns x m
theorem tG (n ns x m):ee (n::ns) x m=if n.name=x then m::ns else n::ee ns x m:=rfl
theorem wU:∀as ns x,cI (g4 as ns) x=(f7 as ns x).map fun p=>.val (.ref p.1.i)
 |[],_,x=>rfl
 |_::_,[],x=>rfl
 |a::as,n::ns,x=>by
  rw[ym,mF];unfold cI;rw[qu];by_cases h:n.name=x
  ·simp[h]
  ·refine U (Tk h) ?_;simp only[h,uL];exact wU as ns x
theorem cY.find (h:cY Y as ns) (e:dZ ns x=some n):∃a,f7 as ns x=some (a,n)∧a∈as∧jK Y a n∧n.name=x:=by
 induction h with
 |nil=>injection e
 | @cons a m as ns h1 h2 ih=>
  rw[m7]at e;rw[mF];by_cases q:m.name=x
  ·rw[ak q]at e⊢;obtain rfl:=bf e;exact ur a rfl (.head _) h1 q
  ·rw[Tk q]at e⊢;refine d9 (ih e) fun b i1 cM fh tR=>?_;exact ur b i1 (.tail _ cM) fh tR
theorem cY.find_none (h:cY Y as ns) (e:dZ ns x=none):f7 as ns x=none:=by
 induction h with
 |nil=>rfl
 | @cons a m as ns h1 h2 ih=>
  rw[m7]at e;rw[mF];by_cases q:m.name=x
  ·rw[ak q]at e;injection e
  ·rw[Tk q]at e⊢;exact ih e
theorem cY.congr (h:cY Y as ns) (q:∀a∈as,I a.i=Y a.i∧I a.d=Y a.d∧I a.l=Y a.l):cY I as ns:=by
 induction h with
 |nil=>exact .nil
 | @cons a m as ns h1 h2 ih=>
  refine b4 (q a (.head _)) fun e1 e2 e3=>?_;exact .cons ⟨e1.trans h1.1,e2.trans h1.2.1,e3.trans h1.2.2⟩ (ih fun b hb=>q b (.tail _ hb))
theorem cY.mem (h:cY Y as ns):∀a∈as,∃n∈ns,jK Y a n:=by
 induction h with
 |nil=>intro a ha;cases ha
 | @cons a m as ns h1 h2 ih=>
  intro b hb;refine bC hb ?_ fun hb=>?_
  ·exact⟨m,.head _,h1⟩
  ·refine wS (ih b hb) fun n M2 e=>?_;exact⟨n,.tail _ M2,e⟩
theorem cY.len (h:cY Y as ns):as.length=ns.length:=by
 induction h with
 |nil=>rfl
 |cons _ _ ih=>simp[ih]
theorem cY.keys (h:cY Y as ns):(g4 as ns).map Prod.fst=ns.map (fun x=>x.name):=by
 induction h with
 |nil=>rfl
 |cons _ _ ih=>simp[ym,OO,ih]
theorem cY.z0 (h:cY Y as ns):(g4 as ns).length=ns.length:=by
 have:=cN List.length h.keys;simpa using this
theorem cY.vf (h:cY Y as ns) (nd:(as.map (fun x=>x.i)).Nodup) (e:f7 as ns x=some (a,n)) (v):
 cY (Y.put a.i (some (.inst 40 a.d [some (.str n.name),some (.int v),some (.val (.ref a.l))]))) as (ee ns x {n with np:=v}):=by
 have main:∀{as:List eE} {ns:List bP},cY Y as ns→(as.map (fun x=>x.i)).Nodup→f7 as ns x=some (a,n)→cY (Y.put a.i (some (.inst 40 a.d [some (.str n.name),some (.int v),some (.val (.ref a.l))]))) as (ee ns x {n with np:=v}):=by
  intro as ns h
  induction h with
  |nil=>intro _ e;cases e
  | @cons b m as ns h1 h2 ih=>
   intro nd e;rw[aJ,dg]at nd;rw[mF]at e;rw[tG];by_cases q:m.name=x
   ·rw[ak q]at e⊢;cases e;have hd:a.d≠a.i:=by intro z;have:=h1.2.1;rw[z,h1.1]at this;cases this
    have hl:a.l≠a.i:=by intro z;have:=h1.2.2;rw[z,h1.1]at this;cases this
    refine .cons ⟨B.ai ..,(B.aa _ _ hd).trans h1.2.1,(B.aa _ _ hl).trans h1.2.2⟩ (h2.congr fun c hc=>?_);refine wS (h2.mem c hc) fun gx J M2=>?_;have n1:c.i≠a.i:=fun z=>nd.1 (z▸cz hc);have b6:c.d≠a.i:=by intro z;have:=M2.2.1;rw[z,h1.1]at this;cases this
    have dP:c.l≠a.i:=by intro z;have:=M2.2.2;rw[z,h1.1]at this;cases this
    exact⟨B.aa _ _ n1,B.aa _ _ b6,B.aa _ _ dP⟩
   ·rw[Tk q]at e⊢;have ha:a∈as:=by
     have:∀{as:List eE} {ns:List bP},f7 as ns x=some (a,n)→a∈as:=by
      intro as
      induction as with
      |nil=>intro ns e;cases e
      |cons c as ih=>
       intro ns e;rcases ns with _|⟨k,ns⟩
       ·cases e
       ·rw[mF]at e;by_cases q:k.name=x
        ·rw[ak q]at e;cases e;exact .head _
        ·rw[Tk q]at e;exact .tail _ (ih e)
     exact this e
    refine wS (h2.mem a ha) fun gx J M2=>?_;have n1:b.i≠a.i:=fun z=>nd.1 (z▸cz ha);have b6:b.d≠a.i:=by intro z;have:=h1.2.1;rw[z,M2.1]at this;cases this
    have dP:b.l≠a.i:=by intro z;have:=h1.2.2;rw[z,M2.1]at this;cases this
    exact .cons ⟨(B.aa _ _ n1).trans h1.1,(B.aa _ _ b6).trans h1.2.1,(B.aa _ _ dP).trans h1.2.2⟩ (ih nd.2 e)
 exact main h nd e
theorem cY.Gy (h:cY Y as ns) (nd:(as.map (fun x=>x.l)).Nodup) (e:f7 as ns x=some (a,n)) (v):
 cY (Y.put a.l (some (.list (ww v)))) as (ee ns x {n with succ:=v}):=by
 have main:∀{as:List eE} {ns:List bP},cY Y as ns→(as.map (fun x=>x.l)).Nodup→f7 as ns x=some (a,n)→cY (Y.put a.l (some (.list (ww v)))) as (ee ns x {n with succ:=v}):=by
  intro as ns h
  induction h with
  |nil=>intro _ e;cases e
  | @cons b m as ns h1 h2 ih=>
   intro nd e;rw[aJ,dg]at nd;rw[mF]at e;rw[tG];by_cases q:m.name=x
   ·rw[ak q]at e⊢;cases e;have hi:a.i≠a.l:=by intro z;have:=h1.1;rw[z,h1.2.2]at this;cases this
    have hd:a.d≠a.l:=by intro z;have:=h1.2.1;rw[z,h1.2.2]at this;cases this
    refine .cons ⟨(B.aa _ _ hi).trans h1.1,(B.aa _ _ hd).trans h1.2.1,B.ai ..⟩ (h2.congr fun c hc=>?_);refine wS (h2.mem c hc) fun gx J M2=>?_;have n1:c.i≠a.l:=by intro z;have:=M2.1;rw[z,h1.2.2]at this;cases this
    have b6:c.d≠a.l:=by intro z;have:=M2.2.1;rw[z,h1.2.2]at this;cases this
    have dP:c.l≠a.l:=fun z=>nd.1 (z▸cz hc);exact⟨B.aa _ _ n1,B.aa _ _ b6,B.aa _ _ dP⟩
   ·rw[Tk q]at e⊢;have ha:a∈as:=by
     have:∀{as:List eE} {ns:List bP},f7 as ns x=some (a,n)→a∈as:=by
      intro as
      induction as with
      |nil=>intro ns e;cases e
      |cons c as ih=>
       intro ns e;rcases ns with _|⟨k,ns⟩
       ·cases e
       ·rw[mF]at e;by_cases q:k.name=x
        ·rw[ak q]at e;cases e;exact .head _
        ·rw[Tk q]at e;exact .tail _ (ih e)
     exact this e
    refine wS (h2.mem a ha) fun gx J M2=>?_;have n1:b.i≠a.l:=by intro z;have:=h1.1;rw[z,M2.2.2]at this;cases this
    have b6:b.d≠a.l:=by intro z;have:=h1.2.1;rw[z,M2.2.2]at this;cases this
    have dP:b.l≠a.l:=fun z=>nd.1 (z▸cz ha);exact .cons ⟨(B.aa _ _ n1).trans h1.1,(B.aa _ _ b6).trans h1.2.1,(B.aa _ _ dP).trans h1.2.2⟩ (ih nd.2 e)
 exact main h nd e
theorem cY.snoc (h:cY Y as ns) (e:jK Y a n):cY Y (as++[a]) (ns++[n]):=by
 induction h with
 |nil=>exact .cons e .nil
 |cons h _ ih=>exact .cons h ih
theorem Uy (h:cY Y as ns) (a) (n):g4 (as++[a]) (ns++[n])=g4 as ns++[(n.name,.val (.ref a.i))]:=by
 induction h with
 |nil=>rfl
 |cons h _ ih=>simp[ym,OO,ih]
theorem Ge:∀{as:List eE} {ns ms:List bP},ns.map (fun x=>x.name)=ms.map (fun x=>x.name)→g4 as ns=g4 as ms
 |[],_,_,_=>rfl
 |_::_,[],[],_=>rfl
 |_::_,[],_::_,h=>by simp at h
 |_::_,_::_,[],h=>by simp at h
 |a::as,n::ns,m::ms,h=>by
  simp only[aJ,w4]at h;rw[ym];exact U h.1 (U (Ge (as:=as) h.2) rfl)
theorem vv:∀{ns:List bP} {x:Str} {n m:bP},dZ ns x=some n→m.name=n.name→(ee ns x m).map (fun x=>x.name)=ns.map (fun x=>x.name)
 |[],_,_,_,h,_=>by injection h
 |k::ns,x,n,m,h,e=>by
  rw[m7]at h;rw[tG];by_cases q:k.name=x
  ·rw[ak q]at h⊢;obtain rfl:=bf h;simp[e]
  ·rw[Tk q]at h⊢;simp[vv h e]
structure St where
 nodes:List bP
 ready:Option (List Str)
 j6:Int
 fin:Int
structure Lay where
 h_:Addr
 N:Addr
 as:List eE
 rs:List Addr
noncomputable def Lay.foot (y:Lay) (S:Addr):List Addr:=S::y.h_::y.N::(y.rs++y.as.flatMap fun a=>[a.i,a.d,a.l])
noncomputable def yz (rs:List Addr):D:=match rs with|R::_=>.val (.ref R)|[]=>.val .none
noncomputable def gW (y:Lay) (st:St):List (Str×D):=[("_node2info",.val (.ref y.N)),("_ready_nodes",yz y.rs),("_npassedout",.int st.j6),("_nfinished",.int st.fin)]
noncomputable def xY (Y:B) (rs:List Addr):Option (List Str)→Prop
 |none=>rs=[]
 |some r=>∃R,rs=[R]∧Y R=some (.list (ww r))
theorem xY.congr (q:∀R∈rs,∀l,Y R=some (.list l)→I R=some (.list l)):∀{r:Option (List Str)},xY Y rs r→xY I rs r
 |none,h=>h
 |some _,⟨R,h1,h2⟩=>⟨R,h1,q R (by refine U h1 ?_;simp) _ h2⟩
structure bH (Y:B) (S:Addr) (y:Lay) (st:St):Prop where
 inst:Y S=some (.inst 137 y.h_ [])
 attrs:Y y.h_=some (.attrs (gW y st))
 fu:Y y.N=some (.dict (g4 y.as st.nodes))
 dK:cY Y y.as st.nodes
 gI:xY Y y.rs st.ready
 qn:(y.as.map (fun x=>x.i)).Nodup
 pA:(y.as.map (fun x=>x.l)++y.rs).Nodup
noncomputable def bI (F:List Addr) (Y:B) (F':List Addr) (I:B):Prop:=(∀a,a∉F→Y a≠none→I a=Y a)∧∀a∈F',a∈F∨Y a=none
theorem bI.refl (F) (Y):bI F Y F Y:=⟨fun J J J=>rfl,fun J h=>.inl h⟩
theorem bI.trans (x:bI F Y F' I) (y:bI F' I WH gK):bI F Y WH gK:=by
 refine⟨fun a ha h=>?_,fun a ha=>?_⟩
 ·have e:=x.1 a ha h;have:a∉F':=fun hm=>by
   rcases x.2 a hm with q|q
   ·exact ha q
   ·exact h q
  exact(y.1 a this (by refine U e ?_;exact h)).trans e
 ·rcases y.2 a ha with q|q
  ·exact x.2 a q
  ·by_cases hF:a∈F
   ·exact .inl hF
   ·by_cases hm:Y a=none
    ·exact .inr hm
    ·exact absurd (x.1 a hF hm) (by refine U q ?_;exact fun e=>hm e.symm)
theorem bI.put (h:a∈F) (x):bI F Y F (Y.put a x):=⟨fun b hb J=>B.aa _ _ (by rintro rfl;exact hb h),fun J h=>.inl h⟩
theorem bI.fresh (h:Y a=none) (hF:∀b∈F',b∈F∨b=a) (x):bI F Y F' (Y.put a x):=
 ⟨fun b J hb=>B.aa _ _ (by rintro rfl;exact hb h),fun b hb=>(hF b hb).imp id (by rintro rfl;exact h)⟩
theorem c_.mono (h:c_ c k O Y f ds Sc) (q:∀d I,Sc d I→aV d I):c_ c k O Y f ds aV:=fun A V s Z H ok r t Q E g=>h A V s Z H ok r t Q E fun d I v s' Z' aq s5 hp=>g d I v s' Z' aq s5 (q d I hp)
theorem Lay.WC (y:Lay) (S:Addr):S∈y.foot S:=.head _
theorem Lay.zY (y:Lay) (S:Addr):y.h_∈y.foot S:=.tail _ (.head _)
theorem Lay.Nt (y:Lay) (S:Addr):y.N∈y.foot S:=.tail _ (.tail _ (.head _))
theorem Lay.HL (y:Lay) (S:Addr) (h:R∈y.rs):R∈y.foot S:=.tail _ (.tail _ (.tail _ (iK _ h)))
theorem Lay.yQ (y:Lay) (S:Addr) (h:a∈y.as):a.i∈y.foot S∧a.d∈y.foot S∧a.l∈y.foot S:=by
 have:∀b∈[a.i,a.d,a.l],b∈y.foot S:=fun b hb=>.tail _ (.tail _ (.tail _ (mz _ (zT.mpr ⟨a,h,hb⟩))));exact⟨this _ (by simp),this _ (by simp),this _ (by simp)⟩
end
section
open PySem.W
noncomputable abbrev gu:=List (Str×List Str)
noncomputable def jR:gu→Option (Str×gu)
 |[]=>none
 |(_,[])::r=>jR r
 |(n,x::xs)::r=>some (x,(n,xs)::r)
theorem V9 (n r):jR ((n,[])::r)=jR r:=rfl
theorem ad1 (n x xs r):jR ((n,x::xs)::r)=some (x,(n,xs)::r):=rfl
noncomputable def iT (ns:List bP) (x:Str):List Str:=match dZ ns x with|some n=>n.succ|none=>[]
noncomputable def nK (l:List Str) (x:Str):List Str:=l.drop (l.idxOf x)++[x]
noncomputable def mR (ns:List bP):Nat→Str→List Str→gu→Option (List Str⊕List Str)
 |0,_,_,_=>none
 |f+1,x,seen,st=>
  if x∈seen then
   if x∈st.map Prod.fst then some (.inl (nK (st.map Prod.fst).reverse x))
   else match jR st with|none=>some (.inr seen)|some (z,st')=>mR ns f z seen st'
  else match jR ((x,iT ns x)::st)with|none=>some (.inr (seen++[x]))|some (z,st')=>mR ns f z (seen++[x]) st'
noncomputable def scan (ns:List bP) (dD:Nat):List Str→List Str→Option (Option (List Str))
 |[],_=>some none
 |x::r,seen=>if x∈seen then scan ns dD r seen else match mR ns dD x seen []with
  |none=>none
  |some (.inl l)=>some (some l)
  |some (.inr seen')=>scan ns dD r seen'
theorem vG (ns f x seen st):mR ns (f+1) x seen st=if x∈seen then if x∈st.map Prod.fst then some (.inl (nK (st.map Prod.fst).reverse x))else(match jR st with|none=>some (.inr seen)|some (z,st')=>mR ns f z seen st')else match jR ((x,iT ns x)::st)with|none=>some (.inr (seen++[x]))|some (z,st')=>mR ns f z (seen++[x]) st':=rfl
theorem zu (ns dD x r seen):scan ns dD (x::r) seen=if x∈seen then scan ns dD r seen else match mR ns dD x seen []with|none=>none|some (.inl l)=>some (some l)|some (.inr seen')=>scan ns dD r seen':=rfl
theorem afU (ns dD seen):scan ns dD [] seen=some none:=rfl
noncomputable def mZ (b:Option (List Str)):D:=match b with|none=>.val .none|some l=>.list (ww l)
noncomputable def j3 (l:List Str):List (Str×D):=l.zipIdx.map fun p=>(p.1,.int (p.2:Nat))
theorem JA (l):(j3 l).map Prod.fst=l:=by
 delta j3;refine U cJ ?_;show List.map Prod.fst l.zipIdx=l;exact List.zipIdx_map_fst 0 l
theorem K3 (l) (x):j3 (l++[x])=j3 l++[(x,.int (l.length:Nat))]:=by
 delta j3;simp[List.zipIdx_append]
theorem RS (l):(j3 l).length=l.length:=by simp[j3]
theorem Cy:(cI l x).isSome=decide (x∈l.map Prod.fst):=by
 induction l with
 |nil=>rfl
 |cons a r ih=>
  unfold cI at ih⊢;rw[qu];by_cases q:a.1=x
  ·simp[q]
  ·simp only[q,uL,aJ,aY,bQ q,false_or];exact ih
theorem ZP (h:x∈l):cI (j3 l) x=some (.int (l.idxOf x:Nat)):=by
 have main:∀(l:List Str) (m:Nat),x∈l→((l.zipIdx m).map (fun p=>((p.1,.int (p.2:Nat)):Str×D))).find? (fun bO=>bO.1=x)=some (x,.int (l.idxOf x+m:Nat)):=by
  intro l
  induction l with
  |nil=>intro m h;cases h
  |cons a r ih=>
   intro m h;rw[List.zipIdx_cons,aJ,qu];by_cases q:a=x
   ·subst q;simp
   ·have hr:x∈r:=(aY.mp h).resolve_left fun e=>q e.symm;simp only[q,uL];refine U (ih (m+1) hr) (U EI ?_);have:(a==x)=false:=by simpa using q
    simp only[this,cond_false];congr 3;lia
 delta cI j3;refine U (main l 0 h) ?_;rfl
theorem XN (h:x∉l.map Prod.fst):gw (l++[(x,d)]) x=l:=by
 delta gw;rw[List.filter_append];have e:l.filter (fun bO=>decide (bO.1≠x))=l:=kW.mpr fun a ha=>by
  simp only[rQ];intro q;exact h (q▸cz ha)
 refine U e ?_;simp
theorem tK:∀{l m:List Str},l.Nodup→(∀x∈l,x∈m)→l.length≤m.length
 |[],m,_,_=>e_ _
 |a::l,m,h,hs=>by
  rw[dg]at h;have ha:=hs a (.head _);have:=tK (m:=m.erase a) h.2 fun x hx=>(List.mem_erase_of_ne (fun q=>h.1 (by refine ZB q ?_;exact hx))).mpr (hs x (.tail _ hx));rw[Lw ha]at this;have hp:0<m.length:=Nh ha;exact U bU (ME ‹_› ‹_›)
structure e9 where
 ST:Addr
 eW:Addr
 ek:Addr
 fG:Addr
inductive lJ (Y:B) (as:List eE) (ns:List bP):List (Addr×Addr)→gu→Prop
 |nil:lJ Y as ns [] []
 |cons {m it:Addr} {a:eE} {nd:bP} {n:Str} {i:Nat} {fs:List (Addr×Addr)} {st:gu}:Y m=some (.raw (mj it))→Y it=some (.raw (kL a.l i))→f7 as ns n=some (a,nd)→lJ Y as ns fs st→lJ Y as ns ((m,it)::fs) ((n,nd.succ.drop i)::st)
theorem lJ.congr {Y I:B} {as:List eE} {ns:List bP} {fs:List (Addr×Addr)} {st:gu} (h:lJ Y as ns fs st) (q:∀a∈fs.flatMap (fun p=>[p.1,p.2]),I a=Y a):lJ I as ns fs st:=by
 induction h with
 |nil=>exact .nil
 |cons h1 h2 h3 _ ih=>exact .cons ((q _ (by simp)).trans h1) ((q _ (by simp)).trans h2) h3 (ih fun a ha=>q a (by simp only[j_,b5];exact .inr ha))
theorem lJ.some {Y:B} {as:List eE} {ns:List bP} {fs:List (Addr×Addr)} {st:gu} (h:lJ Y as ns fs st):∀a∈fs.flatMap (fun p=>[p.1,p.2]),∃o,Y a=some (.raw o):=by
 induction h with
 |nil=>intro a ha;simp at ha
 |cons h1 h2 h3 _ ih=>
  intro a ha;simp only[j_,b5,aY,d_,gO]at ha;rcases ha with(rfl|rfl)|ha
  ·exact⟨_,h1⟩
  ·exact⟨_,h2⟩
  ·exact ih a ha
theorem lJ.len {Y:B} {as:List eE} {ns:List bP} {fs:List (Addr×Addr)} {st:gu} (h:lJ Y as ns fs st):fs.length=st.length:=by
 induction h with
 |nil=>rfl
 |cons _ _ _ _ ih=>simp[ih]
noncomputable def e9.foot (q:e9) (fs:List (Addr×Addr)):List Addr:=q.ST::q.eW::q.ek::q.fG::fs.flatMap (fun p=>[p.1,p.2])
structure iO (aI Y:B) (as:List eE) (ns:List bP) (q:e9) (seen:List Str) (st:gu) (fs:List (Addr×Addr)):Prop where
 keep:e8 aI Y
 sC:Y q.ST=some (.list (ww (st.map Prod.fst).reverse))
 wz:Y q.eW=some (.list (fs.reverse.map fun p=>.val (.ref p.1)))
 tW:Y q.ek=some (.set seen)
 t6:Y q.fG=some (.dict (j3 (st.map Prod.fst).reverse))
 fr:lJ Y as ns fs st
 new:∀a∈q.foot fs,aI a=none
 dist:(q.foot fs).Nodup
 sub:∀x∈st.map Prod.fst,x∈seen
 nodup:(st.map Prod.fst).Nodup
 zB:seen.Nodup
 yN:∀x∈seen,x∈ns.map (fun x=>x.name)
theorem e8.putN (h:e8 aI Y) (ha:aI a=none) (x):e8 aI (Y.put a x):=fun b hb=>by
 exact U (B.aa _ _ (by rintro rfl;exact hb ha)) (h b hb)
section
variable {aI Y:B} {as:List eE} {ns:List bP} {q:e9} {seen:List Str} {st:gu} {fs:List (Addr×Addr)}
theorem iO.ne (h:iO aI Y as ns q seen st fs):∀a∈q.foot fs,Y a≠none:=fun a ha=>by
 delta e9.foot at ha;simp only[aY]at ha;rcases ha with rfl|rfl|rfl|rfl|ha
 ·refine U h.sC ?_;simp
 ·refine U h.wz ?_;simp
 ·refine U h.tW ?_;simp
 ·refine U h.t6 ?_;simp
 ·refine aO (h.fr.some a ha) fun o e=>?_;refine U e ?_;simp
theorem iO.four (h:iO aI Y as ns q seen st fs):q.ST≠q.eW∧q.ST≠q.ek∧q.ST≠q.fG∧q.eW≠q.ek∧q.eW≠q.fG∧q.ek≠q.fG∧∀a∈fs.flatMap (fun p=>[p.1,p.2]),a≠q.ST∧a≠q.eW∧a≠q.ek∧a≠q.fG:=by
 have d:=h.dist;unfold e9.foot at d;simp only[dg,aY,pY]at d;refine oX d fun aG G0 EH o8 J=>?_;refine lN aG fun a1 a2 iJ iM=>?_;refine b4 G0 fun b1 fj lV=>?_;refine Op EH fun rt kK=>?_;exact M3 a1 a2 iJ b1 fj rt (fun a ha=>⟨by rintro rfl;exact iM ha,by rintro rfl;exact lV ha,by rintro rfl;exact kK ha,by rintro rfl;exact o8 ha⟩)
theorem uH (l) (x):ww (l++[x])=ww l++[.str x]:=by simp[ww]
theorem iO.push (h:iO aI Y as ns q seen st fs) (hx:x∉seen) (hxn:x∈ns.map (fun x=>x.name)) (e:f7 as ns x=some (a,nd))
 (hit:(Y.put q.ek (some (.set (seen++[x])))) it=none) (hm:((Y.put q.ek (some (.set (seen++[x])))).put it (some (.raw (kL a.l 0)))) m=none):
 iO aI ((((((Y.put q.ek (some (.set (seen++[x])))).put it (some (.raw (kL a.l 0)))).put m (some (.raw (mj it)))).put q.eW (some (.list ((fs.reverse.map fun p=>.val (.ref p.1))++[.val (.ref m)])))).put q.fG (some (.dict (j3 (st.map Prod.fst).reverse++[(x,.int ((st.map Prod.fst).reverse.length:Nat))])))).put q.ST (some (.list (ww (st.map Prod.fst).reverse++[.str x])))) as ns q (seen++[x]) ((x,nd.succ)::st) ((m,it)::fs):=by
 refine uv (h.four) fun n1 b6 dP oV u0 wG qO=>?_;have i1:it≠q.ek:=by rintro rfl;rw[B.ai]at hit;injection hit
 rw[B.aa _ _ i1]at hit;have nA:m≠it:=by rintro rfl;rw[B.ai]at hm;injection hm
 rw[B.aa _ _ nA]at hm;have Hl:m≠q.ek:=by rintro rfl;rw[B.ai]at hm;injection hm
 rw[B.aa _ _ Hl]at hm;have GW:it∉q.foot fs:=fun hh=>h.ne it hh hit;have Jb:m∉q.foot fs:=fun hh=>h.ne m hh hm;have CF:∀{b},Y b=none→aI b=none:=fun{b} hb=>by
  by_cases hh:aI b=none
  ·exact hh
  ·exact absurd (h.keep b hh) (by refine U hb ?_;exact fun z=>hh z.symm)
 unfold e9.foot at GW Jb;simp only[aY,pY]at GW Jb;refine oX GW fun LO Lh J MI wm=>?_;refine oX Jb fun NV Pa J NY Dc=>?_;have nw:∀a∈q.foot fs,aI a=none:=h.new;have ND:=nw q.ST (by simp[e9.foot]);have LC:=nw q.eW (by simp[e9.foot]);have Ml:=nw q.ek (by simp[e9.foot]);have J3:=nw q.fG (by simp[e9.foot]);refine⟨(((((h.keep.putN Ml _).putN (CF hit) _).putN (CF hm) _).putN LC _).putN J3 _).putN ND _,?_,?_,?_,?_,?_,?_,?_,?_,?_,?_,?_⟩
 ·rw[B.ai,aJ,DX,uH]
 ·rw[B.aa _ _ (bQ n1),B.aa _ _ u0,B.ai];simp
 ·rw[B.aa _ _ (bQ b6),B.aa _ _ wG,B.aa _ _ (bQ oV),B.aa _ _ (bQ Hl),B.aa _ _ (bQ i1),B.ai]
 ·rw[B.aa _ _ (bQ dP),B.ai,aJ,DX,K3]
 ·have key:=lJ.cons (Y:=((((((Y.put q.ek (some (.set (seen++[x])))).put it (some (.raw (kL a.l 0)))).put m (some (.raw (mj it)))).put q.eW (some (.list ((fs.reverse.map fun p=>.val (.ref p.1))++[.val (.ref m)])))).put q.fG (some (.dict (j3 (st.map Prod.fst).reverse++[(x,.int ((st.map Prod.fst).reverse.length:Nat))])))).put q.ST (some (.list (ww (st.map Prod.fst).reverse++[.str x]))))) (m:=m) (it:=it) (i:=0) (fs:=fs) (st:=st) ?_ ?_ e (h.fr.congr fun b hb=>?_)
  ·exact key
  ·rw[B.aa _ _ NV,B.aa _ _ NY,B.aa _ _ Pa,B.ai]
  ·rw[B.aa _ _ LO,B.aa _ _ MI,B.aa _ _ Lh,B.aa _ _ (bQ nA),B.ai]
  ·refine lN (qO b hb) fun b1 fj lV wI=>?_;exact U (B.aa _ _ b1) (U (B.aa _ _ wI) (U (B.aa _ _ fj) (U (B.aa _ _ (by rintro rfl;exact Dc hb)) (U (B.aa _ _ (by rintro rfl;exact wm hb)) (U (B.aa _ _ lV) rfl)))))
 ·intro b hb;unfold e9.foot at hb;simp only[j_,aY,b5,d_,gO]at hb;rcases hb with rfl|rfl|rfl|rfl|(rfl|rfl)|hb
  ·exact ND
  ·exact LC
  ·exact Ml
  ·exact J3
  ·exact CF hm
  ·exact CF hit
  ·exact nw b (by unfold e9.foot;simp only[aY];exact .inr (.inr (.inr (.inr hb))))
 ·have d:=h.dist;unfold e9.foot at d⊢;simp only[j_,dg,aY,pY,b5,d_,gO,m9,oM]at d⊢;refine oX d fun aG G0 EH o8 mS=>?_;refine lN aG fun a1 a2 iJ iM=>?_;refine b4 G0 fun b1 fj lV=>?_;refine Op EH fun rt kK=>?_;exact M3 ⟨a1,a2,iJ,bQ NV,bQ LO,iM⟩ ⟨b1,fj,bQ Pa,bQ Lh,lV⟩ ⟨rt,bQ Hl,bQ i1,kK⟩ ⟨bQ NY,bQ MI,o8⟩ ⟨nA,Dc⟩ wm mS
 ·intro z hz;refine bC hz ?_ fun hz=>?_
  ·simp
  ·exact iK _ (h.sub z hz)
 ·rw[aJ,dg];exact⟨fun hh=>hx (h.sub x hh),h.nodup⟩
 ·rw[jY];refine⟨h.zB,by simp,fun a ha b hb=>?_⟩;refine U (fq.mp hb) ?_;rintro rfl;exact hx ha
 ·intro z hz;rcases b5.mp hz with hz|hz
  ·exact h.yN z hz
  ·exact U (fq.mp hz) hxn
theorem iO.step (h:iO aI Y as ns q seen ((n,nd.succ.drop i)::st) ((m,it)::fs)) (h1:Y m=some (.raw (mj it))) (h3:f7 as ns n=some (a,nd)) (h4:lJ Y as ns fs st):
 iO aI (Y.put it (some (.raw (kL a.l (i+1))))) as ns q seen ((n,nd.succ.drop (i+1))::st) ((m,it)::fs):=by
 refine uv (h.four) fun J J J J J J qO=>?_;refine lN (qO it (by simp)) fun b1 fj lV wI=>?_;have d:=h.dist;unfold e9.foot at d;simp only[j_,dg,aY,pY,b5,d_,gO,m9,oM]at d;obtain⟨_,_,_,_,⟨nA,Dc⟩,wm,mS⟩:=d;refine⟨h.keep.putN (h.new it (by simp[e9.foot])) _,(B.aa _ _ (bQ b1)).trans h.sC,(B.aa _ _ (bQ fj)).trans h.wz,(B.aa _ _ (bQ lV)).trans h.tW,(B.aa _ _ (bQ wI)).trans h.t6,
  .cons ((B.aa _ _ nA).trans h1) (B.ai ..) h3 (h4.congr fun b hb=>B.aa _ _ (by rintro rfl;exact wm hb)),h.new,h.dist,h.sub,h.nodup,h.zB,h.yN⟩
theorem iO.pop (h:iO aI Y as ns q seen ((n,aD)::st) ((m,it)::fs)) (h4:lJ Y as ns fs st):
 iO aI ((((Y.put it (some (.raw o))).put q.ST (some (.list (ww (st.map Prod.fst).reverse)))).put q.fG (some (.dict (j3 (st.map Prod.fst).reverse)))).put q.eW (some (.list (fs.reverse.map fun p=>.val (.ref p.1))))) as ns q seen st fs:=by
 refine uv (h.four) fun n1 b6 dP oV u0 wG qO=>?_;refine lN (qO it (by simp)) fun b1 fj lV wI=>?_;have d:=h.dist;unfold e9.foot at d;simp only[j_,dg,aY,pY,b5,d_,gO,m9,oM]at d;obtain⟨⟨e1,e2,e3,_,_,fX⟩,⟨f1,f2,_,_,f3⟩,⟨g1,_,_,g2⟩,⟨_,_,k1⟩,⟨nA,Dc⟩,wm,mS⟩:=d;have nw:=h.new;refine⟨(((h.keep.putN (nw it (by simp[e9.foot])) _).putN (nw q.ST (by simp[e9.foot])) _).putN (nw q.fG (by simp[e9.foot])) _).putN (nw q.eW (by simp[e9.foot])) _,?_,B.ai ..,?_,?_,h4.congr fun b hb=>?_,fun b hb=>?_,?_,fun x hx=>h.sub x (.tail _ hx),?_,h.zB,h.yN⟩
 ·rw[B.aa _ _ n1,B.aa _ _ dP,B.ai]
 ·refine U (B.aa _ _ (bQ oV)) (U (B.aa _ _ wG) (U (B.aa _ _ (bQ b6)) (U (B.aa _ _ (bQ lV)) ?_)));exact h.tW
 ·rw[B.aa _ _ (bQ u0),B.ai]
 ·refine lN (qO b (by simp only[j_,b5];exact .inr hb)) fun rt kK c3 c4=>?_;exact U (B.aa _ _ kK) (U (B.aa _ _ c4) (U (B.aa _ _ rt) (U (B.aa _ _ (by rintro rfl;exact wm hb)) rfl)))
 ·refine nw b ?_;unfold e9.foot at hb⊢;simp only[j_,aY,b5]at hb⊢;rcases hb with h|h|h|h|h
  ·exact .inl h
  ·exact .inr (.inl h)
  ·exact .inr (.inr (.inl h))
  ·exact .inr (.inr (.inr (.inl h)))
  ·exact .inr (.inr (.inr (.inr (.inr h))))
 ·unfold e9.foot;simp only[dg,aY,pY];exact AA ⟨e1,e2,e3,fX⟩ ⟨f1,f2,f3⟩ ⟨g1,g2⟩ k1 mS
 ·have:=h.nodup;rw[aJ,dg]at this;exact this.2
end
end
section
open PySem.W
theorem DY (P:Params):findIn (KF P) (.ref 40) "__setattr__" =some (some (.builtin "object.__setattr__")):=by kernel_rfl
theorem B5 (P:Params):plainOver (KF P) 40=true:=by kernel_rfl
theorem Hz (P:Params) (n):plainGet (KF P) 40 n=true:=by show plainGet (KF P) 40 "" =true;kernel_rfl
theorem Fj (P:Params):isClsIn (KF P) 40=true:=by kernel_rfl
theorem Z0 (P:Params):makesIn (KF P) 40=true:=by kernel_rfl
theorem aea (P:Params):keepIn (KF P) (.ref 40)=true:=by kernel_rfl
theorem Zx (P:Params):findIn (KF P) (.ref 40) "__init__" =some (some (.ref 36)):=by kernel_rfl
theorem Xr (P:Params):typeIn (KF P) (.ref 36)=some (.type "function"):=by kernel_rfl
theorem PK (P:Params):findIn (KF P) (.ref 40) "node" =some (some (.ref 41)):=by kernel_rfl
theorem Et (P:Params):findIn (KF P) (.ref 40) "npredecessors" =some (some (.ref 42)):=by kernel_rfl
theorem JZ (P:Params):findIn (KF P) (.ref 40) "successors" =some (some (.ref 43)):=by kernel_rfl
theorem XG (P:Params):specialIn (KF P) (.ref 41) "__get__" =some (some (.builtin "member_descriptor.__get__")):=by kernel_rfl
theorem adD (P:Params):specialIn (KF P) (.ref 42) "__get__" =some (some (.builtin "member_descriptor.__get__")):=by kernel_rfl
theorem US (P:Params):specialIn (KF P) (.ref 43) "__get__" =some (some (.builtin "member_descriptor.__get__")):=by kernel_rfl
theorem Q7 (P:Params):takesIn (KF P) (.ref 41)=some true:=by kernel_rfl
theorem EN (P:Params):takesIn (KF P) (.ref 42)=some true:=by kernel_rfl
theorem K5 (P:Params):takesIn (KF P) (.ref 43)=some true:=by kernel_rfl
theorem Ls (P:Params):slotIn (KF P) 41 40=some 0:=by kernel_rfl
theorem G2 (P:Params):slotIn (KF P) 42 40=some 1:=by kernel_rfl
theorem M9 (P:Params):slotIn (KF P) 43 40=some 2:=by kernel_rfl
theorem Sj (P:Params):typeIn (KF P) (.ref 41)=some (.type "member_descriptor"):=by kernel_rfl
theorem K8 (P:Params):typeIn (KF P) (.ref 42)=some (.type "member_descriptor"):=by kernel_rfl
theorem afx (P:Params):typeIn (KF P) (.ref 43)=some (.type "member_descriptor"):=by kernel_rfl
theorem Av {K:Frag} {C p:Addr} {name:Str} (h:findIn K (.ref C) name=some (some (.ref p))) (t:takesIn K (.ref p)=some true):takerIn K C name=some (some (.ref p)):=by
 unfold takerIn;rw[h,Option.bind_some];simp[t]
theorem sG (P:Params):findIn (KF P) (.ref 137) "__setattr__" =some (some (.builtin "object.__setattr__")):=by kernel_rfl
theorem rK (P:Params):plainOver (KF P) 137=true:=by kernel_rfl
theorem jg (P:Params) (n):plainGet (KF P) 137 n=true:=by show plainGet (KF P) 137 "" =true;kernel_rfl
theorem kB (P:Params):hasDictIn (KF P) 137=true:=by kernel_rfl
theorem aaK (P:Params):makesIn (KF P) 137=true:=by kernel_rfl
theorem Ww (P:Params):keepIn (KF P) (.ref 137)=true:=by kernel_rfl
theorem C_ (P:Params):findIn (KF P) (.ref 137) "_node2info" =some none:=by kernel_rfl
theorem CO (P:Params):findIn (KF P) (.ref 137) "_ready_nodes" =some none:=by kernel_rfl
theorem F2 (P:Params):findIn (KF P) (.ref 137) "_npassedout" =some none:=by kernel_rfl
theorem Fx (P:Params):findIn (KF P) (.ref 137) "_nfinished" =some none:=by kernel_rfl
theorem q6 {K:Frag} {C:Addr} {name:Str} (h:findIn K (.ref C) name=some none):takerIn K C name=some none:=by
 unfold takerIn;refine U h ?_;rfl
theorem ae0 (P:Params):findIn (KF P) (.ref 137) "__init__" =some (some (.ref 73)):=by kernel_rfl
theorem Rf (P:Params):findIn (KF P) (.ref 137) "_get_nodeinfo" =some (some (.ref 80)):=by kernel_rfl
theorem Rg (P:Params):findIn (KF P) (.ref 137) "add" =some (some (.ref 87)):=by kernel_rfl
theorem PC (P:Params):findIn (KF P) (.ref 137) "prepare" =some (some (.ref 92)):=by kernel_rfl
theorem T4 (P:Params):findIn (KF P) (.ref 137) "get_ready" =some (some (.ref 99)):=by kernel_rfl
theorem Sv (P:Params):findIn (KF P) (.ref 137) "is_active" =some (some (.ref 106)):=by kernel_rfl
theorem TR (P:Params):findIn (KF P) (.ref 137) "done" =some (some (.ref 120)):=by kernel_rfl
theorem IS (P:Params):findIn (KF P) (.ref 137) "_find_cycle" =some (some (.ref 127)):=by kernel_rfl
theorem Zr (P:Params):typeIn (KF P) (.ref 73)=some (.type "function"):=by kernel_rfl
theorem OQ (P:Params):typeIn (KF P) (.ref 80)=some (.type "function"):=by kernel_rfl
theorem Pw (P:Params):typeIn (KF P) (.ref 87)=some (.type "function"):=by kernel_rfl
theorem QW (P:Params):typeIn (KF P) (.ref 92)=some (.type "function"):=by kernel_rfl
theorem acp (P:Params):typeIn (KF P) (.ref 99)=some (.type "function"):=by kernel_rfl
theorem VI (P:Params):typeIn (KF P) (.ref 106)=some (.type "function"):=by kernel_rfl
theorem S3 (P:Params):typeIn (KF P) (.ref 120)=some (.type "function"):=by kernel_rfl
theorem Gi (P:Params):typeIn (KF P) (.ref 127)=some (.type "function"):=by kernel_rfl
end
section
open PySem.W PySem.Calls Builtin Builtin.ObjectAttr Builtin.Getset_descriptor
noncomputable abbrev cX (c:ah):Frag:=KF c.w.params
theorem aT.oN (t:aT c) (top:c.H0.StaysIn h):(cX c).In h:=t.K.keeps top
noncomputable abbrev zl (P:Params) (kvs:List (Str×Tok×Value)) (n:Nat):Obj:={cls:=.type "dict",data:=.dict (kvs.map fun x=>(⟨PyData.keyHash P x.1,.str x.1 x.2.1,x.2.2⟩:DictEntry)).toArray n}
noncomputable def tV (kvs:List (Str×Tok×Value)) (n:Str):Option Value:=(kvs.find? fun x=>x.1==n).map (fun x=>x.2.2)
theorem Yd (P:Params) (kvs:List (Str×Tok×Value)):(kvs.map fun x=>(⟨PyData.keyHash P x.1,.str x.1 x.2.1,x.2.2⟩:DictEntry)).any (fun x=>x.refKey)=false:=by
 rw[List.any_eq_false];intro e he;refine wS (ao.mp he) fun x J s4=>?_;subst s4;simp[DictEntry.refKey]
theorem Wr (name) (es:List DictEntry) (h:es.any (fun x=>x.refKey)=false):(match es.find? (fun x=>x.key.isStr name)with
 |some e=>some (some e.val)
 |none=>if es.any (fun x=>x.refKey)then none else some none)=some ((es.find? (fun x=>x.key.isStr name)).map (fun x=>x.val)):=by
 cases es.find? (fun x=>x.key.isStr name)with
 |none=>simp only[JU,h,j7,jE]
 |some e=>rfl
theorem Ae (P:Params) (kvs) (n) (name):lookIn name (zl P kvs n)=some (tV kvs name):=by
 refine(Wr name _ (Yd P kvs)).trans ?_;have:List.find? (fun x=>x.key.isStr name) (kvs.map fun x=>(⟨PyData.keyHash P x.1,.str x.1 x.2.1,x.2.2⟩:DictEntry))=(kvs.find? fun x=>x.1==name).map fun x=>(⟨PyData.keyHash P x.1,.str x.1 x.2.1,x.2.2⟩:DictEntry):=by
  rw[List.find?_map];rfl
 refine U this ?_;unfold tV;cases kvs.find? fun x=>x.1==name<;>rfl
theorem AI (h:kvs.map Prod.fst=l.map Prod.fst) (bL:au Z (kvs.map (fun x=>x.2.2)) (l.map Prod.snd)) (x):(cI l x=none→tV kvs x=none)∧∀d,cI l x=some d→∃v,tV kvs x=some v∧Tells Z v d:=by
 refine Am (f:=fun p:Str×Tok×Value=>p.1) (g:=(fun x=>x.2.2)) (P:=fun kvs l=>(cI l x=none→tV kvs x=none)∧∀d,cI l x=some d→∃v,tV kvs x=some v∧Tells Z v d) ?_ ?_ h bL
 ·exact⟨fun J=>rfl,fun d h=>by injection h⟩
 ·intro p kvs d l a _ _ ih;unfold cI tV at*;by_cases e:p.1=x
  ·simp[e];exact a
  ·simp[e]at ih⊢;exact ih
structure ac9 (c:ah) (Z:TW) (h:Heap) (a C dx:Addr) (l:List (Option D)) (al:List (Str×D)) (bS:Array (Option Value)) (kvs:List (Str×Tok×Value)) (n:Nat):Prop where
 at_:InstAt h a {cls:=.ref C,dict:=some dx,data:=.plain,slots:=bS} C (some (zl c.w.params kvs n))
 slots:ig Z bS.toList l
 keys:kvs.map Prod.fst=al.map Prod.fst
 vals:au Z (kvs.map (fun x=>x.2.2)) (al.map Prod.snd)
theorem tM (r:bz c Z h V O Y) (ha:Y a=some (.inst C dx l)) (hd:Y dx=some (.attrs al)):∃bS kvs n,ac9 c Z h a C dx l al bS kvs n:=by
 refine Op (r.cells a _ ha) fun aG J=>?_;refine wS aG fun o xz S0=>wS S0 fun bS abf hs=>?_;subst abf;refine Op (r.cells dx _ hd) fun aG J=>?_;refine wS aG fun o' bG YM=>fB YM fun kvs n adC hk FS=>?_;subst adC;exact⟨bS,kvs,n,⟨xz,rfl,rfl,bG⟩,hs,hk,FS⟩
noncomputable def E1:D→Bool
 | .val v=>handedIn v
 |_=>true
theorem OU (t:Tells Z v d) (h:E1 d=true):handedIn v=true:=by cases t<;>first|exact h|rfl
section
variable {c:ah} {k:Nat} {O:XV} {Y:B}
theorem VE (h:ig Z bS l):∀{i:Nat} {d:D},l[i]?=some (some d)→∃v,bS[i]?=some (some v)∧Tells Z v d:=by
 induction h with
 |nil=>intro i d h;simp at h
 |some a r ih=>
  intro i d h;rcases i with _|i
  ·simp at h;subst h;exact⟨_,rfl,a⟩
  ·exact ih (i:=i) h
 |none r ih=>
  intro i d h;rcases i with _|i
  ·simp at h
  ·exact ih (i:=i) h
theorem aE.nO (t:aT c) (xz:f8 c k O Y o (.val (.ref a))) (ha:Y a=some (.inst C dx l)) (hd:Y dx=some (.attrs al)) (s5:cI al name=Option.none)
 (hg:plainGet (cX c) C name=true) (hf:findIn (cX c) (.ref C) name=some (some (.ref f))) (FS:typeIn (cX c) (.ref f)=some (.type "function")) (HO:Callee c (.ref f)) (yP:ie c k O Y args ds) (hc:c_ c k O Y (.ref f) (.val (.ref a)::ds) Sc)
 (he:∀V,∃pl,eval (.Call (.Attribute o name c5) args [] pos) V=(do
  let iC←eval o V
  standAt c5.atName
  let(f,first)←holding [iC] (getMethod iC name pl)
  callWith pos f first (backTo pos (starEach args V)) (backToKw pos (keywordEach [] V))):=by intro;exact⟨_,rfl⟩)
 (hs:∀V,(starEach args V).all (fun y=>!y.1)=true:=by intro;rfl):aE c k O Y (.Call (.Attribute o name c5) args [] pos) Sc:=by
 intro A V s Z ok r Q E q;obtain⟨pl,he⟩:=he V;refine methodCall_KW (pl:=pl) (xz A V s Z ok r _ E fun v s₁ aC EQ gT=>?_) he;refine gT.v ?_;have r₁:=r.step EQ;refine uS (tM r₁ ha hd) fun bS kvs n im=>?_;refine method_fn (t.oN r₁.top) im.at_ (qV hg).1 (qV hg).2 hf FS (by show(lookIn name _).map _=_;rw[Ae,(AI im.keys im.vals name).1 s5];rfl) ?_;dsimp only;show wpAny c.M A (callWith pos (.ref f) [.ref a] (backTo pos (starEach args V)) []) Q E s₁;refine lR HO (nu yP (ok.step EQ) r₁ hs fun H s₂ bx t₂ aZ=>⟨t₂.top,?_⟩);have st:=EQ.trans t₂;have r₂:=r₁.step t₂;exact hc A V s₂ bx (.ref a::H) (ok.step st) r₂ (.cons (.val _) aZ) Q E fun d I v s' Z' aq s5 hp=>q d I v s' Z' ((st.after r).trans aq) s5 hp
end
end
section
open PySem.W PySem.Calls Builtin Builtin.ObjectAttr Builtin.Getset_descriptor
noncomputable def p6:List (Str×Tok×Value)→Str→Tok→Value→List (Str×Tok×Value)
 |[],n,t,v=>[(n,t,v)]
 |(m,t',w)::r,n,t,v=>if m==n then(m,t',v)::r else(m,t',w)::p6 r n t v
theorem PV (m t' w r n t v):p6 ((m,t',w)::r) n t v=if m==n then(m,t',v)::r else(m,t',w)::p6 r n t v:=rfl
noncomputable def iD:List (Str×D)→Str→D→List (Str×D)
 |[],n,d=>[(n,d)]
 |(m,w)::r,n,d=>if m==n then(m,d)::r else(m,w)::iD r n d
theorem GJ (m w r n d):iD ((m,w)::r) n d=if m==n then(m,d)::r else(m,w)::iD r n d:=rfl
theorem Tc (n d):iD [] n d=[(n,d)]:=rfl
theorem Qf:∀l n d,(iD l n d).length≤l.length+1
 |[],_,_=>aH _
 |(m,w)::r,n,d=>by
  rw[GJ];split
  ·simp
  ·have:=Qf r n d;simp;assumption
theorem Mb (P:Params) (name) (tk) (v):∀kvs:List (Str×Tok×Value),PySem.W.putL name (PyData.keyHash P name) (.str name tk) v (kvs.map fun x=>(⟨PyData.keyHash P x.1,.str x.1 x.2.1,x.2.2⟩:DictEntry))=(p6 kvs name tk v).map fun x=>(⟨PyData.keyHash P x.1,.str x.1 x.2.1,x.2.2⟩:DictEntry)
 |[]=>rfl
 |(m,t,w)::r=>by
  rw[aJ,PySem.W.putL,PV];have:(Value.str m t).isStr name=(m==name):=rfl;dsimp only;refine U this ?_;split
  ·rfl
  ·refine U (Mb P name tk v r) ?_;rfl
theorem adR (s5:Tells Z v d) (h:kvs.map Prod.fst=l.map Prod.fst) (bL:au Z (kvs.map (fun x=>x.2.2)) (l.map Prod.snd)):
 (p6 kvs name tk v).map Prod.fst=(iD l name d).map Prod.fst∧au Z ((p6 kvs name tk v).map (fun x=>x.2.2)) ((iD l name d).map Prod.snd):=by
 refine Am (f:=fun p:Str×Tok×Value=>p.1) (g:=(fun x=>x.2.2)) (P:=fun kvs l=>(p6 kvs name tk v).map Prod.fst=(iD l name d).map Prod.fst∧au Z ((p6 kvs name tk v).map (fun x=>x.2.2)) ((iD l name d).map Prod.snd)) ?_ ?_ h bL
 ·exact⟨rfl,.cons s5 .nil⟩
 ·intro p kvs d l a h h2 ih;rw[PV,GJ];split
  ·exact⟨cN (fun x=>p.1::x) h,.cons s5 h2⟩
  ·exact⟨cN (fun x=>p.1::x) ih.1,.cons a ih.2⟩
section
variable {prog:Program} {w:World} {A:Around} {K:Frag} {C x:Addr} {s:Shared} {R:Result→Shared→Prop}
set_option tactic.hygienic true in theorem SP {Bj od:Obj} {dx:Addr} {name:Str} {tk:Tok} {v:Value} {es:List DictEntry} {n:Nat} (X:K.In s.heap) (br:InstAt s.heap x Bj C (some od)) (hd:Bj.dict=some dx) (hp:plainOver K C=true) (FS:takerIn K C name=some none) (hh:hasDictIn K C=true)
 (hl:(lookIn name od).isSome=true) (hc:od.isFreed=false) (e':(Obj.putName name (PyData.keyHash w.params name) (.str name s.toks) v od).data= .dict es.toArray n) (hz:es.length≤1000)
 (h:R (.ok (.ret .none)) {s with heap:=s.heap.update dx (Obj.putName name (PyData.keyHash w.params name) (.str name s.toks) v),toks:=s.toks+1}):
 codeAny (model prog w) A (.call (.builtin "object.__setattr__") ⟨[.ref x,.str name tk,v],[]⟩) R s:=by
 refine osa_open X br hp FS fun b=>?_;refine wS (any_some hh) fun cd hc hd'=>?_;obtain⟨hx,ez,M2,D⟩:=br;obtain⟨yM,afL,agb,yS⟩:=Bj;dsimp only at ez hd;subst ez hd;replace D:s.heap.get? dx=some od:=D;have p8:(s.heap.update dx (Obj.putName name (PyData.keyHash w.params name) (.str name s.toks) v)).get? dx=some (Obj.putName name (PyData.keyHash w.params name) (.str name s.toks) v od):=kD _ D (by
  revert e';cases Obj.putName name (PyData.keyHash w.params name) (.str name s.toks) v od;intro e';subst e';rfl)
 refine u8 (On (u8 (u8 (wpAny_loadPart hx (u8 ((looks_clsIn X hc).here ?_))))));refine U hd' ?_;refine On (a:=some dx) (u8 (On (u8 ?_)));unfold nsSet;refine u8 (u8 (pC (On (u8 (wpAny_mkText (u8 (wpAny_loadPart D ?_)))))));unfold lookIn at hl;split at hl
 ·rename_i Kl ze q;refine U q ?_;dsimp only;have c:(!Kl.any (fun x=>x.key.isStr name)&&Kl.any (fun x=>x.refKey))=false:=by
   refine ZB Array.any_toList (ZB Array.any_toList ?_);split at hl
   ·rename_i Wc he;rw[zX.mpr ⟨Wc,List.mem_of_find?_eq_some he,List.find?_some he⟩];rfl
   ·split at hl
    ·injection hl
    ·rename_i z;rw[DK]at z;rw[z,JF]
  rw[aRefKeyMayBeTheName_at,c];refine wpAny_updatePart D ?_;refine u8 (wpAny_lookBehind p8 (by refine U e' ?_;exact pastItsLine_dict (by refine U jv (U cQ ?_);lia)) ?_);exact On h
 ·injection hl
end
section
variable {c:ah} {k:Nat} {O:XV} {Y:B}
theorem aaJ {A:Around} {V:Env} {s:Shared} {Z:TW} {a C dx:Addr} {l:List (Option D)} {al:List (Str×D)} {name:Str} {v:Value} {d:D} {Q:Unit→Shared→Prop} {E:Value→Shared→Prop} (t:aT c) (r:bz c Z s.heap V O Y) (ha:Y a=some (.inst C dx l)) (hd:Y dx=some (.attrs al))
 (hs:findIn (cX c) (.ref C) "__setattr__" =some (some (.builtin "object.__setattr__"))) (hp:plainOver (cX c) C=true) (FS:takerIn (cX c) C name=some Option.none) (hh:hasDictIn (cX c) C=true) (hz:al.length≤900) (s5:Tells Z v d)
 (q:∀s',aN c Y s Z (Y.put dx (some (.attrs (iD al name d)))) s' Z→Q () s'):wpAny c.M A (setAttr (.ref a) name v) Q E s:=by
 refine uS (tM r ha hd) fun bS kvs n im=>?_;have X:=t.oN r.top;have hdx:=im.at_.dict;replace hdx:s.heap.get? dx=some (zl c.w.params kvs n):=hdx;have rC:∀tk,Obj.putName name (PyData.keyHash c.w.params name) (.str name tk) v (zl c.w.params kvs n)=zl c.w.params (p6 kvs name tk v) (putN name (kvs.map fun x=>(⟨PyData.keyHash c.w.params x.1,.str x.1 x.2.1,x.2.2⟩:DictEntry)) n):=fun tk=>by
  have:=putName_dict name (PyData.keyHash c.w.params name) (.str name tk) v (kvs.map fun x=>(⟨PyData.keyHash c.w.params x.1,.str x.1 x.2.1,x.2.2⟩:DictEntry)) n;rw[Mb]at this;exact this
 have kt:=fun tk=>adR (name:=name) (tk:=tk) s5 im.keys im.vals;have Yg:∀tk,(p6 kvs name tk v).length≤1000:=fun tk=>by
  have h1:=cN List.length (kt tk).1;simp only[b8]at h1;have:=Qf al name d;exact jX h1 this (Ev (gr ‹_›) (by decide))
 refine set_plain X im.at_ hs (SP (s:={s with toks:=s.toks+1}) (dx:=dx) X im.at_ rfl hp FS hh (by rw[Ae];rfl) rfl (by rw[rC]) (by rw[b8];exact Yg _) ?_);have av:Heap.SameBut dx s.heap (s.heap.update dx (Obj.putName name (PyData.keyHash c.w.params name) (.str name (s.toks+1)) v)):=mK ..;refine q _ (aN.put (t:=s.toks+1+1) (eu:=.attrs (iD al name d)) r.cells r.top r.sub (by refine U hd ?_;simp) av (kD _ hdx (by rw[rC];rfl)) (fun H=>by rw[rC];simp) ?_ (by lia));rw[rC];exact r9 _ _ rfl ((kt _).1) ((kt _).2)
end
end
section
open PySem.W PySem.Calls Builtin Builtin.ObjectAttr Builtin.Getset_descriptor
noncomputable def b_ (c:ah) (k:Nat) (O:XV) (Y:B) (a:Addr) (name:Str) (d:D):Prop:=
 ∀(A:Around) (V:Env) (s:Shared) (Z:TW),Ok c k A s→bz c Z s.heap V O Y→∀(Q E:Value→Shared→Prop),Gives c s Z d Q→wpAny c.M A (getAttr (.ref a) name true) Q E s
noncomputable def gH (c:ah) (k:Nat) (O:XV) (Y:B) (a:Addr) (name:Str) (d:D) (I:B):Prop:=
 ∀(A:Around) (V:Env) (s:Shared) (Z:TW) (v:Value),Ok c k A s→bz c Z s.heap V O Y→Tells Z v d→∀(Q:Unit→Shared→Prop) (E:Value→Shared→Prop),(∀s',aN c Y s Z I s' Z→Q () s')→wpAny c.M A (setAttr (.ref a) name v) Q E s
noncomputable def G3 (l:List (Option D)) (i:Nat) (d:D):List (Option D):=(l++List.replicate (i+1-l.length) none).set i (some d)
theorem X8 (h:ig Z bS l):ig Z (bS++List.replicate m none) (l++List.replicate m none):=
 h.rec (motive:=fun bS l J=>ig Z (bS++List.replicate m none) (l++List.replicate m none)) (m.rec (motive:=fun m=>ig Z ([]++List.replicate m none) ([]++List.replicate m none)) .nil fun J b=>.none b) (fun a J b=>.some a b) fun J b=>.none b
theorem ab5 (s5:Tells Z v d) (i) (h:ig Z bS l):ig Z (bS.set i (some v)) (l.set i (some d)):=
 h.rec (motive:=fun bS l J=>∀i,ig Z (bS.set i (some v)) (l.set i (some d))) (fun J=>.nil) (fun a r b i=>i.rec (.some s5 r) fun i J=>.some a (b i)) (fun r b i=>i.rec (.some s5 r) fun i J=>.none (b i)) i
theorem UX (h:ig Z bS l):bS.length=l.length:=
 h.rec (motive:=fun bS l J=>bS.length=l.length) rfl (fun J J b=>cN (fun x=>x+1) b) fun J b=>cN (fun x=>x+1) b
theorem afC (s5:Tells Z v d) (i) (h:ig Z bS.toList l):ig Z ((bS++Array.replicate (i+1-bS.size) none).setIfInBounds i (some v)).toList (G3 l i d):=by
 refine U Array.toList_setIfInBounds (U Ij (U Array.toList_replicate ?_));have:bS.size=l.length:=by refine ZB gB ?_;exact UX h
 exact U this (ab5 s5 i (X8 h))
section
variable {prog:Program} {w:World} {A:Around} {K:Frag} {C x:Addr} {s:Shared} {R:Result→Shared→Prop}
theorem aeG (X:K.In s.heap) (br:InstAt s.heap x Bj C od) (hp:slotIn K p C=some i) (hi:i<1000)
 (h:R (.ok (.ret .none)) {s with heap:=s.heap.update x fun o=>{o with slots:=(o.slots++Array.replicate (i+1-o.slots.size) none).setIfInBounds i (some v)}}):
 codeAny (model prog w) A (.call (.builtin "member_descriptor.__set__") ⟨[.ref p,.ref x,v],[]⟩) R s:=by
 refine acw (slot_of X hp) fun n I9 owner behind oZ d bS cd xz hc hm hb s4=>?_;subst s4;obtain⟨hh,g,Gr,t,os⟩:=s;have CU:=br.type (M:=model prog w);have Ay:=looks_mroIn (M:=model prog w) X hm;have ady:Looks (model prog w) hh (Slots.slotNamesOf (.ref C)) cd.slotNames:=(looks_clsIn X hc).andThen .now;have hx:=br.at_;dsimp only at xz hx CU Ay;have f0:=DA (M:=model prog w) xz 0 (v:=.str n I9) rfl;have f1:=DA (M:=model prog w) xz 1 (v:=owner) rfl;have f3:=DA (M:=model prog w) xz 3 (v:=.builtin "proto.slot#set") rfl;have f4:=DA (M:=model prog w) xz 4 (v:=.int behind oZ) rfl;refine zA KF.slot_mset.plain KF.entry_mset (KF.slot_mset.check _ _ _ _ _ _ _ _ ⟨_,xz,rfl⟩ (KF.args_mset _ _ _) ?_);unfold Builtin.«member_descriptor.__set__» descrSet descrStoreThrough descrCheckInstance descrNameAndClass isInstance;have agc:Looks (model prog w) hh (descrItself (.ref p)) [.ref p]:=((Looks.ld (part:=none) xz).andThen .now).andThen (qe (by kernel_rfl))
 repeat lk
 refine⟨F6 _ (by decide+kernel),mX KF.entry_slotset ?_⟩;unfold Builtin.«proto.slot#set» Slots.target
 repeat lk
 refine U (Tk hb) ?_;refine On (u8 ?_);unfold setSlotAt;dsimp only;refine U (Tk (by refine U cQ ?_;exact Nat.not_le_of_lt (fP ‹_› (by decide)))) ?_;exact wpAny_updatePart hx (On h)
end
section
variable {c:ah} {k:Nat} {O:XV} {Y:B}
theorem b_.attr (t:aT c) (ha:Y a=some (.inst C dx l)) (hd:Y dx=some (.attrs al)) (s5:cI al name=some d)
 (hg:plainGet (cX c) C name=true) (hh:hasDictIn (cX c) C=true) (hf:findIn (cX c) (.ref C) name=some Option.none) (hz:E1 d=true):b_ c k O Y a name d:=by
 intro A V s Z ok r Q E g;refine uS (tM r ha hd) fun bS kvs n im=>?_;refine wS ((AI im.keys im.vals name).2 d s5) fun v e1 e2=>?_;exact get_value (t.oN r.top) im.at_ (qV hg).1 (findObj_own hh hf rfl (by rw[Ae,e1])) (OU e2 hz) (g v _ Z (r.start.toks (b7 _)) e2)
theorem b_.slot (t:aT c) (ha:Y a=some (.inst C dx l)) (hd:Y dx=some (.attrs al)) (s5:l[i]?=some (some d))
 (hg:plainGet (cX c) C name=true) (hc:isClsIn (cX c) C=true) (hf:findIn (cX c) (.ref C) name=some (some (.ref p))) (M2:specialIn (cX c) (.ref p) "__get__" =some (some (.builtin "member_descriptor.__get__"))) (FS:takesIn (cX c) (.ref p)=some true) (hp:slotIn (cX c) p C=some i) (hz:E1 d=true):b_ c k O Y a name d:=by
 intro A V s Z ok r Q E g;refine uS (tM r ha hd) fun bS kvs n im=>?_;refine wS (VE im.slots s5) fun v e1 e2=>?_;have X:=t.oN r.top;refine get_bind X im.at_ (qV hg).1 (findObj_data hc hf M2 FS) (qV hg).2 (oO (slot_get (s:={s with toks:=s.toks+1}) X im.at_ hp ?_ (handed_on (OU e2 hz) ?_)))
 ·dsimp only;rw[←vX,e1];rfl
 ·exact g v _ Z (r.start.toks (b7 _)) e2
theorem gH.attr (t:aT c) (ha:Y a=some (.inst C dx l)) (hd:Y dx=some (.attrs al))
 (hs:findIn (cX c) (.ref C) "__setattr__" =some (some (.builtin "object.__setattr__"))) (hp:plainOver (cX c) C=true) (FS:takerIn (cX c) C name=some Option.none) (hh:hasDictIn (cX c) C=true) (hz:al.length≤900):
 gH c k O Y a name d (Y.put dx (some (.attrs (iD al name d)))):=
 fun A V s Z v ok r s5 Q E q=>aaJ t r ha hd hs hp FS hh hz s5 q
theorem gH.slot (t:aT c) (ha:Y a=some (.inst C dx l)) (hd:Y dx=some (.attrs al))
 (hs:findIn (cX c) (.ref C) "__setattr__" =some (some (.builtin "object.__setattr__"))) (hp:plainOver (cX c) C=true) (FS:takerIn (cX c) C name=some (some (.ref p))) (hT:typeIn (cX c) (.ref p)=some (.type "member_descriptor")) (hi:slotIn (cX c) p C=some i) (hz:i<1000):
 gH c k O Y a name d (Y.put a (some (.inst C dx (G3 l i d)))):=by
 intro A V s Z v ok r s5 Q E q;refine uS (tM r ha hd) fun bS kvs n im=>?_;have X:=t.oN r.top;refine set_plain X im.at_ hs (osa_descr (s:={s with toks:=s.toks+1}) KF.slot_mset X im.at_ hp FS hT (aeG (s:={s with toks:=s.toks+1}) X im.at_ hi hz ?_));refine q _ (aN.put (t:=s.toks+1) (eu:=.inst C dx (G3 l i d)) r.cells r.top r.sub (by refine U ha ?_;simp) (mK ..) (kD _ im.at_.at_ rfl) (fun H=>by simp) ⟨_,rfl,afC s5 i im.slots⟩ (b7 _))
theorem f8.ga {o:Expr} {name:Str} {pos:Pos} {a:Addr} {d:D} (xz:f8 c k O Y o (.val (.ref a))) (h:b_ c k O Y a name d)
 (he:∀V,eval (.Attribute o name pos) V=(do
  let iC←eval o V
  standAt pos.atName
  let r←holding [iC] (getAttr iC name true)
  letTemporaryGo o iC r
  pure r):=by intro;with_unfolding_all rfl):f8 c k O Y (.Attribute o name pos) d:=by
 intro A V s Z ok r Q E g;refine Attribute_any_ (xz A V s Z ok r _ E fun v s₁ aC EQ gT=>?_) (he V);exact gT.v (h A V s₁ aC (ok.step EQ) (r.step EQ) Q E (Gives.of (c:=c) g EQ))
theorem FM.nX (he:aE c k O Y e fun d I=>f8 c k O I o (.val (.ref a))∧∃gK,gH c k O I a name d gK∧Sc (.next O gK))
 (hs:∀V,swapsWith e (some (.Attribute o name c5)) pos.line V=pure false:=by intros;rfl):FM c k O Y (.Assign [.Attribute o name c5] e pos) Sc:=by
 intro A V s bs Z ok w Q E q;refine plainObj_wpAny_Assign_Attribute (he A V s Z ok w.rd _ E fun d I v s₁ aC aq s5 ZM=>Op ZM fun xz aet=>wS aet fun gK HZ uN=>?_) (hs V);have w₁:=w.after aq;have jk:=ok.after aq;refine xz A V s₁ aC jk w₁.rd _ E fun Cb s₂ bx t₂ qU=>?_;refine qU.v ?_;have w₂:=w₁.step t₂;refine HZ A V s₂ bx v (jk.step t₂) w₂.rd (s5.mono t₂.le) _ E fun aF An=>?_;exact q (.next O gK) .next aF bx ((aq.run.trans (t₂.run I)).trans An.run) (w₂.after An) .next uN
theorem Rs.Gh:Rs c k O Y (inplaceOp .Add) (.int a) (.int b) (.int (a+b)):=by
 intro A V s Z bg bK ok ⟨_,top,sub,_,_,_,_⟩ h₁ h₂ Q E g;refine h₁.i fun J=>?_;refine h₂.i fun J=>?_;exact iadd_int (gV g top sub (.int _ _) (b7 _))
theorem Rs.aa4:Rs c k O Y (inplaceOp .Sub) (.int a) (.int b) (.int (a-b)):=by
 intro A V s Z bg bK ok ⟨_,top,sub,_,_,_,_⟩ h₁ h₂ Q E g;refine h₁.i fun J=>?_;refine h₂.i fun J=>?_;exact isub_int (gV g top sub (.int _ _) (b7 _))
theorem FM.Cs (xz:f8 c k O Y o (.val (.ref a))) (hg:b_ c k O Y a name d₁) (he:f8 c k O Y e d₂) (Tn:Rs c k O Y (inplaceOp op) d₁ d₂ d)
 (HZ:gH c k O Y a name d I) (uN:Sc (.next O I)):FM c k O Y (.AugAssign (.Attribute o name c5) op e pos) Sc:=by
 intro A V s bs Z ok w Q E q;refine wpAny_AugAssign_AttributeAny (xz A V s Z ok w.rd _ E fun Cb s₁ aC EQ qU=>?_);refine qU.v ?_;have w₁:=w.step EQ;have jk:=ok.step EQ;refine hg A V s₁ aC jk w₁.rd _ E fun bg s₂ bx t₂ We=>he A V s₂ bx (jk.step t₂) (w₁.step t₂).rd _ E fun bK aF er t₃ S2=>?_;have w₃:=(w₁.step t₂).step t₃;have u5:=(jk.step t₂).step t₃;refine Tn A V aF er bg bK u5 w₃.rd (We.mono t₃.le) S2 _ E fun v iY oh t₄ s5=>?_;have iP:=w₃.step t₄;refine HZ A V iY oh v (u5.step t₄) iP.rd s5 _ E fun gY aq=>?_;exact q (.next O I) .next gY oh (((((EQ.trans t₂).trans t₃).trans t₄).run Y).trans aq.run) (iP.after aq) .next uN
end
end
section
open PySem.W PySem.Calls Builtin Builtin.ObjectAttr Builtin.Getset_descriptor
theorem callWith_K (t:aT c) (hk:keepIn (cX c) f=true)
 (h:wpAny c.M A (evalArgs f true args []) (fun a s₁=>c.H0.StaysIn s₁.heap∧wpAny c.M A (call f (first++a.pos) a.kw) Q E s₁) E s):wpAny c.M A (callWith pos f first args []) Q E s:=by
 unfold callWith;refine u8 (bW (dQ h (fun a s₁ h₁=>u8 (f6 ?_)) fun J J x=>x));have tail:∀{t:Sem Value},wpAny c.M A t Q E s₁→wpAny c.M A (t>>=fun r=>holding [r] point>>=fun J=>pure r) Q E s₁:=
  fun FS=>u8 (dQ FS (fun r s₂ hr=>u8 (bW (yJ (On hr)))) fun J J x=>x)
 have mk:∀m,wpAny c.M A (callMarked m f (first++a.pos) a.kw) Q E s₁:=fun m=>by unfold callMarked;exact Calls.wpAny_keep h₁.2
 refine wS (looks_keep (M:=c.M) hk (t.oN h₁.1)) fun dI Oe lk=>?_;refine u8 (lk.here ?_);have op:∀H,wpAny c.M A (operate H (call f (first++a.pos) a.kw)) Q E s₁:=fun H Γ p uW=>by rw[Sem.wp_operate];exact h₁.2 Γ p uW
 cases hs:(args.any Prod.fst||([]:List (Option Str×Sem Value)).any (fun x=>x.1.isNone))with
 |false=>
  rcases Oe with rfl|rfl
  ·show wpAny c.M A (if args.length+2*([]:List (Option Str×Sem Value)).length>30 then(call f (first++a.pos) a.kw>>=fun r=>holding [r] point>>=fun J=>pure r)else(callMarked plainCall f (first++a.pos) a.kw>>=fun r=>holding [r] point>>=fun J=>pure r)) Q E s₁;split
   ·exact tail h₁.2
   ·exact tail (mk _)
  ·exact tail h₁.2
 |true=>
  rcases Oe with rfl|rfl
  ·exact tail (mk _)
  ·exact tail (op _)
section
variable {c:ah} {k:Nat} {O:XV} {Y:B}
theorem Ok.aao (x:Ok c (k+1) A s):Ok c k (A.under (.builtin "type.__call__" ⟨.ref C::H,[]⟩)) s:=by
 refine⟨?_,?_,?_,x.tok,x.hand⟩
 ·have:=x.depth;show A.depth+1+k<900;exact oH ‹_›
 ·have:=x.units;have e:(A.under (.builtin "type.__call__" ⟨.ref C::H,[]⟩)).units=A.units+(Code.builtin "type.__call__" ⟨.ref C::H,[]⟩).cUnits:=rfl;have e2:(Code.builtin "type.__call__" ⟨.ref C::H,[]⟩).cUnits≤60:=by show(Code.builtin "type.__call__" ⟨[],[]⟩).cUnits≤60;decide+kernel
  exact U e (B7 this e2)
 ·refine wS (x.frames) fun l a b=>?_;exact⟨l,by show(A.under _).frames=_;refine ZB a ?_;rfl,b⟩
theorem Xw {Sc:D→B→Prop} {Q E:Value→Shared→Prop} (t:aT c) (hm:makesIn (cX c) C=true) (hi:findIn (cX c) (.ref C) "__init__" =some (some (.ref zH))) (Jc:typeIn (cX c) (.ref zH)=some (.type "function"))
 (xP:∀x dx,Y x=Option.none→Y dx=Option.none→x≠dx→eL c k (.ref zH) (.val (.ref x)::ds) ((Y.put dx (some (.attrs []))).put x (some (.inst C dx []))) (fun d I=>d= .val .none∧Sc (.val (.ref x)) I))
 (ok:Ok c (k+1) A s) (top:c.H0.StaysIn s.heap) (sub:Sub Z s.heap) (mo:gj c Z s.heap Y) (aZ:au Z H ds)
 (q:∀d I v s' Z',aN c Y s Z I s' Z'→Tells Z' v d→Sc d I→Q v s'):wpAny c.M A (call (.ref C) H) Q E s:=by
 have X:=t.oN top;obtain⟨hh,g,d,tk,os⟩:=s;refine oO (make_core (makes_of X hm) (looks_findIn X hi) (fun self=>bind_fn X self Jc) (.inl rfl) ?_);have nQ:aN c Y ⟨hh,g,d,tk,os⟩ Z (Y.put hh.objs.size (some (.attrs []))) ⟨hh.push emptyDict,g,d,tk,os⟩ Z:=
  aN.new (s:=⟨hh,g,d,tk,os⟩) (t:=tk) (cl:=.attrs []) (o:=emptyDict) mo top sub rfl ⟨[],0,rfl,rfl,.nil⟩ (aH _)
 have mT:(hh.push emptyDict).objs.size=hh.objs.size+1:=eS ..;have Yh:aN c (Y.put hh.objs.size (some (.attrs []))) ⟨hh.push emptyDict,g,d,tk,os⟩ Z ((Y.put hh.objs.size (some (.attrs []))).put (hh.objs.size+1) (some (.inst C hh.objs.size []))) ⟨(hh.push emptyDict).push (instObj C hh.objs.size),g,d,tk,os⟩ Z:=by
  have:=aN.new (s:=⟨hh.push emptyDict,g,d,tk,os⟩) (t:=tk) (cl:=.inst C hh.objs.size []) (o:=instObj C hh.objs.size) nQ.cells nQ.top nQ.sub rfl ⟨#[],rfl,.nil⟩ (aH _);rw[mT]at this;exact this
 have aq:=nQ.trans Yh;have fr:∀a,hh.objs.size≤a→Y a=Option.none:=fun a ha=>by
  induction e:Y a with
  |none=>rfl
  |some cl=>
   obtain⟨⟨o,xz,_⟩,_⟩:=mo a cl e;exact absurd (cE xz) (eB.mpr ha)
 refine xP (hh.objs.size+1) hh.objs.size (fr _ (b7 _)) (fr _ (aH _)) (g_ (jy _)) _ _ Z (.ref (hh.objs.size+1)::H) ((ok.aao).af aq.af) aq.top aq.sub (.cons (.val _) aZ) aq.cells _ fun ck I v s' Z' afb s5 hp=>?_;obtain⟨rfl,hp⟩:=hp;exact s5.v ⟨rfl,q _ I _ s' Z' (aq.trans afb) (.val _) hp⟩
theorem aE.make (t:aT c) (hf:f8 c (k+1) O Y (.Name n p) (.val (.ref C))) (hk:keepIn (cX c) (.ref C)=true) (ha:ie c (k+1) O Y args ds) (hm:makesIn (cX c) C=true) (hi:findIn (cX c) (.ref C) "__init__" =some (some (.ref zH))) (Jc:typeIn (cX c) (.ref zH)=some (.type "function"))
 (xP:∀x dx,Y x=Option.none→Y dx=Option.none→x≠dx→eL c k (.ref zH) (.val (.ref x)::ds) ((Y.put dx (some (.attrs []))).put x (some (.inst C dx []))) (fun d I=>d= .val .none∧Sc (.val (.ref x)) I))
 (hs:∀V,(starEach args V).all (fun y=>!y.1)=true:=by intro;rfl):aE c (k+1) O Y (.Call (.Name n p) args [] pos) Sc:=by
 intro A V s Z ok r Q E q;refine rq (hf A V s Z ok r _ E fun v s₁ aC EQ s5=>?_);refine s5.v ?_;show wpAny c.M A (callWith pos (.ref C) [] (backTo pos (starEach args V)) []) Q E s₁;refine callWith_K t hk (nu ha (ok.step EQ) (r.step EQ) hs fun H s₂ bx t₂ aZ=>⟨t₂.top,?_⟩);have st:=EQ.trans t₂;have r₂:=(r.step EQ).step t₂;exact Xw t hm hi Jc xP (ok.step st) r₂.top r₂.sub r₂.cells aZ fun d I v s' Z' aq s5 hp=>q d I v s' Z' ((st.after r).trans aq) s5 hp
end
end
section
open PySem.W
noncomputable def xx:D→Bool
 | .val v=>v== .none
 |_=>false
theorem Gx (h:Tells Z v d):(v== .none)=xx d:=by cases h<;>rfl
section
variable {c:ah} {k:Nat} {O NE:XV} {Y:B} {Sc:fy→Prop}
theorem Rs.isNone:Rs c k O Y (compareOp .Is) d (.val .none) (.val (.bool (xx d))):=by
 intro A V s Z bg bK ok r h₁ h₂ Q E g;have top:=r.top;have sub:=r.sub;refine h₂.v ?_;rw[←Gx h₁]at g;exact is_none_gen (kF g top sub (.val _))
theorem Rs.isNotNone:Rs c k O Y (compareOp .IsNot) d (.val .none) (.val (.bool (!xx d))):=by
 intro A V s Z bg bK ok r h₁ h₂ Q E g;have top:=r.top;have sub:=r.sub;refine h₂.v ?_;rw[←Gx h₁]at g;exact isnot_none_gen (kF g top sub (.val _))
theorem FM.OL (he:f8 c k O Y e d) (eV:dU n d O NE) (No:xx d=true→wE c k NE Y ug Sc) (M2:xx d=false→wE c k NE Y tg Sc):
 FM c k O Y (.If (.Compare (.NamedExpr (.Name n p) e zk) [.Is] [.Constant .none m q] uo) ug tg pos) Sc:=by
 intro A V s bs Z ok w Q E q';refine wpAny_If (Ex (wpAny_NamedExpr (he A V s Z ok w.rd _ E fun v s₁ aC t s5=>w6 (nk (w.step t) eV s5 fun s₂ af w₂=>?_))));refine On ?_;rw[←Gx s5]at No M2;have run:Run Y s Z Y s₂ aC:=(t.run Y).trans ⟨af,.refl _,fun J J h=>.inl h,fun J h=>.inl h⟩;have lI:=ok.af run.af;refine is_none_gen (Al ?_)
 induction hb:v==Value.none with
 |true=>exact No hb A V s₂ bs aC lI w₂ Q E (Ends.of (c:=c) q' run)
 |false=>exact M2 hb A V s₂ bs aC lI w₂ Q E (Ends.of (c:=c) q' run)
theorem FM.afc (he:aE c k O Y e fun d I=>f8 c k O I o (.val (.ref a))∧f8 c k O I i (.str x)∧∃l,I a=some (.dict l)∧l.length≤1000000∧∃NE,dU n d O NE∧aV (.next NE (I.put a (some (.dict (fR l x d))))))
 (hi:∀V v,PySem.assign (.Subscript o i p) V v=(do
  let iC←holding [v] (eval o V)
  let Es←holding [v,iC] (eval i V)
  standAt p
  holding [v,iC,Es] (setItem iC Es v)
  release [v,iC,Es] []):=by intros;rfl)
 (h2:∀V,(assignEach [.Subscript o i p,.Name n rC] V).map Prod.snd=[PySem.assign (.Subscript o i p) V,PySem.assign (.Name n rC) V]:=by intros;rfl)
 (hw:∀V,swappedStores [.Subscript o i p,.Name n rC] e V=pure Option.none:=by intros;rfl):FM c k O Y (.Assign [.Subscript o i p,.Name n rC] e pos) aV:=by
 intro A V s bs Z ok w Q E q;refine wpAny_Assign_two (he A V s Z ok w.rd _ E fun d I v s₁ aC aq s5 aa2=>b4 aa2 fun xz lz aec=>aS aec fun l ha hz afd=>wS afd fun NE eV zg=>?_) (h2 V) (hw V);have w₁:=w.after aq;have jk:=ok.after aq;rw[hi];refine u8 (bW (xz A V s₁ aC jk w₁.rd _ E fun Cb s₂ bx t₂ qU=>u8 (bW (lz A V s₂ bx (jk.step t₂) (w₁.rd.step t₂) _ E fun G8 aF er t₃ uM=>?_))));refine qU.v ?_;refine uM.s fun J=>?_;have w₃:=(w₁.step t₂).step t₃;refine Op (rV w₃.rd ha) fun _ acf=>d9 acf fun kvs hd e1 e2 _=>?_;have PM:=(s5.mono t₂.le).mono t₃.le;refine u8 (f6 (u8 (bW (wpAny_setItem_pairs (knd:=PySem.strKind c.p c.w) (k:=x) (n9 ..) hd (fun h' hd' av=>?_) (by refine U (yp (Z:=er) e1) (U cQ ?_);exact Ev ‹_› (by decide))))));refine wpAny_release ?_;refine Op (GZ e1 e2 (x:=x) PM) fun i1 cM=>?_;have wM:=AD (t:=aF.toks+1) w₃.rd ha hd' i1 cM av (b7 _);have run:=((aq.run.trans (t₂.run I)).trans (t₃.run I)).trans wM.run;refine w6 (nk (w₃.after wM) eV (PM.mono wM.le) fun gY af g6=>?_);exact q (.next NE _) .next _ _ (run.trans ⟨af,.refl _,fun J J h=>.inl h,fun J h=>.inl h⟩) g6 .next zg
end
theorem Binds.star (hz:ds.length≤1000)
 (h:∀bg bK:Value,∀H:List Value,bindArgs fd ⟨bg::bK::H,[]⟩=(do let t←newTuple H;pure [(n₁,bg),(oq,bK),(n_,t)])):Binds c fd [(n₁,k₁),(oq,k₂),(n_,sO)] (d₁::d₂::ds) [d₁,d₂,.tup ds]:=by
 intro A s Z H top sub aZ Q E q;refine aZ.c fun h1 aZ=>?_;refine aZ.c fun h2 aZ=>?_;rw[h];refine u8 (Au top sub aZ (by refine U cQ ?_;exact Ev ‹_› (by decide)) fun v s' Z' t s5=>?_);exact On (q [_,_,v] s' Z' t (.cons (h1.mono t.le) (.cons (h2.mono t.le) (.cons s5 .nil))))
theorem Binds.ZL (hz:ds.length≤1000)
 (h:∀bg:Value,∀H:List Value,bindArgs fd ⟨bg::H,[]⟩=(do let t←newTuple H;pure [(n₁,bg),(n_,t)])):Binds c fd [(n₁,k₁),(n_,sO)] (d₁::ds) [d₁,.tup ds]:=by
 intro A s Z H top sub aZ Q E q;refine aZ.c fun h1 aZ=>?_;rw[h];refine u8 (Au top sub aZ (by refine U cQ ?_;lia) fun v s' Z' t s5=>?_);exact On (q [_,v] s' Z' t (.cons (h1.mono t.le) (.cons s5 .nil)))
theorem aam (pm cd) (bg bK):∀H:List Value,bindArgs (fdOf (d7 6 2) "TopologicalSorter.add" .none pm cd) ⟨bg::bK::H,[]⟩=(do let t←newTuple H;pure [("self",bg),("node",bK),("predecessors",t)]):=fun k8=>by
 induction k8 with
 |nil=>exact rfl
 |cons _ _ lZ=>exact rfl
theorem Ud (pm cd) (bg):∀H:List Value,bindArgs (fdOf (d7 6 7) "TopologicalSorter.done" .none pm cd) ⟨bg::H,[]⟩=(do let t←newTuple H;pure [("self",bg),("nodes",t)])
 |[]=>rfl
 |_::_=>rfl
end
section
open PySem.W
section
variable {c:ah} {k:Nat} {O:XV} {Y:B}
theorem b_.np (t:aT c) (h:jK Y a n):b_ c k O Y a.i "npredecessors" (.int n.np):=b_.slot t h.1 h.2.1 rfl (Hz ..) (Fj ..) (Et ..) (adD ..) (EN ..) (G2 ..) rfl
theorem b_.succ (t:aT c) (h:jK Y a n):b_ c k O Y a.i "successors" (.val (.ref a.l)):=b_.slot t h.1 h.2.1 rfl (Hz ..) (Fj ..) (JZ ..) (US ..) (K5 ..) (M9 ..) rfl
theorem b_.node (t:aT c) (h:jK Y a n):b_ c k O Y a.i "node" (.str n.name):=b_.slot t h.1 h.2.1 rfl (Hz ..) (Fj ..) (PK ..) (XG ..) (Q7 ..) (Ls ..) rfl
theorem gH.np (t:aT c) (h:jK Y a n):gH c k O Y a.i "npredecessors" (.int v) (Y.put a.i (some (.inst 40 a.d [some (.str n.name),some (.int v),some (.val (.ref a.l))]))):=
 gH.slot (p:=42) (i:=1) t h.1 h.2.1 (DY ..) (B5 ..) (Av (Et ..) (EN ..)) (K8 ..) (G2 ..) (by decide)
theorem WO (t:aT c) (hx:Y x=some (.inst 40 dx [])) (hd:Y dx=some (.attrs [])):
 eL c (k+1) (.ref 36) [.val (.ref x),.str nm] Y (fun d I=>d= .val .none∧∃L,Y L=Option.none∧jK I ⟨x,dx,L⟩ ⟨nm,0,[]⟩∧∀b,b≠x→b≠L→I b=Y b):=by
 have a_:dx≠x:=by rintro rfl;rw[hx]at hd;cases hd
 refine eL.fn (st:=d7 4 1) (qual:="_NodeInfo.__init__") (dV:=.none) (ps:=[("self",.loc),("node",.loc)]) (ls:=[]) (gs:=[]) (t.fn rfl rfl rfl rfl) (by kd_p) cG rfl (fun J J=>.plain rfl (sr fun J J=>rfl)) ?_;intro bN;replace t:=t.at (L:=bN);generalize c.at bN=c at t⊢
 kst_p
 refine wE.cons (FM.nX (.nH (d:=.str nm) (by kd_p) ⟨by kd_p,_,gH.slot (p:=41) (i:=0) t hx hd (DY ..) (B5 ..) (Av (PK ..) (Q7 ..)) (Sj ..) (Ls ..) (by decide),?_⟩));have vd:(Y.put x (some (.inst 40 dx [some (.str nm)]))) dx=some (.attrs []):=(B.aa _ _ a_).trans hd;refine wE.cons (FM.nX (.nH (d:=.int 0) (by kd_p) ⟨by kd_p,_,gH.slot (p:=42) (i:=1) t (B.ai ..) vd (DY ..) (B5 ..) (Av (Et ..) (EN ..)) (K8 ..) (G2 ..) (by decide),?_⟩));refine wE.cons (FM.nX (aE.newList .nil (by simp) fun L aU=>⟨by kd_p,_,gH.slot (p:=43) (i:=2) (al:=[]) t ((B.aa _ _ (by rintro rfl;rw[B.ai]at aU;cases aU)).trans (B.ai ..)) ?_ (DY ..) (B5 ..) (Av (JZ ..) (K5 ..)) (afx ..) (M9 ..) (by decide),?_⟩))
 ·have z7:dx≠L:=by
   rintro rfl;rw[B.aa _ _ a_,B.aa _ _ a_,hd]at aU;cases aU
  refine U (B.aa _ _ z7) (U (B.aa _ _ a_) ?_);exact vd
 refine wE.nil ?_;have Ig:L≠x:=by rintro rfl;rw[B.ai]at aU;cases aU
 have z7:dx≠L:=by
  rintro rfl;rw[B.aa _ _ a_,B.aa _ _ a_,hd]at aU;cases aU
 refine⟨rfl,L,?_,⟨B.ai ..,?_,?_⟩,fun b h1 h2=>?_⟩
 ·rw[B.aa _ _ Ig,B.aa _ _ Ig]at aU;exact aU
 ·refine U (B.aa _ _ a_) (U (B.aa _ _ z7) (U (B.aa _ _ a_) ?_));exact vd
 ·exact U (B.aa _ _ Ig) (B.ai ..)
 ·exact U (B.aa _ _ h1) (U (B.aa _ _ h2) (U (B.aa _ _ h1) (U (B.aa _ _ h1) rfl)))
theorem b_.fu {S:Addr} {y:Lay} {st:St} (t:aT c) (h:bH Y S y st):b_ c k O Y S "_node2info" (.val (.ref y.N)):=b_.attr t h.inst h.attrs rfl (jg ..) (kB ..) (C_ ..) rfl
theorem b_.gI {S:Addr} {y:Lay} {st:St} (t:aT c) (h:bH Y S y st):b_ c k O Y S "_ready_nodes" (yz y.rs):=b_.attr t h.inst h.attrs rfl (jg ..) (kB ..) (CO ..) (by cases y.rs<;>rfl)
theorem b_.QF {S:Addr} {y:Lay} {st:St} (t:aT c) (h:bH Y S y st):b_ c k O Y S "_npassedout" (.int st.j6):=b_.attr t h.inst h.attrs rfl (jg ..) (kB ..) (F2 ..) rfl
theorem b_.fin {S:Addr} {y:Lay} {st:St} (t:aT c) (h:bH Y S y st):b_ c k O Y S "_nfinished" (.int st.fin):=b_.attr t h.inst h.attrs rfl (jg ..) (kB ..) (Fx ..) rfl
noncomputable def sM:St:=⟨[],none,0,0⟩
theorem R8 (t:aT c) (hx:Y x=some (.inst 137 dx [])) (hd:Y dx=some (.attrs [])):
 eL c (k+1) (.ref 73) [.val (.ref x)] Y (fun d I=>d= .val .none∧∃N,Y N=Option.none∧bH I x ⟨dx,N,[],[]⟩ sM∧∀b,b≠dx→b≠N→I b=Y b):=by
 have a_:dx≠x:=by rintro rfl;rw[hx]at hd;cases hd
 refine eL.fn (st:=d7 6 0) (qual:="TopologicalSorter.__init__") (dV:=.ref 66) (ps:=[("self",.loc),("graph",.loc)]) (ls:=[("node",.loc),("predecessors",.loc)]) (gs:=[]) (ds:=[.val (.ref x),.val .none]) (t.fn rfl rfl rfl rfl) (by kd_p) cG rfl (fun pm cd=>?_) ?_
 ·intro A s Z H top sub aZ Q E q;refine wS (iF aZ) fun v s4 s5=>?_;subst s4;refine s5.v ?_;refine binds_K (K:=cX c) (t.oN top) rfl (show(cX c).lookup 66=some {cls:=(.type "tuple"),dict:=Option.none,data:=(.seq #[.none] 0),slots:=#[]}from rfl) rfl rfl rfl _ _ _ _ (q [.ref x,.none] s Z (.refl top sub) (.cons (.val _) (.cons (.val _) .nil)))
 intro bN;replace t:=t.at (L:=bN);generalize c.at bN=c at t⊢
 kst_p
 refine wE.cons (FM.nX (aE.newDict fun N cO=>⟨by kd_p,_,gH.attr (dx:=dx) (al:=[]) (l:=[]) (C:=137) t ?_ ?_ (sG ..) (rK ..) (q6 (C_ ..)) (kB ..) (by simp),?_⟩))
 ·exact(B.aa _ _ (by rintro rfl;rw[hx]at cO;cases cO)).trans hx
 ·exact(B.aa _ _ (by rintro rfl;rw[hd]at cO;cases cO)).trans hd
 have aav:x≠N:=by rintro rfl;rw[hx]at cO;cases cO
 have Nu:dx≠N:=by rintro rfl;rw[hd]at cO;cases cO
 have aeE:∀(al:List (Str×D)),∃m:B,(m x=some (.inst 137 dx [])∧m dx=some (.attrs al)∧m N=some (.dict [])∧∀b,b≠dx→b≠N→m b=Y b)∧m=(Y.put N (some (.dict []))).put dx (some (.attrs al)):=fun al=>
  ⟨_,⟨(B.aa _ _ a_.symm).trans ((B.aa _ _ aav).trans hx),B.ai ..,(B.aa _ _ Nu.symm).trans (B.ai ..),fun b h1 h2=>(B.aa _ _ h1).trans (B.aa _ _ h2)⟩,rfl⟩
 refine wS (aeE (iD [] "_node2info" (.val (.ref N)))) fun nA aG e1=>?_;refine lN aG fun a1 a2 iJ iM=>?_;refine ZB e1 ?_;refine wE.cons (FM.nX (.nH (d:=.val .none) (by kd_p) ⟨by kd_p,_,gH.attr t a1 a2 (sG ..) (rK ..) (q6 (CO ..)) (kB ..) (by simp[GJ,Tc]),?_⟩));refine wE.cons (FM.nX (.nH (d:=.int 0) (by kd_p) ⟨by kd_p,_,gH.attr (al:=iD (iD [] "_node2info" (.val (.ref N))) "_ready_nodes" (.val .none)) t ((B.aa _ _ a_.symm).trans a1) (B.ai ..) (sG ..) (rK ..) (q6 (F2 ..)) (kB ..) (Oh (by kd_p)),?_⟩));refine U B.mq ?_;refine wE.cons (FM.nX (.nH (d:=.int 0) (by kd_p) ⟨by kd_p,_,gH.attr (al:=iD (iD (iD [] "_node2info" (.val (.ref N))) "_ready_nodes" (.val .none)) "_npassedout" (.int 0)) t ((B.aa _ _ a_.symm).trans a1) (B.ai ..) (sG ..) (rK ..) (q6 (Fx ..)) (kB ..) (Oh (by kd_p)),?_⟩));refine U B.mq ?_;refine wE.cons (FM.ifs (b:=false) (az.cmp (d₁:=.val .none) (d₂:=.val .none) (by kd_p) (by kd_p) Rs.isNotNone) (fun h=>(by injection h)) fun J=>wE.nil ?_);refine wE.nil ?_;refine⟨rfl,N,cO,⟨(B.aa _ _ a_.symm).trans a1,?_,(B.aa _ _ Nu.symm).trans iJ,.nil,rfl,by simp,by simp⟩,fun b h1 h2=>(B.aa _ _ h1).trans (iM b h1 h2)⟩;rw[B.ai];rfl
theorem aE.afr (t:aT c) (hf:f8 c (k+2) O Y (.Name "TopologicalSorter" p) (.val (.ref 137)))
 (h:∀S y I,bH I S y sM→bI [] Y (y.foot S) I→Sc (.val (.ref S)) I):aE c (k+2) O Y (.Call (.Name "TopologicalSorter" p) [] [] pos) Sc:=by
 refine aE.make t hf (Ww ..) .nil (aaK ..) (ae0 ..) (Zr ..) (fun x dx hx hdx a_=>?_);have qs:((Y.put dx (some (.attrs []))).put x (some (.inst 137 dx []))) x=some (.inst 137 dx []):=B.ai ..;have fF:((Y.put dx (some (.attrs []))).put x (some (.inst 137 dx []))) dx=some (.attrs []):=(B.aa _ _ a_.symm).trans (B.ai ..);refine fun A s Z H ok top sub aZ mo R q=>R8 (k:=k) t qs fF A s Z H ok top sub aZ mo R fun d I v s' Z' aq s5 aei=>Op aei fun hd VV=>aS VV fun N cO hs hb=>q d I v s' Z' aq s5 ⟨hd,h x _ I hs ⟨fun b J dJ=>?_,fun b dJ=>?_⟩⟩
 ·have h1:b≠x:=by rintro rfl;exact dJ hx
  have h2:b≠dx:=by rintro rfl;exact dJ hdx
  have h3:b≠N:=by
   rintro rfl;rw[B.aa _ _ h1,B.aa _ _ h2]at cO;exact dJ cO
  exact U (hb b h2 h3) (U (B.aa _ _ h1) (U (B.aa _ _ h2) rfl))
 ·right;unfold Lay.foot at dJ;simp only[uV,fQ,aY,d_,gO]at dJ;rcases dJ with rfl|rfl|rfl
  ·exact hx
  ·exact hdx
  ·by_cases h1:b=x
   ·exact U h1 hx
   ·by_cases h2:b=dx
    ·exact U h2 hdx
    ·rw[B.aa _ _ h1,B.aa _ _ h2]at cO;exact cO
end
end
section
open PySem.W
theorem jK.keep (x:e8 Y I) (h:jK Y a n):jK I a n:=⟨x.some h.1,x.some h.2.1,x.some h.2.2⟩
theorem cY.keep (x:e8 Y I) (h:cY Y as ns):cY I as ns:=by
 induction h with
 |nil=>exact .nil
 |cons h _ ih=>exact .cons (h.keep x) ih
theorem bH.keep {Y I:B} (x:e8 Y I) {S:Addr} {y:Lay} {st:St} (h:bH Y S y st):bH I S y st:=
 ⟨x.some h.inst,x.some h.attrs,x.some h.fu,h.dK.keep x,h.gI.congr fun J J J e=>x.some e,h.qn,h.pA⟩
noncomputable def dw (st:St) (x:Str):St:=match dZ st.nodes x with
 |some _=>st
 |none=>{st with nodes:=st.nodes++[⟨x,0,[]⟩]}
theorem Nl:∀{Y:B} {as:List eE} {ns:List bP},cY Y as ns→∀{x:Str} {a:eE} {n:bP},dZ ns x=none→n.name=x→f7 (as++[a]) (ns++[n]) x=some (a,n)
 |_,_,_,.nil,x,a,n,_,e=>by simp[mF,Y3,e]
 |_,_,_,.cons (a:=b) (n:=m) (as:=as) (ns:=ns) _ h,x,a,n,q,e=>by
  rw[m7]at q;by_cases z:m.name=x
  ·rw[ak z]at q;injection q
  ·rw[Tk z]at q;show f7 (b::(as++[a])) (m::(ns++[n])) x=_;rw[mF];exact U (Tk z) (Nl h q e)
theorem Nx:∀{ns:List bP} {x:Str},dZ ns x=none→x∉ns.map (fun x=>x.name)
 |[],_,_=>by simp
 |n::ns,x,h=>by
  rw[m7]at h;by_cases q:n.name=x
  ·rw[ak q]at h;injection h
  ·rw[Tk q]at h;rw[aJ,aY,pY];exact⟨fun e=>q e.symm,Nx h⟩
section
variable {c:ah} {k:Nat} {O:XV} {Y:B}
theorem f8.cI (xz:f8 c k O Y o (.val (.ref a))) (he:f8 c k O Y e (.str x)) (ha:Y a=some (.dict l))
 (fH:∀V,attributeBase o "get" V (eval o V)=eval o V:=by kd_p) (hs:∀V,starEach [e] V=[(false,eval e V)]:=by kd_p)
 (fY:(c5.endLine==pos.line)=true:=by rfl):f8 c k O Y (.Call (.Attribute o "get" c5) [e] [] pos) ((Internal.cI l x).getD (.val .none)):=
 f8.m6 xz (.dict ha) B9 MD PySem.F.type_dict_get (.cons he .nil hs) (bZ.cI ha) fH (fun V=>by rw[hs];rfl) (fun V=>by rw[hs];rfl) fY
theorem LU {S:Addr} {y:Lay} {st:St} {x:Str} (t:aT c) (h:bH Y S y st) (hr:st.ready=Option.none) (hz:st.nodes.length≤1000):
 cu c (k+3) (.ref 80) [.val (.ref S),.str x] Y (fun d I=>∃gq a n,d= .val (.ref a.i)∧bH I S gq (dw st x)∧bI (y.foot S) Y (gq.foot S) I∧f7 gq.as (dw st x).nodes x=some (a,n)∧jK I a n∧gq.rs=y.rs):=by
 refine cu.fn (st:=d7 6 1) (qual:="TopologicalSorter._get_nodeinfo") (dV:=.none) (ps:=[("self",.loc),("node",.loc)]) (ls:=[("result",.loc)]) (gs:=[("_NodeInfo",.ref 40)]) (t.fn rfl rfl rfl rfl) (by kd_p) (bB (t.glob (by kd_p)) cG) rfl (fun J J=>.plain rfl (sr fun J J=>rfl)) ?_;intro bN;replace t:=t.at (L:=bN);generalize c.at bN=c at t⊢
 kst_p
 have hg:=wU y.as st.nodes x;refine wE.cons (FM.OL (f8.cI (f8.ga (by kd_p) (b_.fu t h)) (by kd_p) h.fu) (by kd_in) (fun M2=>?_) (fun M2=>wE.nil ?_))
 ·have Ct:dZ st.nodes x=none:=by
   induction e:dZ st.nodes x with
   |none=>rfl
   |some n=>
    refine wS (h.dK.find e) fun a i1 J=>?_;rw[hg,i1]at M2;injection M2
  refine U hg (U (h.dK.find_none Ct) ?_);dsimp only[Option.map_none,Option.getD_none];have hkey:x∉(g4 y.as st.nodes).map Prod.fst:=by refine U h.dK.keys ?_;exact Nx Ct
  refine wE.cons (FM.afc (a:=y.N) (x:=x) (aE.make t (by kd_p) (aea ..) (.cons (by kd_p) .nil (by kd_p)) (Z0 ..) (Zx ..) (Xr ..) (fun i d hi hd a_=>?_)));have qs:((Y.put d (some (.attrs []))).put i (some (.inst 40 d []))) i=some (.inst 40 d []):=B.ai ..;have fF:((Y.put d (some (.attrs []))).put i (some (.inst 40 d []))) d=some (.attrs []):=(B.aa _ _ a_.symm).trans (B.ai ..);refine fun A s Z H ok top sub aZ mo R q=>WO (k:=k) t qs fF A s Z H ok top sub aZ mo R fun dd I v s' Z' aq s5 Y4=>Op Y4 fun UY Z9=>aS Z9 fun L aU hat hb=>q dd I v s' Z' aq s5 ⟨UY,?_⟩;clear q aq s5;have Np:L≠i:=by rintro rfl;rw[B.ai]at aU;injection aU
  have z7:L≠d:=by rintro rfl;rw[B.aa _ _ Np,B.ai]at aU;injection aU
  have Eh:Y L=none:=by rw[B.aa _ _ Np,B.aa _ _ z7]at aU;exact aU
  have dI:e8 Y I:=fun b dJ=>by
   have h1:b≠i:=by rintro rfl;exact dJ hi
   have h2:b≠d:=by rintro rfl;exact dJ hd
   have h3:b≠L:=by rintro rfl;exact dJ Eh
   exact U (hb b h1 h3) (U (B.aa _ _ h1) (U (B.aa _ _ h2) rfl))
  have h':=h.keep dI;refine⟨f8.ga (by kd_p) (b_.fu t h'),by kd_p,_,h'.fu,by refine U h'.dK.z0 ?_;exact Ev ‹_› (by decide),_,by kd_in,?_⟩;refine wE.nil ?_;refine wE.cons (FM.ret (d:=.val (.ref i)) (by kd_p) ?_);refine U (Ci hkey) ?_;have uf:dw st x={st with nodes:=st.nodes++[⟨x,0,[]⟩]}:=by unfold dw;exact U Ct rfl
  have hrs:y.rs=[]:=by have:=h.gI;rw[hr]at this;exact this
  have l0:∀b,I b≠some (.dict (g4 y.as st.nodes))→b≠y.N:=fun b dJ e=>by rw[e]at dJ;exact dJ h'.fu
  refine LP ({y with as:=y.as++[⟨i,d,L⟩]}) ⟨i,d,L⟩ ⟨x,0,[]⟩ rfl ?_ ?_ (by refine U uf ?_;exact Nl h.dK Ct rfl) ?_ rfl
  ·refine U uf ?_;have afK:=l0 S (by refine U h'.inst ?_;simp);have adA:=l0 y.h_ (by refine U h'.attrs ?_;simp);refine⟨(B.aa _ _ afK).trans h'.inst,(B.aa _ _ adA).trans h'.attrs,?_,?_,?_,?_,?_⟩
   ·show(I.put y.N _) y.N=_;rw[B.ai,Uy h.dK]
   ·refine(h'.dK.snoc hat).congr fun a ha=>?_;have:∃n,jK I a n:=by
     rcases b5.mp ha with ha|ha
     ·refine wS (h'.dK.mem a ha) fun n J M2=>?_;exact⟨n,M2⟩
     ·rcases fq.mp ha with rfl;exact⟨_,hat⟩
    refine aS this fun n n1 b6 dP=>?_;exact⟨B.aa _ _ (l0 _ (by refine U n1 ?_;simp)),B.aa _ _ (l0 _ (by refine U b6 ?_;simp)),B.aa _ _ (l0 _ (by refine U dP ?_;simp))⟩
   ·show xY _ y.rs st.ready;exact U hr hrs
   ·show((y.as++[(⟨i,d,L⟩:eE)]).map (fun a=>a.i)).Nodup;rw[gA,jY];refine⟨h.qn,by simp,fun u cU v s5=>?_⟩;simp only[aJ,su,fq]at s5;subst s5;refine wS (ao.mp cU) fun b dJ s4=>?_;subst s4;refine aS (h.dK.mem b dJ) fun n J n1 J=>?_;rintro e;rw[e,hi]at n1;injection n1
   ·show((y.as++[(⟨i,d,L⟩:eE)]).map (fun a=>a.l)++y.rs).Nodup;have hnl:=h.pA;rw[hrs,fQ]at hnl⊢;rw[gA,jY];refine⟨hnl,by simp,fun u cU v s5=>?_⟩;simp only[aJ,su,fq]at s5;subst s5;refine wS (ao.mp cU) fun b dJ s4=>?_;subst s4;refine d9 (h.dK.mem b dJ) fun n J J J n1=>?_;rintro e;rw[e,Eh]at n1;injection n1
  ·refine⟨fun b dJ hm=>?_,fun b dJ=>?_⟩
   ·have:b≠y.N:=by rintro rfl;exact dJ (y.Nt S)
    exact U (B.aa _ _ this) (dI b hm)
   ·unfold Lay.foot at dJ⊢;simp only[DB,aY,b5,j_,uV,d_,gO]at dJ⊢;rcases dJ with h1|h1|h1|h1|h1|h1|h1|h1
    ·exact .inl (.inl h1)
    ·exact .inl (.inr (.inl h1))
    ·exact .inl (.inr (.inr (.inl h1)))
    ·exact .inl (.inr (.inr (.inr (.inl h1))))
    ·exact .inl (.inr (.inr (.inr (.inr h1))))
    ·exact U h1 (.inr hi)
    ·exact U h1 (.inr hd)
    ·exact U h1 (.inr Eh)
  ·refine b4 hat fun n1 b6 dP=>?_;exact⟨(B.aa _ _ (l0 _ (by refine U n1 ?_;simp))).trans n1,(B.aa _ _ (l0 _ (by refine U b6 ?_;simp))).trans b6,(B.aa _ _ (l0 _ (by refine U dP ?_;simp))).trans dP⟩
 ·obtain⟨n,e⟩:∃n,dZ st.nodes x=some n:=by
   induction e:dZ st.nodes x with
   |some n=>exact⟨n,rfl⟩
   |none=>rw[hg,h.dK.find_none e]at M2;injection M2
  refine d9 (h.dK.find e) fun a i1 cM fh tR=>?_;refine U hg (U i1 ?_);dsimp only[Option.map_some,Option.getD_some];refine wE.cons (FM.ret (d:=.val (.ref a.i)) (by kd_p) ?_);have uf:dw st x=st:=by unfold dw;exact U e rfl
  exact U uf (LP y a n rfl h (bI.refl _ _) i1 fh rfl)
end
end
section
open PySem.W
theorem uY:∀{as:List eE} {ns:List bP} {x:Str} {a:eE} {n:bP},f7 as ns x=some (a,n)→dZ ns x=some n∧a∈as∧n.name=x
 |[],_,_,_,_,h=>by cases h
 |_::_,[],_,_,_,h=>by cases h
 |b::as,m::ns,x,a,n,h=>by
  rw[mF]at h;rw[m7];by_cases q:m.name=x
  ·rw[ak q]at h⊢;cases h;exact⟨rfl,.head _,q⟩
  ·rw[Tk q]at h⊢;refine b4 (uY h) fun i1 cM fh=>?_;exact⟨i1,.tail _ cM,fh⟩
theorem cY.at (h:cY Y as ns) (e:f7 as ns x=some (a,n)):jK Y a n:=by
 refine b4 (uY e) fun e1 J J=>?_;refine d9 (h.find e1) fun b i1 J fh J=>?_;rw[e]at i1;cases i1;exact fh
theorem bH.vf {Y:B} {S:Addr} {y:Lay} {st:St} (h:bH Y S y st) {x:Str} {a:eE} {n:bP} (e:f7 y.as st.nodes x=some (a,n)) (v):
 bH (Y.put a.i (some (.inst 40 a.d [some (.str n.name),some (.int v),some (.val (.ref a.l))]))) S y {st with nodes:=ee st.nodes x {n with np:=v}}:=by
 refine b4 (uY e) fun e1 e2 e3=>?_;have hat:=h.dK.at e;have ne:∀b,Y b≠Y a.i→b≠a.i:=fun b hb z=>hb (U z rfl);have hi:=hat.1;refine⟨(B.aa _ _ (ne S ?_)).trans h.inst,(B.aa _ _ (ne _ ?_)).trans h.attrs,?_,h.dK.vf h.qn e v,?_,h.qn,h.pA⟩
 ·refine U h.inst (U hi ?_);intro z;cases z
 ·refine U h.attrs (U hi ?_);simp
 ·refine U (B.aa _ _ (ne y.N (by refine U h.fu (U hi ?_);simp))) (U h.fu ?_);exact U (Ge (as:=y.as) (ns:=ee st.nodes x {n with np:=v}) (ms:=st.nodes) (vv e1 rfl)) rfl
 ·exact h.gI.congr fun R J l e=>(B.aa _ _ (ne R (by refine U e (U hi ?_);simp))).trans e
theorem bH.Gy {Y:B} {S:Addr} {y:Lay} {st:St} (h:bH Y S y st) {x:Str} {a:eE} {n:bP} (e:f7 y.as st.nodes x=some (a,n)) (v):
 bH (Y.put a.l (some (.list (ww v)))) S y {st with nodes:=ee st.nodes x {n with succ:=v}}:=by
 refine b4 (uY e) fun e1 e2 e3=>?_;have hat:=h.dK.at e;have ne:∀b,Y b≠Y a.l→b≠a.l:=fun b hb z=>hb (U z rfl);have hi:=hat.2.2;have nl:=(jY.mp h.pA);refine⟨(B.aa _ _ (ne S ?_)).trans h.inst,(B.aa _ _ (ne _ ?_)).trans h.attrs,?_,h.dK.Gy nl.1 e v,?_,h.qn,h.pA⟩
 ·refine U h.inst (U hi ?_);simp
 ·refine U h.attrs (U hi ?_);simp
 ·refine U (B.aa _ _ (ne y.N (by refine U h.fu (U hi ?_);simp))) (U h.fu ?_);exact U (Ge (as:=y.as) (ns:=ee st.nodes x {n with succ:=v}) (ms:=st.nodes) (vv e1 rfl)) rfl
 ·refine h.gI.congr fun R bD l e=>(B.aa _ _ ?_).trans e;exact fun z=>nl.2.2 a.l (cz e2) R bD z.symm
noncomputable def lG (st:St) (x:Str) (v:Int):St:=match dZ st.nodes x with
 |some n=>{st with nodes:=ee st.nodes x {n with np:=n.np+v}}
 |none=>st
noncomputable def jt (st:St) (p x:Str):St:=match dZ st.nodes p with
 |some n=>{st with nodes:=ee st.nodes p {n with succ:=n.succ++[x]}}
 |none=>st
noncomputable def fN (st:St) (x:Str) (ps:List Str):St:=ps.foldl (fun s p=>jt (dw s p) p x) (lG (dw st x) x ps.length)
theorem FD:∀ns x m,(ee ns x m).length=ns.length
 |[],_,_=>rfl
 |n::ns,x,m=>by
  rw[tG];split
  ·rfl
  ·simp[FD ns x m]
theorem BW (st) (x):(dw st x).ready=st.ready∧(dw st x).nodes.length≤st.nodes.length+1:=by
 unfold dw;cases dZ st.nodes x<;>simp
theorem PU (st) (x) (v):(lG st x v).ready=st.ready∧(lG st x v).nodes.length=st.nodes.length:=by
 unfold lG;cases dZ st.nodes x<;>simp[FD]
theorem LS (st) (p x):(jt st p x).ready=st.ready∧(jt st p x).nodes.length=st.nodes.length:=by
 unfold jt;cases dZ st.nodes p<;>simp[FD]
noncomputable def Short (m:Nat) (ns:List bP):Prop:=∀n∈ns,n.succ.length≤m
theorem yl:∀{ns:List bP} {x:Str} {n:bP},dZ ns x=some n→n∈ns
 |[],_,_,h=>by injection h
 |m::ns,x,n,h=>by
  rw[m7]at h;by_cases q:m.name=x
  ·rw[ak q]at h;obtain rfl:=bf h;exact .head _
  ·rw[Tk q]at h;exact .tail _ (yl h)
theorem I5:∀{ns:List bP} {x:Str} {m n:bP},n∈ee ns x m→n=m∨n∈ns
 |[],_,_,_,h=>by cases h
 |k::ns,x,m,n,h=>by
  rw[tG]at h;by_cases q:k.name=x
  ·rw[ak q]at h;exact(aY.mp h).imp id (.tail _)
  ·rw[Tk q]at h;refine bC h ?_ fun h=>?_
   ·exact .inr (.head _)
   ·exact(I5 h).imp id (.tail _)
theorem Short.mono (h:Short m ns) (hm:m≤m'):Short m' ns:=fun n M2=>Ev (h n M2) hm
theorem z5 {st:St} {m:Nat} (h:Short m st.nodes) (x):Short m (dw st x).nodes:=by
 unfold dw
 induction dZ st.nodes x with
 |some _=>exact h
 |none=>
  intro n M2;rcases b5.mp M2 with M2|M2
  ·exact h n M2
  ·rcases fq.mp M2 with rfl;exact e_ _
theorem K_ {st:St} {m:Nat} (h:Short m st.nodes) (x) (v):Short m (lG st x v).nodes:=by
 unfold lG
 induction e:dZ st.nodes x with
 |none=>exact h
 |some k=>
  intro n M2;rcases I5 M2 with rfl|M2
  ·exact h k (yl e)
  ·exact h n M2
theorem M_ {st:St} {m:Nat} (h:Short m st.nodes) (p x):Short (m+1) (jt st p x).nodes:=by
 unfold jt
 induction e:dZ st.nodes p with
 |none=>exact h.mono (b7 _)
 |some k=>
  intro n M2;rcases I5 M2 with rfl|M2
  ·have:=h k (yl e);simp;assumption
  ·exact oW (h n M2)
section
variable {c:ah} {k:Nat} {O:XV} {Y:B}
theorem f8.MX (hf:f8 c k O Y (.Name "len" p) (.val (.builtin "len"))) (he:f8 c k O Y e (.tup l)) (hb:l.length≤1000000)
 (hst:∀V,starEach [e] V=[(false,eval e V)]:=by kd_p):f8 c k O Y (.Call (.Name "len" p) [e] [] pos) (.int l.length):=by
 refine f8.call hf (.inl fun a e=>(by injection e)) (.cons he .nil hst) ?_ (fun V=>by rw[hst];rfl);intro A V s Z H ok r h Q E g;refine wS (iF h) fun v s4 s5=>?_;subst s4;refine s5.t fun{a xs n} vq FS=>?_;have e1:xs.size=l.length:=by exact ZB FS.length (U gB rfl)
 refine len_tuple ⟨_,r.sub.get vq,rfl,n,rfl⟩ (by refine U e1 ?_;exact pn hb) ?_;exact U e1 (gV g r.top r.sub (.int _ _) (bV _ 2))
inductive PB (S:Addr) (y:Lay) (st:St) (x:Str) (ps:List Str) (a:eE) (Y:B) (aD:List D) (O:XV) (I:B):Prop
 |mk (ay:List Str) (s:St) (gq:Lay) (bR bM:Option D):(aD=ww ay)→(bH I S gq s)→(bI (y.foot S) Y (gq.foot S) I)→(gq.rs=y.rs)→(s.ready=Option.none)→(s.nodes.length+ay.length≤st.nodes.length+1+ps.length)→(ay.length≤ps.length)→(Short (500+(ps.length-ay.length)) s.nodes)→(fN st x ps=ay.foldl (fun s p=>jt (dw s p) p x) s)→(O=[⟨"self",.loc,some (.val (.ref S))⟩,⟨"node",.loc,some (.str x)⟩,⟨"predecessors",.loc,some (.tup (ww ps))⟩,⟨"nodeinfo",.loc,some (.val (.ref a.i))⟩,⟨"pred",.loc,bR⟩,⟨"pred_info",.loc,bM⟩,⟨"len",.bw,some (.val (.builtin "len"))⟩])→PB S y st x ps a Y aD O I
theorem ON {S:Addr} {y:Lay} {st:St} {x:Str} {ps:List Str} (t:aT c) (h:bH Y S y st) (hr:st.ready=Option.none) (hz:st.nodes.length+ps.length≤900) (zI:Short 500 st.nodes) (hp:ps.length≤100):
 eL c (k+4) (.ref 87) (.val (.ref S):: .str x::ww ps) Y (fun d I=>d= .val .none∧∃gq,bH I S gq (fN st x ps)∧bI (y.foot S) Y (gq.foot S) I∧gq.rs=y.rs):=by
 refine eL.fn (st:=d7 6 2) (qual:="TopologicalSorter.add") (dV:=.none) (ps:=[("self",.loc),("node",.loc),("predecessors",.loc)]) (ls:=[("nodeinfo",.loc),("pred",.loc),("pred_info",.loc)]) (gs:=[("len",.builtin "len")]) (ds:=[.val (.ref S),.str x,.tup (ww ps)]) (t.fn rfl rfl rfl rfl) (by kd_p) (bB (t.dh (by kd_p) (by kd_p) (by decide)) cG) rfl (fun pm cd=>Binds.star (by simp[ww];exact Ev hp (by decide)) (aam pm cd)) ?_;intro bN;replace t:=t.at (L:=bN);generalize c.at bN=c at t⊢
 kst_p
 have hh:=t.hd;have hrs:y.rs=[]:=by have:=h.gI;rw[hr]at this;exact this
 have hpl:(ww ps).length=ps.length:=by simp[ww]
 refine wE.cons (FM.ifs (b:=false) ((az.cmp (f8.ga (by kd_p) (b_.gI t h)) (by kd_p) Rs.isNotNone).to (by refine U hrs ?_;rfl)) (fun h=>(by injection h)) fun J=>wE.nil ?_);obtain⟨aaz,Yx⟩:=BW st x;refine wE.cons (FM.iG (aE.nO t (by kd_p) h.inst h.attrs (by rfl) (jg ..) (Rf ..) (OQ ..) (fM (st:=d7 6 1) (t.fn rfl rfl rfl rfl)) (.cons (by kd_p) .nil (by kd_p)) (c_.mono (cu.r (LU t h hr (fS (bV ..) hz (by decide)))) ?_)));intro d gm Go;obtain⟨Gj,a,n,rfl,h₁,Hg,hf,hat,VP⟩:=Go;refine⟨_,by kd_in,?_⟩;have b1:=PU (dw st x) x ps.length;refine wE.cons (FM.Cs (d₂:=.int (ps.length:Nat)) (by kd_p) (b_.np t hat) ?_ Rs.Gh (gH.np t hat) ?_)
 ·exact ZB hpl (f8.MX (by kd_p) (by kd_p) (jX hpl hp (by decide)))
 have h₂:=h₁.vf hf (n.np+(ps.length:Nat));refine b4 (uY hf) fun VD o9 J=>?_;have EK:lG (dw st x) x ps.length={dw st x with nodes:=ee (dw st x).nodes x {n with np:=n.np+(ps.length:Nat)}}:=by unfold lG;exact U VD rfl
 rw[←EK]at h₂;have NU:bI (y.foot S) Y (Gj.foot S) (gm.put a.i (some (.inst 40 a.d [some (.str n.name),some (.int (n.np+(ps.length:Nat))),some (.val (.ref a.l))]))):=Hg.trans (bI.put (Gj.yQ S o9).1 _);have Ke:fN st x ps=ps.foldl (fun s p=>jt (dw s p) p x) (lG (dw st x) x ps.length):=rfl;generalize gm.put a.i _=jW at h₂ NU;have sh:=K_ (z5 zI x) x ps.length;have ln:(lG (dw st x) x ps.length).nodes.length≤st.nodes.length+1:=by refine U b1.2 ?_;exact Yx
 have rd:(lG (dw st x) x ps.length).ready=Option.none:=by refine U b1.1 (U aaz ?_);exact hr
 generalize lG (dw st x) x ps.length=qW at h₂ Ke sh ln rd;refine wE.cons (FM.for hh vU (items:=ww ps) (bA.tup (by kd_p)) (PB S y st x ps a Y)
  ⟨ps,qW,Gj,_,_,rfl,h₂,NU,VP,rd,mD ln _,aH _,sh.mono (bV ..),Ke,rfl⟩ (fun J J J J=>trivial) ?_ ?_)
 ·intro d rest NE I Go;obtain⟨ay,s,gq,bR,bM,bE,hs,ol,Jv,vO,BD,nY,hsh,gS,rfl⟩:=Go;rcases ay with _|⟨p,ay⟩
  ·injection bE
  obtain⟨rfl,rfl⟩:=jd bE;refine bh.name (by kd_in) ?_;simp only[bU]at BD nY;obtain⟨SQ,afk⟩:=BW s p;refine wE.cons (FM.iG (aE.nO t (by kd_p) hs.inst hs.attrs (by rfl) (jg ..) (Rf ..) (OQ ..) (fM (st:=d7 6 1) (t.fn rfl rfl rfl rfl)) (.cons (by kd_p) .nil (by kd_p)) (c_.mono (cu.r (LU t hs vO (Tq BD hz))) ?_)));intro d kg Go;obtain⟨QB,b,m,rfl,qd,ad7,zF,MA,adQ⟩:=Go;refine⟨_,by kd_in,?_⟩;refine b4 (uY zF) fun uU CL J=>?_;have Wy:m.succ.length≤600:=by
   exact YL (z5 hsh p m (yl uU)) hp
  refine wE.cons (FM.expr (aE.append (a:=b.l) (l:=ww m.succ) (d:=.str x) (f8.ga (by kd_p) (b_.succ t MA)) (by kd_p) MA.2.2 (by simp[ww];exact Ev Wy (by decide)) ?_));refine wE.nil ?_;have eP:jt (dw s p) p x={dw s p with nodes:=ee (dw s p).nodes p {m with succ:=m.succ++[x]}}:=by unfold jt;exact U uU rfl
  have h₄:=qd.Gy zF (m.succ++[x]);rw[←eP]at h₄;have pk:=LS (dw s p) p x;refine⟨ay,jt (dw s p) p x,QB,_,_,rfl,?_,(ol.trans ad7).trans (bI.put (QB.yQ S CL).2.2 _),adQ.trans Jv,by refine U pk.1 (U SQ ?_);exact vO,by refine U pk.2 ?_;exact JI afk BD,by exact fz ‹_›,(M_ (z5 hsh p) p x).mono (by simp only[bU];exact T7 nY),gS,rfl⟩;have:ww m.succ++[D.str x]=ww (m.succ++[x]):=by simp[ww]
  exact U this h₄
 ·intro NE I Go;obtain⟨ay,s,gq,bR,bM,bE,hs,ol,Jv,vO,BD,nY,hsh,gS,rfl⟩:=Go;rcases ay with _|⟨p,ay⟩
  rotate_left
  ·injection bE
  refine wE.nil ?_;refine wE.nil ?_;exact U gS ⟨rfl,gq,hs,ol,Jv⟩
theorem Tr {S:Addr} {y:Lay} {st:St} {x:Str} {ps:List Str} (t:aT c) (h:bH Y S y st) (hr:st.ready=Option.none) (hz:st.nodes.length+ps.length≤900) (zI:Short 500 st.nodes) (hp:ps.length≤100):
 cu c (k+4) (.ref 87) (.val (.ref S):: .str x::ww ps) Y (fun d I=>d= .val .none∧∃gq,bH I S gq (fN st x ps)∧bI (y.foot S) Y (gq.foot S) I∧gq.rs=y.rs):=
 (ON t h hr hz zI hp).pm
end
end
section
open PySem.W
theorem adu (l) (items):PySem.Meets (Builtin.«bool.__new__» ⟨[.type "bool",.ref l],[]⟩) (fun J R s=>s.heap.IsList l items∧(items.size:Int)<2^63∧R (.ok (.ret (.bool (!items.isEmpty)))) {s with toks:=s.toks+1+1}):=
 PySem.Meets.of_wp fun prog w A R s hs=>by
  obtain⟨hp,g,d,tk,os⟩:=s;refine b4 hs fun hl hz h=>?_;have f1:=PySem.F.conv_sub_bool;have aeN:∀{Q:Bool→Shared→Prop} {E:Value→Shared→Prop} {A:Around},Q (!items.isEmpty) ⟨hp,g,d,tk+1+1,os⟩→wpAny (model prog w) A (truthy (.ref l)) Q E ⟨hp,g,d,tk,os⟩:=fun q=>EZ hl ‹_› q
  repeat(any_goals (first|assumption|with_reducible apply aeN|wp_step))
  all_goals first|exact⟨_,rfl,h⟩|skip
open PySem.AutoSeq1 (wpAny_loadPart')in
theorem abl (l) (o) (items) (n) (hc:o.cls= .type "list") (hd:o.data= .seq items n) (hsz:items.size≤sizeLine):
 PySem.Meets (Builtin.«tuple.__new__» ⟨[.type "tuple",.ref l],[]⟩)
  (fun J R s=>s.heap.get? l=some o∧∀h':Heap,(∀b o',s.heap.get? b=some o'→h'.get? b=some o')→s.heap.objs.size≤h'.objs.size→R (.ok (.ret (.ref h'.objs.size))) {s with heap:=h'.push {cls:=.type "tuple",data:=.seq items}}):=
 .of_wp fun prog w A R s h=>by
  obtain⟨hp,g,d,tk,os⟩:=s;refine Op h fun FS h=>?_;have hsub:=PySem.sub_tuple_self;have xP:=PySem.init_tuple_lookup;have ab3:=PySem.madeHere_tuple;have hT:Shared.TypeIs ⟨hp,g,d,tk,os⟩ (.ref l) "list" :=⟨o,FS,hc⟩;have GN:∀{A:Around} {Q:List Value→Shared→Prop} {E:Value→Shared→Prop},(∀h':Heap,(∀b o',hp.get? b=some o'→h'.get? b=some o')→hp.objs.size≤h'.objs.size→Q items.toList ⟨h',g,d,tk,os⟩)→wpAny (model prog w) A (collect (.ref l)) Q E ⟨hp,g,d,tk,os⟩:=
   fun q=>g9 (wpAny_collect_seq (hsz:=hsz) l (.inl rfl) FS hc hd fun h' hk up=>q h' hk up.size)
  wp_walk using fk FS,wpAny_typeOf hT,GN;intro h' hk hz;show wpAny _ _ (Builtin.Tuple.tupleExact items.toList.toArray>>=fun v=>ret v) _ _ _;unfold Builtin.Tuple.tupleExact;refine u8 (iL ?_ (by show items.toList.toArray.size≤sizeLine;simpa using hsz));refine On ⟨_,rfl,?_⟩;have e:items.toList.toArray=items:=by simp
  exact U e (h h' hk hz)
section
variable {c:ah} {k:Nat} {O:XV} {Y:B}
theorem bZ.YJ (hs:aK c O Y d l) (hz:l.length≤1000000):bZ c k O Y (.type "bool") [d] (.val (.bool (!l.isEmpty))):=by
 intro A V s Z H ok r h Q E g;refine wS (iF h) fun v s4 s5=>?_;subst s4;refine dS (hs _ V Z v r s5) fun a H n s4 hg FS=>?_;subst s4;have e1:H.size=l.length:=by exact ZB FS.length (U gB rfl)
 have e2:(!H.isEmpty)=(!l.isEmpty):=by
  have h1:=FS.length;rcases H with⟨H⟩;cases H<;>cases l<;>simp_all
 refine PySem.call_bool_1 (adu a H) ⟨⟨_,hg,rfl,n,rfl⟩,by refine U e1 ?_;exact pn ‹_›,?_⟩;exact U e2 ⟨rfl,gV g r.top r.sub (.val _) (by lia)⟩
theorem bZ.KN (hs:aK c O Y d l) (hz:l.length≤1000):bZ c k O Y (.type "tuple") [d] (.tup l):=by
 intro A V s Z H ok r h Q E g;refine wS (iF h) fun v s4 s5=>?_;subst s4;refine dS (hs _ V Z v r s5) fun a H n s4 hg FS=>?_;subst s4;have e1:H.size=l.length:=by exact ZB FS.length (U gB rfl)
 refine AM z6 (by decide) (N7 _) (MN _) (fun obj=>KP obj _) N1
  (abl a _ H n rfl rfl (by refine U e1 (U cQ ?_);exact Ev ‹_› (by decide))) ⟨hg,fun h' hk hz=>⟨⟨_,dN _ rfl,rfl⟩,?_⟩⟩
 have ny:Step c s Z {s with heap:=h'} Z:=Step.keep (t:=s.toks) r.top r.sub hk hz (aH _);have qW:=Step.push (s:={s with heap:=h'}) ny.top ny.sub {cls:=.type "tuple",data:=.seq H} rfl (by simp);exact g _ _ _ (ny.trans qW) (.tup (TW.ai ..) (FS.mono qW.le))
theorem f8.ofInt (h:f8 c k O Y e (.val (.int i tk))):f8 c k O Y e (.int i):=fun A V s Z ok r Q E g=>h A V s Z ok r Q E fun v s' Z' t s5=>by
 exact s5.v (g _ s' Z' t (.int _ _))
noncomputable def nP (ns:List bP) (x:Str) (v:Int):List bP:=match dZ ns x with
 |some n=>ee ns x {n with np:=v}
 |none=>ns
noncomputable def sD (st:St) (r:List Str):St:={nodes:=r.foldl (fun ns x=>nP ns x (-1)) st.nodes,ready:=some [],j6:=st.j6+(r.length:Nat),fin:=st.fin}
theorem bH.QL {S:Addr} {y:Lay} {st:St} {R:Addr} {r:List Str} (h:bH Y S y st) (bD:y.rs=[R]) (hr:st.ready=some r) (v):bH (Y.put R (some (.list (ww v)))) S y {st with ready:=some v}:=by
 obtain⟨Qz,e1,e2⟩:∃R,y.rs=[R]∧Y R=some (.list (ww r)):=by have:=h.gI;rw[hr]at this;exact this
 rw[bD]at e1;cases e1;have ne:∀b,Y b≠Y R→b≠R:=fun b hb z=>hb (U z rfl);have nl:=jY.mp h.pA;refine⟨(B.aa _ _ (ne S (by refine U h.inst (U e2 ?_);simp))).trans h.inst,(B.aa _ _ (ne _ (by refine U h.attrs (U e2 ?_);simp))).trans h.attrs,(B.aa _ _ (ne _ (by refine U h.fu (U e2 ?_);simp))).trans h.fu,h.dK.congr fun a ha=>?_,⟨R,bD,B.ai ..⟩,h.qn,h.pA⟩;refine d9 (h.dK.mem a ha) fun n J n1 b6 dP=>?_;exact⟨B.aa _ _ (ne _ (by refine U n1 (U e2 ?_);simp)),B.aa _ _ (ne _ (by refine U b6 (U e2 ?_);simp)),B.aa _ _ fun z=>nl.2.2 a.l (cz ha) R (by refine U bD ?_;simp) z⟩
theorem bH.Nf {S:Addr} {y:Lay} {st:St} (h:bH Y S y st) (p f):bH (Y.put y.h_ (some (.attrs (gW y {st with j6:=p,fin:=f})))) S y {st with j6:=p,fin:=f}:=by
 have ne:∀b,Y b≠Y y.h_→b≠y.h_:=fun b hb z=>hb (U z rfl);have ha:=h.attrs;refine⟨(B.aa _ _ (ne S (by refine U h.inst (U ha ?_);simp))).trans h.inst,B.ai ..,(B.aa _ _ (ne _ (by refine U h.fu (U ha ?_);simp))).trans h.fu,h.dK.congr fun a hm=>?_,h.gI.congr fun R J l e=>(B.aa _ _ (ne R (by refine U e (U ha ?_);simp))).trans e,h.qn,h.pA⟩;refine d9 (h.dK.mem a hm) fun n J n1 b6 dP=>?_;refine⟨B.aa _ _ (ne _ (by refine U n1 (U ha ?_);simp)),B.aa _ _ (ne _ ?_),B.aa _ _ (ne _ (by refine U dP (U ha ?_);simp))⟩;refine U b6 (U ha ?_);simp[gW]
theorem Wf (ns) (x) (v):(nP ns x v).map (fun x=>x.name)=ns.map (fun x=>x.name):=by
 unfold nP
 induction e:dZ ns x with
 |none=>rfl
 |some n=>exact vv e rfl
theorem Fp:(∃n,dZ ns x=some n)↔x∈ns.map (fun x=>x.name):=by
 induction ns with
 |nil=>simp[m7,XX]
 |cons m ns ih=>
  rw[m7];by_cases q:m.name=x
  ·refine U (ak q) ?_;simp[q]
  ·rw[Tk q,ih,aJ,aY];exact⟨.inr,fun h=>h.resolve_left fun e=>q e.symm⟩
inductive Ms (S:Addr) (y:Lay) (st:St) (r:List Str) (Y:B) (aD:List D) (O:XV) (I:B):Prop
 |mk (ay:List Str) (ns:List bP) (o:Option D):(aD=ww ay)→(bH I S y {st with nodes:=ns})→(bI (y.foot S) Y (y.foot S) I)→(ns.map (fun x=>x.name)=st.nodes.map (fun x=>x.name))→((∀x∈ay,x∈r))→(r.foldl (fun ns x=>nP ns x (-1)) st.nodes=ay.foldl (fun ns x=>nP ns x (-1)) ns)→(O=[⟨"self",.loc,some (.val (.ref S))⟩,⟨"result",.loc,some (.tup (ww r))⟩,⟨"n2i",.loc,some (.val (.ref y.N))⟩,⟨"node",.loc,o⟩,⟨"tuple",.bw,some (.val (.type "tuple"))⟩,⟨"_NODE_OUT",.bw,some (.val (.int (-1) 197))⟩,⟨"len",.bw,some (.val (.builtin "len"))⟩])→Ms S y st r Y aD O I
theorem Vz {S:Addr} {y:Lay} {st:St} {r:List Str} (t:aT c) (h:bH Y S y st) (hr:st.ready=some r) (hz:r.length≤500) (hin:∀x∈r,x∈st.nodes.map (fun x=>x.name)):
 cu c (k+1) (.ref 99) [.val (.ref S)] Y (fun d I=>d= .tup (ww r)∧bH I S y (sD st r)∧bI (y.foot S) Y (y.foot S) I):=by
 refine cu.fn (st:=d7 6 4) (qual:="TopologicalSorter.get_ready") (dV:=.none) (ps:=[("self",.loc)]) (ls:=[("result",.loc),("n2i",.loc),("node",.loc)]) (gs:=[("tuple",.type "tuple"),("_NODE_OUT",.int (-1) 197),("len",.builtin "len")]) (t.fn rfl rfl rfl rfl) (by kd_p) (bB (t.dh (by kd_p) (by kd_p) (by decide)) (bB (t.glob (by kd_p)) (bB (t.dh (by kd_p) (by kd_p) (by decide)) cG))) rfl (fun J J=>.plain rfl (iZ fun J=>rfl)) ?_;intro bN;replace t:=t.at (L:=bN);generalize c.at bN=c at t⊢
 kst_p
 have hh:=t.hd;obtain⟨R,bD,pP⟩:∃R,y.rs=[R]∧Y R=some (.list (ww r)):=by have:=h.gI;rw[hr]at this;exact this
 have pW:yz y.rs= .val (.ref R):=by refine U bD ?_;rfl
 have nD:(ww r).length=r.length:=by simp[ww]
 have qS:∀{O:XV} {I:B} {st':St},bH I S y st'→b_ c k O I S "_ready_nodes" (.val (.ref R)):=fun h'=>by
  exact ZB pW (b_.gI t h')
 refine wE.cons (FM.ifs (b:=false) ((az.cmp (f8.ga (by kd_p) (qS h)) (by kd_p) Rs.isNone).to rfl) (fun h=>(by injection h)) fun J=>wE.nil ?_);refine wE.cons (FM.assign (d:=.tup (ww r)) (f8.call (by kd_p) sS (.cons (f8.ga (by kd_p) (qS h)) .nil (by kd_p)) (bZ.KN (.cell pP) (by exact jX ‹_› ‹_› (by decide))) (by kd_p)) (by kd_in) ?_);refine wE.cons (FM.assign (d:=.val (.ref y.N)) (f8.ga (by kd_p) (b_.fu t h)) (by kd_in) ?_);refine wE.cons (FM.for hh vU (items:=ww r) (bA.tup (by kd_p)) (Ms S y st r Y)
  ⟨r,st.nodes,_,rfl,h,bI.refl _ _,rfl,fun J h=>h,rfl,rfl⟩ (fun J J J J=>trivial) ?_ ?_)
 ·intro d rest NE I Go;obtain⟨ay,ns,o,bE,hs,ol,uK,hsub,gS,rfl⟩:=Go;rcases ay with _|⟨x,ay⟩
  ·cases bE
  cases bE;refine bh.name (by kd_in) ?_;obtain⟨n,M2⟩:=Fp.mpr (show x∈ns.map (fun x=>x.name) by refine U uK ?_;exact hin x (hsub x (.head _)));refine d9 (hs.dK.find M2) fun a i1 cM fh J=>?_;have hdg:=wU y.as ns x;rw[i1]at hdg;have OT:=hs.vf i1 (-1);refine wE.cons (FM.nX (.nH (d:=.int (-1)) (f8.ofInt (by kd_p)) ⟨f8.sub (by kd_p) (by kd_p) (Rs.tB hs.fu hdg),_,gH.np t fh,?_⟩));dsimp only;refine wE.nil ?_;have e:nP ns x (-1)=ee ns x {n with np:= -1}:=by unfold nP;exact U M2 rfl
  refine⟨ay,nP ns x (-1),_,rfl,by refine U e ?_;exact OT,ol.trans (bI.put (y.yQ S cM).1 _),(Wf ..).trans uK,fun z hz=>hsub z (.tail _ hz),gS,rfl⟩
 ·intro NE I Go;obtain⟨ay,ns,o,bE,hs,ol,uK,hsub,gS,rfl⟩:=Go;rcases ay with _|⟨p,ay⟩
  rotate_left
  ·cases bE
  refine wE.nil ?_;have c8:bH I S y {st with nodes:=ns}:=hs;have aeL:I R=some (.list (ww r)):=by
   obtain⟨Qz,gP,lT⟩:∃R,y.rs=[R]∧I R=some (.list (ww r)):=by have:=hs.gI;rw[show({st with nodes:=ns}:St).ready=some r from hr]at this;exact this
   rw[bD]at gP;cases gP;exact lT
  refine wE.cons (FM.expr (aE.clear (a:=R) (f8.ga (by kd_p) (qS hs)) aeL (jX nD hz (by decide)) ?_));have h2:=hs.QL bD hr [];have kj:bI (y.foot S) Y (y.foot S) (I.put R (some (.list (ww [])))):=ol.trans (bI.put (y.HL S (by refine U bD ?_;simp)) _);change bH (I.put R (some (.list []))) S y _ at h2;change bI (y.foot S) Y (y.foot S) (I.put R (some (.list [])))at kj;generalize I.put R (some (.list []))=jW at h2 kj;refine wE.cons (FM.Cs (d₂:=.int (r.length:Nat)) (by kd_p) (b_.QF t h2) (by refine ZB nD ?_;exact f8.MX (by kd_p) (by kd_p) (jX nD hz (by decide))) Rs.Gh (gH.attr t h2.inst h2.attrs (sG ..) (rK ..) (q6 (F2 ..)) (kB ..) (by simp[gW])) ?_);dsimp only;have h3:=h2.Nf (st.j6+(r.length:Nat)) st.fin;refine wE.cons (FM.ret (d:=.tup (ww r)) (by kd_p) ?_);have iW:iD (gW y {st with nodes:=ns,ready:=some []}) "_npassedout" (.int (st.j6+(r.length:Nat)))=gW y {nodes:=ns,ready:=some [],j6:=st.j6+(r.length:Nat),fin:=st.fin}:=rfl;refine⟨rfl,?_,kj.trans (bI.put (y.zY S) _)⟩;refine U (show sD st r={nodes:=ns,ready:=some [],j6:=st.j6+(r.length:Nat),fin:=st.fin} by unfold sD;refine U gS ?_;rfl) ?_;exact h3
end
end
section
open PySem.W
noncomputable def ZT (x:D):Value:=match x with| .val v=>v|_=>.none
noncomputable def iU (l:List (Str×D)):List (Str×Value):=l.map fun x=>(x.1,ZT x.2)
noncomputable def o6 (l:List (Str×D)):Prop:=∀x∈l,∃v,x.2= .val v
theorem ads (s5:o6 l) (bL:au Z H (l.map Prod.snd)):H=(iU l).map Prod.snd:=by
 induction l generalizing H with
 |nil=>exact bL.n rfl
 |cons p l ih=>
  refine bL.c fun{a b} h r=>?_;refine aO (s5 _ (.head _)) fun v e=>?_;have q:=ih (fun x hx=>s5 x (.tail _ hx)) r;obtain⟨n,d⟩:=p;simp only at e;subst e;refine h.v ?_;refine U q ?_;rfl
theorem tells_of:∀{l:List (Str×D)},o6 l→au Z ((iU l).map Prod.snd) (l.map Prod.snd)
 |[],_=>.nil
 |(n,d)::l,s5=>by
  refine aO (s5 _ (.head _)) fun v e=>?_;simp only at e;subst e;exact .cons (.val v) (tells_of fun x hx=>s5 x (.tail _ hx))
theorem B4 (l):(iU l).map Prod.fst=l.map Prod.fst:=by simp[iU]
theorem Qj (s5:o6 l) (h:p5 c Z o l):o.IsDictOf (strKind c.p c.w) (iU l):=by
 refine aS h fun kvs h1 h2 h3=>?_;have e2:=ads s5 h3;have:kvs=iU l:=by
  have e1:kvs.map Prod.fst=(iU l).map Prod.fst:=h2.trans (B4 l).symm;clear h1 h2 h3 s5;revert e1 e2;generalize iU l=m;intro e2 e1
  induction kvs generalizing m with
  |nil=>induction m with|nil=>rfl|cons=>simp at e1
  |cons x kvs ih=>
   rcases m with _|⟨z,m⟩
   ·simp at e1
   ·simp only[aJ,w4]at e1 e2;exact U (ih m e2.2 e1.2) (U (Prod.ext e1.1 e2.1) rfl)
 exact ZB this h1
theorem TA (s5:o6 l) (h:o.IsDictOf (strKind c.p c.w) (iU l)):p5 c Z o l:=⟨_,h,B4 l,tells_of s5⟩
section
variable {c:ah} {k:Nat} {O:XV} {Y:B}
theorem Sq (r:bz c Z h V O Y) (cO:Y N=some (.dict l)) (s5:o6 l):∃o,o.IsDictOf (strKind c.p c.w) (iU l)∧bz c Z h V O (Y.put N (some (.raw o)))∧h.get? N=some o:=by
 refine Op (r.cells N _ cO) fun aG hz=>?_;refine wS aG fun o xz hd=>?_;have hf:=Qj s5 hd;refine fW o hf ⟨r.fn,r.top,r.sub,r.vars,fun a cl e=>?_,⟨⟨?_,r.own.1.2⟩,fun n a e=>⟨?_,(r.own.2 n a e).2⟩⟩,r.glob⟩ xz
 ·by_cases q:a=N
  ·subst q;rw[B.ai]at e;obtain rfl:=bf e;exact⟨⟨o,xz,rfl,by refine U (p5.cls hd) ?_;simp⟩,hz⟩
  ·rw[B.aa _ _ q]at e;exact r.cells a cl e
 ·exact U (B.aa _ _ (by intro z;have:=r.own.1.1;rw[z,cO]at this;injection this)) r.own.1.1
 ·exact U (B.aa _ _ (by intro z;have:=(r.own.2 n a e).1;rw[z,cO]at this;injection this)) ((r.own.2 n a e).1)
theorem GP (h:Y N=some cl):(Y.put N (some eu)) a=Option.none↔Y a=Option.none:=by
 by_cases q:a=N
 ·subst q;rw[B.ai,h];simp
 ·rw[B.aa _ _ q]
theorem aN.Q2 (s5:o6 l) (cO:Y N=some (.dict l)) (hf:o.IsDictOf (strKind c.p c.w) (iU l)) (h:aN c (Y.put N (some (.raw o))) s Z I s' Z') (Rz:I N=some (.raw o)):aN c Y s Z (I.put N (some (.dict l))) s' Z':=by
 have ne:∀a,(Y.put N (some (.raw o))) a≠Option.none↔Y a≠Option.none:=fun a=>not_congr (GP cO);refine⟨h.size,fun a o' ha e=>h.keep a o' ((GP cO).mpr ha) e,h.fields,h.top,h.le,fun a o' e=>(h.ext a o' e).imp id (Or.imp (ne a).mp id),h.sub,fun a ha=>?_,fun a cl e=>?_,h.tok,h.rest⟩
 ·have:=h.ju a (fun z=>ha ((GP (eu:=.dict l) Rz).mpr z));exact this.imp (ne a).mp id
 ·by_cases q:a=N
  ·subst q;rw[B.ai]at e;obtain rfl:=bf e;refine Op (h.cells a _ Rz) fun aG hz=>?_;refine aS aG fun o' bG e' J=>?_;subst e';exact⟨⟨o',bG,TA s5 hf⟩,hz⟩
  ·rw[B.aa _ _ q]at e;exact h.cells a cl e
theorem aE.fix (cO:Y N=some (.dict l)) (s5:o6 l)
 (h:∀o,o.IsDictOf (strKind c.p c.w) (iU l)→aE c k O (Y.put N (some (.raw o))) e fun d I=>I N=some (.raw o)∧Sc d (I.put N (some (.dict l)))):aE c k O Y e Sc:=by
 intro A V s Z ok r Q E q;refine aS (Sq r cO s5) fun o hf r' J=>?_;exact h o hf A V s Z ok r' Q E fun d I v s' Z' aq gT Xl=>Op Xl fun h1 h2=>q d _ v s' Z' (aN.Q2 s5 cO hf aq h1) gT h2
theorem eL.fix (cO:Y N=some (.dict l)) (s5:o6 l)
 (h:∀o,o.IsDictOf (strKind c.p c.w) (iU l)→eL c k f ds (Y.put N (some (.raw o))) fun d I=>I N=some (.raw o)∧Sc d (I.put N (some (.dict l)))):eL c k f ds Y Sc:=by
 intro A s Z H ok top sub aZ mo R q;refine Op (mo N _ cO) fun aG hz=>?_;refine wS aG fun o xz hd=>?_;have hf:=Qj s5 hd;refine h o hf A s Z H ok top sub aZ (fun a cl e=>?_) R fun d I v s' Z' aq gT adS=>Op adS fun h1 h2=>q d _ v s' Z' (aN.Q2 s5 cO hf aq h1) gT h2;by_cases q:a=N
 ·subst q;rw[B.ai]at e;obtain rfl:=bf e;exact⟨⟨o,xz,rfl,by refine U (p5.cls hd) ?_;simp⟩,hz⟩
 ·rw[B.aa _ _ q]at e;exact mo a cl e
theorem I7 (r:bz c Z h V O Y) (cO:Y N=some (.raw o)) (hf:o.IsDictOf (strKind c.p c.w) kvs):(N==sysModules)=false∧h.get? N=some o∧h.DictOf (strKind c.p c.w) N kvs:=by
 refine b4 (r.cells N _ cO) fun aG J h0=>?_;refine aS aG fun o' xz e J=>?_;subst e;refine⟨?_,xz,zo.mpr ⟨o',xz,hf⟩⟩;have:N≠sysModules:=by rintro rfl;exact r.glob.2.2.1 h0
 simpa using this
theorem Rs.Xk (s5:o6 l) (ha:Y a=some (.raw o)) (hf:o.IsDictOf (strKind c.p c.w) (iU l)) (hx:Internal.cI l x=some d)
 (hsub:∀o j,subscripted bS false o j=operate [o,j] (getItem o j):=by intros;rfl):Rs c k O Y (subscriptTail v bS) (.val (.ref a)) (.str x) d:=by
 intro A V s Z bg bK ok r h₁ h₂ Q E g;refine h₁.v ?_;refine h₂.s fun J=>?_;refine b4 (I7 r ha hf) fun J xz hd=>?_;refine wS ((v7 (B4 l) (tells_of (Z:=Z) s5) x).2 d hx) fun y No ty=>?_;exact r7 (T:="dict") hd.typeIs slot_dict_getitem.lookup (wpAny_getItem_of (knd:=PySem.strKind c.p c.w) (k:=x) (n9 ..) hd.mapOf No (gV g r.top r.sub ty (b7 _))) (hsub _ _)
end
inductive Ep (N:Addr) (kvs:List (Str×Value)) (ep:Nat) (Z:TW) (aD:List D) (it:Addr):Objs→Prop
 |mk (o:Obj) (i:Nat):o.cls= .type "dict_keyiterator"→o.data= .fields #[.ref N,.int i 0,.int kvs.length 0,.int ep 0]→aD=(kvs.map fun x=>.str x.1).drop i→Ep N kvs ep Z aD it [(it,o)]
inductive HG (N:Addr) (kvs:List (Str×Value)) (ep:Nat) (Z:TW) (aD:List D) (it:Addr):Objs→Prop
 |mk (o:Obj) (i:Nat):o.cls= .type "dict_valueiterator"→o.data= .fields #[.ref N,.int i 0,.int kvs.length 0,.int ep 0]→aD=(kvs.map fun x=>.val x.2).drop i→HG N kvs ep Z aD it [(it,o)]
noncomputable def sj (c:ah) (o:Obj) (kvs:List (Str×Value)) (ep:Nat):Prop:=∃es,o.ExactDict∧o.data= .dict es ep∧KeysOf (strKind c.p c.w) es∧Pairs (strKind c.p c.w) es.toList kvs∧(kvs.map Prod.fst).Nodup
theorem HE (h:o.IsDictOf (strKind c.p c.w) kvs):∃ep,sj c o kvs ep:=fE h fun es ep r=>⟨ep,es,r⟩
theorem sj.of (h:sj c o kvs ep):o.IsDictOf (strKind c.p c.w) kvs:=aO h fun es r=>⟨es,ep,r⟩
theorem tP (r:bz c Z h V O Y) (cO:Y N=some (.raw o)) (hf:sj c o kvs ep):(N==sysModules)=false∧h.DictAt (strKind c.p c.w) N kvs ep:=by
 refine b4 (I7 r cO hf.of) fun a b J=>?_;refine aO hf fun es q=>?_;exact⟨a,o,es,b,q⟩
theorem K4 {α β:Type} {l:List α} {f:α→β} {d:β} {aD:List β} (h:d::aD=(l.map f).drop i):∃x,l[i]?=some x∧d=f x∧aD=(l.map f).drop (i+1):=by
 have h1:(l.map f)[i]?=some d:=by rw[←Cg,←h];rfl
 rw[kI,GQ]at h1;refine wS h1 fun x hx e=>?_;exact fW x hx e.symm (by refine ZB Dw (ZB h ?_);rfl)
theorem Kn {α β:Type} {l:List α} {f:α→β} (h:[]=(l.map f).drop i):l[i]?=none:=by
 have:=IG.mp h.symm;rw[b8]at this;exact lP.mpr this
theorem Qm (hf:sj c o kvs ep):qT c (Ep N kvs ep) (fun Y=>Y N=some (.raw o)) where
 mono:=fun J ⟨o,i,h2,h3,h4⟩=>⟨o,i,h2,h3,h4⟩
 rows:=fun⟨o,i,h2,h3,h4⟩=>xg h2 (by decide) h3
 iter:=by
  intro A s Z it os aD Q E st Go q;obtain⟨o,i,h2,h3,h4⟩:=Go;exact wpAny_pyIter_keyiter ⟨o,cL.mp st,h2,h3⟩ q
 go:=by
  intro A s Z it os aD v bk Q E _ sub top cH st Go q;obtain⟨o,i,h2,h3,h4⟩:=Go;exact we (cL.mp st) h2 h3 (by decide) (q s _ (.id top sub) rfl st ⟨o,i,h2,h3,h4⟩)
 next:=by
  intro A V s Z O Y it os d aD Q E hh r src cH st Go q;obtain⟨o,i,h2,h3,h4⟩:=Go;refine Op (tP r src hf) fun _ hd=>?_;refine aS (K4 h4) fun aaE hx SS bE=>?_;obtain⟨jC,bO⟩:=aaE;subst SS;refine wpAny_pyNext_dict_item ⟨o,cL.mp st,h2,h3⟩ hd hx fun key h' hkey U1 av=>aS U1 fun o' bG i6 hd'=>?_;have tk:∃t,key= .str jC t:=by
   have hkey:Value.isStrOf jC key=true:=hkey;cases key<;>simp[Value.isStrOf]at hkey
   subst hkey;exact⟨_,rfl⟩
  refine aO tk fun t U0=>?_;subst U0;exact q _ {s with heap:=h'} Z [(it,o')] (dG.same r.top r.sub (cH _ (.head _)) av (.head _) (aH _) ⟨o,_,cL.mp st,h3⟩) rfl (cL.mpr bG) ⟨o',i+1,i6,hd',bE⟩ (.str _ _)
 fin:=by
  intro A V s Z O Y it os Q E hh r src cH st Go q;obtain⟨o,i,h2,h3,h4⟩:=Go;refine Op (tP r src hf) fun _ hd=>?_;exact g9 (wpAny_pyNext_dict_end hh ⟨o,cL.mp st,h2,h3⟩ hd (Kn h4) fun h' x u=>q _ Z (dG.ext' r.top r.sub (cH _ (.head _)) x (.head _) u ⟨o,_,cL.mp st,h3⟩))
theorem UA (hf:sj c o kvs ep):qT c (HG N kvs ep) (fun Y=>Y N=some (.raw o)) where
 mono:=fun J ⟨o,i,h2,h3,h4⟩=>⟨o,i,h2,h3,h4⟩
 rows:=fun⟨o,i,h2,h3,h4⟩=>xg h2 (by decide) h3
 iter:=by
  intro A s Z it os aD Q E st Go q;obtain⟨o,i,h2,h3,h4⟩:=Go;exact wpAny_pyIter_valiter ⟨o,cL.mp st,h2,h3⟩ q
 go:=by
  intro A s Z it os aD v bk Q E _ sub top cH st Go q;obtain⟨o,i,h2,h3,h4⟩:=Go;exact we (cL.mp st) h2 h3 (by decide) (q s _ (.id top sub) rfl st ⟨o,i,h2,h3,h4⟩)
 next:=by
  intro A V s Z O Y it os d aD Q E hh r src cH st Go q;obtain⟨o,i,h2,h3,h4⟩:=Go;refine Op (tP r src hf) fun J hd=>?_;refine aS (K4 h4) fun aG hx s4 bE=>?_;subst s4;obtain⟨jC,bO⟩:=aG;refine wpAny_pyNext_values_item ⟨o,cL.mp st,h2,h3⟩ hd hx fun h' ael av=>aS ael fun o' bG i6 hd'=>?_;exact q _ {s with heap:=h'} Z [(it,o')] (dG.same r.top r.sub (cH _ (.head _)) av (.head _) (aH _) ⟨o,_,cL.mp st,h3⟩) rfl (cL.mpr bG) ⟨o',i+1,i6,hd',bE⟩ (.val _)
 fin:=by
  intro A V s Z O Y it os Q E hh r src cH st Go q;obtain⟨o,i,h2,h3,h4⟩:=Go;refine Op (tP r src hf) fun J hd=>?_;exact g9 (wpAny_pyNext_values_end hh ⟨o,cL.mp st,h2,h3⟩ hd (Kn h4) fun h' x u=>q _ Z (dG.ext' r.top r.sub (cH _ (.head _)) x (.head _) u ⟨o,_,cL.mp st,h3⟩))
section
variable {c:ah} {k:Nat} {O:XV} {Y:B}
theorem bA.keys (he:f8 c k O Y e (.val (.ref N))) (cO:Y N=some (.raw o)) (hf:sj c o kvs ep):bA c k O Y e (Ep N kvs ep) (kvs.map fun x=>.str x.1):=by
 intro A V s Z ok r Q E q;refine he A V s Z ok r _ E fun v s₁ aC EQ s5=>?_;refine s5.v ?_;refine Op (tP (r.step EQ) cO hf) fun hs hd=>?_;refine wpAny_pyIter_dict hs hd ?_;have st:=EQ.trans (Step.alloc EQ.top EQ.sub {cls:=.type "dict_keyiterator",data:=.fields #[.ref N,.int 0 0,.int kvs.length 0,.int ep 0]});refine q _ [(_,_)] _ _ st (cL.mpr (dN _ rfl)) (fun p hp=>?_) ⟨_,0,rfl,rfl,rfl⟩;refine bC hp ?_ fun hp=>?_
 ·exact⟨EQ.grow.1,gC EQ.sub (aH _)⟩
 ·cases hp
theorem bA.values (he:f8 c k O Y e (.val (.ref N))) (cO:Y N=some (.raw o)) (hf:sj c o kvs ep)
 (fH:∀V,attributeBase e "values" V (eval e V)=eval e V:=by intro;rfl) (fY:(c5.endLine==pos.line)=true:=by rfl):bA c k O Y (.Call (.Attribute e "values" c5) [] [] pos) (HG N kvs ep) (kvs.map fun x=>.val x.2):=by
 intro A V s Z ok r Q E q;refine ya (fH V) rfl fY (he A V s Z ok r _ E fun v s₁ aC EQ s5=>?_);refine s5.v ?_;have r₁:=r.step EQ;refine Op (tP r₁ cO hf) fun hs hd=>?_;refine b4 (I7 r₁ cO hf.of) fun J xz J=>?_;have hex:o.dict=Option.none:=by refine wS hf fun es aG J=>?_;refine b4 aG fun J e J=>?_;exact e
 refine z3 ("dict") ("dict.values") B9 Nv (by show builtinType _=_;refine U builtinType_eq_fast ?_;kernel_rfl) hd.dictOf.typeIs (fun a e=>by cases e;exact⟨o,xz,hex⟩) ?_;refine lR (c:=c) (f:=.builtin "dict.values") (first:=[.ref N]) r_ (nu (es:=[]) (ds:=[]) .nil (ok.step EQ) r₁ (by intro;rfl) fun H s₂ bx t₂ aZ=>⟨t₂.top,?_⟩);refine aZ.n ?_;have r₂:=r₁.step t₂;refine Op (tP r₂ cO hf) fun J GD=>?_;refine AP Nv GD.dictOf.typeIs PySem.F.entry_dict_values (PySem.F.args_dict_values_1 _) (meets_dict_values (strKind c.p c.w) N hs) ⟨⟨kvs,GD.dictOf⟩,?_⟩;have lM:=Step.alloc t₂.top t₂.sub {cls:=.type "dict_values",data:=.fields #[.ref N]};have mT:(s₂.heap.push {cls:=.type "dict_values",data:=.fields #[.ref N]}).objs.size=s₂.heap.objs.size+1:=eS ..;refine wpAny_pyIter_values (s:={s₂ with heap:=s₂.heap.push {cls:=.type "dict_values",data:=.fields #[.ref N]}}) (kvs:=kvs) (ep:=ep) ⟨_,dN _ rfl,rfl,rfl⟩ (GD.push _) ?_;have st:=((EQ.trans t₂).trans lM).trans (Step.alloc lM.top lM.sub {cls:=.type "dict_valueiterator",data:=.fields #[.ref N,.int 0 0,.int kvs.length 0,.int ep 0]});refine q _ [(_,_)] _ _ st (cL.mpr (dN _ rfl)) (fun p hp=>?_) ⟨_,0,rfl,rfl,rfl⟩;refine bC hp ?_ fun hp=>?_
 ·exact⟨Ev (EQ.trans t₂).grow.1 lM.grow.1,gC lM.sub (aH _)⟩
 ·cases hp
end
end
section
theorem gk.slots (x:Heap.SlotsOnly S h h') (hS:∀b∈S,∃o,h.get? b=some o∧j0 o):gk h h':=by
 refine⟨bT x.1.symm,fun a o e=>?_⟩;by_cases q:a∈S
 ·refine wS (hS a q) fun NP lF i=>?_;rw[e]at lF;obtain rfl:=bf lF;obtain⟨bS,e'⟩:=x.2.2 a o e;exact⟨_,e',.inr ⟨i.2,bS,rfl⟩⟩
 ·exact⟨o,(x.2.1 a q).trans e,.refl _⟩
noncomputable def B.del (Y:B) (l:List Addr):B:=fun b=>if b∈l then none else Y b
theorem B.Ri {Y:B} {l:List Addr} {b:Addr} (h:b∉l):Y.del l b=Y b:=Tk h
theorem B.BJ {Y:B} {l:List Addr}:∀a cl,Y.del l a=some cl→Y a=some cl:=fun a cl e=>by
 delta B.del at e;split at e
 ·injection e
 ·exact e
noncomputable def qb (Y:B) (e:Addr) (ts:List Addr) (cls:Value):Prop:=∃o H,Y e=some (.raw o)∧o.cls=cls∧o.data= .fields H∧1<H.size∧
 ((ts=[]∧H[1]?=some .none)∨∃T kU us,ts=[T]∧H[1]?=some (.ref T)∧T≠e∧Y T=some (.raw kU)∧kU.data= .fields us∧us[3]?=some .none)
section
variable {c:ah} {k:Nat} {A:Around} {E:Value→Shared→Prop} {s:Shared} {Z:TW} {Y:B} {e L:Addr} {o:Obj} {H:Array Value} {V:Env}
theorem aN.X7 (r:gj c Z s.heap Y) (top:c.H0.StaysIn s.heap) (sub:Sub Z s.heap) (ha:Y a≠none∧Y a≠some .any) (av:Heap.SameBut a s.heap h') (xz:h'.get? a=some o') (hc:eN c Z o' eu) (tok:s.toks≤t):aN c Y s Z (Y.put a (some eu)) {s with heap:=h',toks:=t} Z:=by
 refine aO (nZ.mp ha.1) fun uT iQ=>?_;refine b4 (r a uT iQ) fun aG hz h0=>?_;obtain⟨abh,Hx,Fd⟩:=aG;refine aN.chg (S:=[a]) r (.of_same av (.head _)) (fun b hb=>by refine U (fq.mp hb) ?_;exact ha.1) (fun b hb o e h=>?_) (fun b o e=>?_) (.refl ..) (fun b o e=>?_) (fun b hb=>Tk (fun q=>hb (by refine U q ?_;exact .head _))) (fun b hb cl e=>?_) tok ⟨_,_,rfl⟩
 ·rw[fq.mp hb,Hx]at e;obtain rfl:=bf e;exact absurd h.2 (Fd.RW (by rintro rfl;exact ha.2 iQ))
 ·exact(av.2 b (by rintro rfl;rw[h0]at e;injection e)).trans (top b o e)
 ·exact⟨(av.2 b (by rintro rfl;rw[hz]at e;injection e)).trans (sub.get e),(sub b o e).2⟩
 ·rw[fq.mp hb]at e⊢;rw[B.ai]at e;obtain rfl:=bf e;exact⟨o',xz,hc⟩
theorem aN.raw (mo:gj c Z s.heap Y) (top:c.H0.StaysIn s.heap) (sub:Sub Z s.heap) (he:Y e=some (.raw o)) (hd:o.data= .fields H) (f:Array Value→Array Value):
 aN c Y s Z (Y.put e (some (.raw (o.mapFields f)))) {s with heap:=s.heap.update e (Obj.mapFields f)} Z:=by
 refine Op (mo e _ he) fun aG J=>?_;refine aS aG fun o' xz s4 hc=>?_;subst s4;have hd':=AS hd f;exact aN.X7 (t:=s.toks) mo top sub (by refine U he ?_;simp) (mK ..) (kD _ xz (Obj.isFreed_of_fields hd')) ⟨rfl,by rw[Obj.cls_mapFields];exact hc⟩ (aH _)
theorem aa8 (jP:A.frames=some (qA::outer)) (hl:s.heap.FunFrames base (qA::outer)) (h0:qA.frame=some L)
 (hf:V.frame=some L) (h:∀h',Heap.SlotsOnly ((qA::outer).filterMap (fun x=>x.frame)) s.heap h'→Q (.ref L) {s with heap:=h'}):wpAny M A (PySem.frameOf V) Q E s:=by
 delta PySem.frameOf;refine u8 (wpAny_frameEnvs jP ?_);have qI:((qA::outer).dropWhile fun x=>x.frame !=V.frame)=qA::outer:=by simp[List.dropWhile,h0,hf]
 refine U qI ?_;delta frameObject;refine u8 (u8 (wpAny_readyFrames_fun hl fun h₁ iA=>On ?_));exact U h0 (On (h h₁ iA))
theorem RI (aU:c.fr=some L) (hf:V.frame=some L) (ok:Ok c k A s) (top:c.H0.StaysIn s.heap) (sub:Sub Z s.heap) (mo:gj c Z s.heap Y)
 (he:Y e=some (.raw o)) (hd:o.data= .fields H) (hsz:1<H.size)
 (h:∀I T s',aN c Y s Z I s' Z→Y T=none→qb I e [T] o.cls→(∀b,b≠e→b≠T→I b=Y b)→Q () s'):
 wpAny c.M A (do let a←PySem.frameOf V;let pl←entryPlaceOf L afX;let b←EntryCells.newEntry head a .none (rawInt L) .none pl;setField (.ref e) 1 b) (fun J s'=>wpAny c.M A (setFlight (.ref e) none) Q E s') E s:=by
 refine d9 (ok.frames) fun l jP hl VJ lk=>?_;refine eG (lk L aU) fun qA l' s4 h0=>?_;subst s4;refine u8 (aa8 jP hl h0 hf fun h₁ iA=>?_);have g₁:=gk.slots iA VJ;have ny:Step c s Z {s with heap:=h₁} Z:=⟨g₁,fun b j4 Ej=>by
  refine U (iA.2.1 b fun hm=>by rw[(hl.mem hm).1]at Ej;cases Ej) ?_;exact top b j4 Ej,.refl ..,g₁.sub sub,aH _,⟨_,_,rfl⟩⟩
 have a₁:=ny.p9 mo;refine u8 (wpAny_entryPlaceOf fun pl hpl=>?_);delta EntryCells.newEntry newFields;refine u8 (iL ?_ (hpl.sizeOk5 _ _ _ _ _));have a₂:=aN.new (t:=s.toks) (s:={s with heap:=h₁}) (o:={cls:=.type "traceback",dict:=none,data:=.fields ([head,.ref L,.none,rawInt L,.none]++(if pl.isEmpty then List.replicate 6 Value.none else pl)).toArray}) a₁.cells a₁.top a₁.sub rfl (cl:=.raw {cls:=.type "traceback",dict:=none,data:=.fields ([head,.ref L,.none,rawInt L,.none]++(if pl.isEmpty then List.replicate 6 Value.none else pl)).toArray}) ⟨rfl,by simp⟩ (aH _);have pq:Y h₁.objs.size=none:=gj.fresh a₁.cells (aH _);have pB:h₁.objs.size≠e:=by rintro q;rw[q,he]at pq;injection pq
 have N4:(Y.put h₁.objs.size (some (.raw {cls:=.type "traceback",dict:=none,data:=.fields ([head,.ref L,.none,rawInt L,.none]++(if pl.isEmpty then List.replicate 6 Value.none else pl)).toArray}))) e=some (.raw o):=by refine U (B.aa _ _ (bQ pB)) ?_;exact he
 refine Op (a₂.cells e _ N4) fun aG J=>?_;refine aS aG fun o' xz s4 hc=>?_;subst s4;have a₃:=aN.raw a₂.cells a₂.top a₂.sub N4 hd (·.setIfInBounds 1 (Value.ref h₁.objs.size));refine wA xz hd hsz ?_;have hd₃:=AS hd (·.setIfInBounds 1 (Value.ref h₁.objs.size));refine Op (a₃.cells e _ (B.ai ..)) fun aG J=>?_;refine aS aG fun J qJ s4 J=>?_;subst s4;delta setFlight;refine u8 (gz qJ hd₃ (x:=.ref h₁.objs.size) (by simp[hsz]) ?_);refine U (ak (show(Value.ref h₁.objs.size !=Value.none)=true from by simp)) ?_;have O7:=(B.aa (Y.put h₁.objs.size (some (.raw {cls:=.type "traceback",dict:=none,data:=.fields ([head,.ref L,.none,rawInt L,.none]++(if pl.isEmpty then List.replicate 6 Value.none else pl)).toArray}))) (some (.raw (o'.mapFields (·.setIfInBounds 1 (Value.ref h₁.objs.size))))) pB).trans (B.ai ..);refine Op (a₃.cells _ _ O7) fun aG J=>?_;refine aS aG fun J vS s4 J=>?_;subst s4;have a₄:=aN.raw a₃.cells a₃.top a₃.sub O7 rfl (·.setIfInBounds 3 ((none:Option Addr).elim Value.none fun f=>rawInt f));refine wA vS rfl (by simp only[jv,dR,bU,gU]<;>lia) (h _ h₁.objs.size _ (((a₁.trans a₂).trans a₃).trans a₄) pq ?_ fun b hb PO=>?_)
 ·refine yb _ _ ((B.aa _ _ (bQ pB)).trans (B.ai ..)) (Obj.cls_mapFields ..) hd₃ (by simp[hsz]) (.inr ⟨_,_,_,rfl,by simp[hsz],pB,B.ai ..,AS rfl _,?_⟩)
  first|(simp;done)|(rcases hpl with rfl|⟨_,_,_,_,_,_,_,rfl⟩<;>simp)
 ·exact U (B.aa _ _ PO) (U (B.aa _ _ hb) (U (B.aa _ _ PO) rfl))
theorem LH {ts:List Addr} {cls:Value} {Q:Unit→Shared→Prop} (aU:c.fr=some L) (hf:V.frame=some L) (ok:Ok c k A s) (top:c.H0.StaysIn s.heap) (sub:Sub Z s.heap) (mo:gj c Z s.heap Y) (x:qb Y e ts cls)
 (h:∀I T s',aN c Y s Z I s' Z→qb I e [T] cls→I.del [e,T]=Y.del (e::ts)→Q () s'):wpAny c.M A (noteFrame (.ref e) V) (fun J s₂=>wpAny c.M A (setFlight (.ref e) none) Q E s₂) E s:=by
 refine wh x fun o H he s4 hd hsz hh=>?_;subst s4;obtain⟨⟨o',xz,rfl,hc⟩,_⟩:=mo e _ he;delta noteFrame;simp only[hf];rcases hh with⟨rfl,h1⟩|⟨T,kU,us,rfl,h1,pB,hT,sU,h3⟩
 ·refine u8 (gz xz hd h1 ?_);refine U (Tk (by decide)) ?_;refine RI aU hf ok top sub mo he hd hsz fun I T s' aq pq ex same=>h I T s' aq ex ?_;funext b;delta B.del;by_cases q:b=e
  ·subst q;simp
  ·by_cases q':b=T
   ·subst q';simp[q,pq]
   ·simp[q,q',same b q q']
 ·refine u8 (gz xz hd h1 ?_);obtain⟨⟨pT,vS,rfl,T8⟩,_⟩:=mo T _ hT;refine U (ak (show(Value.ref T !=Value.none)=true from by simp)) ?_;refine u8 (gz vS sU h3 ?_);refine U (Tk (show¬((Value.none==rawInt L)=true)from by simp[rawInt])) ?_;refine u8 (wA vS sU (Rt.mp h3).1 ?_);have a₁:=aN.raw mo top sub hT sU (fun x=>x.setIfInBounds 3 .none);have XT:(Y.put T (some (.raw (pT.mapFields (fun x=>x.setIfInBounds 3 .none))))) e=some (.raw o'):=by refine U (B.aa _ _ (bQ pB)) ?_;exact he
  refine RI aU hf (ok.af a₁.af) a₁.top a₁.sub a₁.cells XT hd hsz fun I T' s' aq pq ex same=>?_;have Ru:T≠T':=by rintro rfl;rw[B.ai]at pq;cases pq
  have e1:(I.del [T]).del [e,T']=Y.del [e,T]:=by
   funext b;delta B.del;by_cases q:b=e
   ·subst q;simp
   ·by_cases q':b=T'
    ·subst q';have:Y b=none:=by rw[B.aa _ _ (bQ Ru)]at pq;exact pq
     simp[q,this]
    ·by_cases FZ:b=T
     ·subst FZ;simp
     ·simp[q,q',FZ,same b q q',B.aa _ _ FZ]
  refine h (I.del [T]) T' s' ((a₁.trans aq).shrink B.BJ) ?_ e1;refine wh ex fun o H Ks VY U7 x4 Zf=>?_;rcases Zf with⟨y,_⟩|⟨af9,YH,aen,TV,y2,Vj,Wl,ZX,y6⟩
  ·cases y
  ·cases TV;exact yb o H (by refine U (B.Ri (by simpa using bQ pB)) ?_;exact Ks) VY U7 x4 (.inr ⟨T',YH,aen,rfl,y2,Vj,by refine U (B.Ri (by simpa using bQ Ru)) ?_;exact Wl,ZX,y6⟩)
end
end
section
noncomputable def r5 (c:ah) (k:Nat) (O:XV) (Y:B) (e:Expr) (cls:Value) (aV:B→Prop):Prop:=
 ∀(A:Around) (V:Env) (s:Shared) (Z:TW),Ok c k A s→bz c Z s.heap V O Y→∀(Q:Value→Shared→Prop) (E:Value→Shared→Prop),
  (∀x ts I s' Z',aN c Y s Z I s' Z'→qb I x ts cls→aV (I.del (x::ts))→E (.ref x) s')→wpAny c.M A (eval e V) Q E s
noncomputable def l8 (c:ah) (k:Nat) (O:XV) (Y:B) (st:Stmt) (cls:Value) (aV:XV→B→Prop):Prop:=
 ∀(A:Around) (V:Env) (s:Shared) (base Z:TW),Ok c k A s→bu c base Z s.heap V O Y→∀(Q:Flow→Shared→Prop) (E:Value→Shared→Prop),
  (∀x ts NE I s' Z',Run Y s Z I s' Z'→bu c base Z' s'.heap V NE I→qb I x ts cls→aV NE (I.del (x::ts))→E (.ref x) s')→wpAny c.M A (exec st V) Q E s
noncomputable def jZ (c:ah) (k:Nat) (O:XV) (Y:B) (F8:List Stmt) (cls:Value) (aV:XV→B→Prop):Prop:=
 ∀(A:Around) (V:Env) (s:Shared) (base Z:TW),Ok c k A s→bu c base Z s.heap V O Y→∀(Q:Flow→Shared→Prop) (E:Value→Shared→Prop),
  (∀x ts NE I s' Z',Run Y s Z I s' Z'→bu c base Z' s'.heap V NE I→qb I x ts cls→aV NE (I.del (x::ts))→E (.ref x) s')→wpAny c.M A (execs F8 V) Q E s
noncomputable def FW (c:ah) (k:Nat) (f:Value) (ds:List D) (Y:B) (cls:Value) (aV:B→Prop):Prop:=
 ∀(A:Around) (s:Shared) (Z:TW) (H:List Value),Ok c k A s→c.H0.StaysIn s.heap→Sub Z s.heap→au Z H ds→gj c Z s.heap Y→∀(Q E:Value→Shared→Prop),
  (∀x ts I s' Z',aN c Y s Z I s' Z'→qb I x ts cls→aV (I.del (x::ts))→E (.ref x) s')→wpAny c.M A (call f H) Q E s
theorem Run.src (x:Run Y s Z I s' Z') (le:∀a,Y a≠none→aI a≠none):Run aI s Z I s' Z':=
 ⟨x.af,x.le,fun a o e=>(x.ext a o e).imp id (Or.imp (le a) id),fun a h=>(x.ju a h).imp (le a) id⟩
theorem B.afi {Y:B} {l:List Addr} (a) (h:Y.del l a≠none):Y a≠none:=by
 refine aO (nZ.mp h) fun cl e=>?_;refine U (B.BJ a cl e) ?_;simp
section
variable {c:ah} {k:Nat} {O:XV} {Y:B} {Sc:fy→Prop} {cls:Value} {aV:XV→B→Prop}
theorem jZ.here {st:Stmt} {rest:List Stmt} (h:l8 c k O Y st cls aV):jZ c k O Y (st::rest) cls aV:=fun A V s base Z ok w Q E q=>
 AK (h A V s base Z ok w _ E q)
theorem jZ.cons {st:Stmt} {rest:List Stmt} (h:FM c k O Y st (adT fun NE I=>jZ c k NE I rest cls aV)):jZ c k O Y (st::rest) cls aV:=by
 intro A V s base Z ok w Q E q;refine AK (h A V s base Z ok w _ E fun o f s' Z' m cP dz xz=>?_)
 induction dz with
 |next=>exact xz A V s' base Z' (ok.af m.af) cP Q E fun x ts NE I s'' eH m' jB ex hp=>q x ts NE I s'' eH (m.trans m') jB ex hp
 |brk=>exact xz.elim
 |cont=>exact xz.elim
 |ret _=>exact xz.elim
theorem l8.assign (he:r5 c k O Y e cls (aV O))
 (hs:∀V,V.scope.kind= .function→swapsWith e (some (.Name n p)) pos.line V=pure false:=by intros;rfl):l8 c k O Y (.Assign [.Name n p] e pos) cls aV:=by
 intro A V s base Z ok w Q E q;exact zR (he A V s Z ok w.rd _ E fun x ts I s' Z' t ex hp=>q x ts O I s' Z' t.run (w.after t) ex hp) (hs V w.rd.fn)
theorem l8.ifs (FS:az c k O Y e b) (No:b=true→jZ c k O Y ug cls aV) (M2:b=false→jZ c k O Y tg cls aV):l8 c k O Y (.If e ug tg pos) cls aV:=by
 intro A V s base Z ok w Q E q;refine wpAny_If (FS A V s Z ok w.rd _ E fun s' Z' t=>?_);have q':=fun x ts NE I s'' eH m' jB ex hp=>q x ts NE I s'' eH ((t.run Y).trans m') jB ex hp
 induction b with
 |true=>exact No rfl A V s' base Z' (ok.step t) (w.step t) Q E q'
 |false=>exact M2 rfl A V s' base Z' (ok.step t) (w.step t) Q E q'
theorem afj (top:c.H0.StaysIn s.heap) (sub:Sub Z s.heap) (mo:gj c Z s.heap Y) (ex:qb Y x [T] cls)
 (h:∀I s',aN c Y s Z I s' Z→qb I x [T] cls→I.del [x,T]=Y.del [x,T]→Q () s'):wpAny c.M A (setFlight (.ref x) none) Q E s:=by
 refine wh ex fun o H he s4 hd hsz hh=>?_;subst s4;obtain⟨⟨o',xz,rfl,hc⟩,_⟩:=mo x _ he;rcases hh with⟨y,_⟩|⟨T',kU,us,y,h1,pB,hT,sU,h3⟩
 ·cases y
 cases y;obtain⟨⟨pT,vS,rfl,T8⟩,_⟩:=mo T _ hT;unfold setFlight;refine u8 (gz xz hd h1 ?_);refine U (ak (show(Value.ref T !=Value.none)=true from by simp)) ?_;have hi:=(Rt.mp h3).1;have a₁:=aN.raw mo top sub hT sU (·.setIfInBounds 3 ((none:Option Addr).elim Value.none fun f=>rawInt f));refine wA vS sU hi (h _ _ a₁ ?_ ?_)
 ·refine yb o' H (by refine U (B.aa _ _ (bQ pB)) ?_;exact he) rfl hd hsz (.inr ⟨T,_,_,rfl,h1,pB,B.ai ..,AS sU _,?_⟩);simp[hi]
 ·funext b;unfold B.del;by_cases q:b=T
  ·subst q;simp
  ·exact U (B.aa _ _ q) rfl
theorem FM.OB {body QA:List Stmt} {t:Expr} {b₀:Stmt} {hs:List ExceptHandler} {pos ae8:Pos} {tv:Value} (jP:c.fr≠none) (hb:jZ c k O Y body cls aV)
 (hm:∀{A:Around} {s:Shared} {x:Addr} {o:Obj} {Q:Bool→Shared→Prop} {E:Value→Shared→Prop},c.H0.StaysIn s.heap→s.heap.get? x=some o→o.cls=cls→Q true s→wpAny c.M A (excMatches (.ref x) tv) Q E s)
 (hh:∀NE I,aV NE I→f8 (c.re true c.T) k NE I t (.val tv)∧wE (c.re true c.T) k NE I (b₀::QA) Sc):
 FM c k O Y (.Try body (.ExceptHandler (some t) none (b₀::QA) ae8::hs) [] [] pos) Sc:=by
 intro A V s bs Z ok w Q E q;refine aO (nZ.mp jP) fun L aU=>?_;refine wpAny_Try_except (hb A V s bs Z ok w _ _ fun x ts NE gm s₁ aC run w₁ ex hp=>?_);refine LH aU (w₁.rd.glob.2.2.2 L aU) (ok.af run.af) w₁.rd.top w₁.rd.sub w₁.rd.cells ex fun jW T s₂ aq Cn FY=>?_;have w₂:=w₁.after aq;rw[←FY]at hp;refine Op (hh _ _ hp) fun he acC=>?_;have lI:=(ok.af run.af).af aq.af;have Nn:∀{s:Shared},Ok c k A s→Ok (c.re true c.T) k (A.mark (some (.ref x))) s:=fun ok=>⟨ok.depth,ok.units,ok.frames,ok.tok,fun h=>(by injection h)⟩;have Zk:=(w₂.shrink (I:=jW.del [x,T]) B.BJ).re (hd:=true) (T:=c.T);refine wpAny_handleBy_cons (codeAny_handlers_test (he (A.mark (some (.ref x))) V s₂ aC (Nn lI) Zk.rd _ _ fun v aF er t₃ s5=>?_)) (by intro h;injection h);refine s5.v ?_;have w₃:=w₂.step t₃.ng;refine fB (id Cn) fun o H e1 e2 J=>?_;refine Op (w₃.rd.cells x _ e1) fun aG J=>?_;refine aS aG fun o' xz s4 J=>?_;subst s4;refine hm w₃.rd.top xz e2 ?_;dsimp only[if_true];refine codeAny_handlers_suite ?_;refine afj w₃.rd.top w₃.rd.sub w₃.rd.cells Cn fun vz iY a₄ af5 RE=>?_;have iP:=w₃.after a₄;have g6:=(iP.shrink (I:=vz.del [x,T]) B.BJ).re (hd:=true) (T:=c.T);have YG:=(lI.step t₃.ng).af a₄.af;rw[RE]at g6;refine acC (A.mark (some (.ref x))) V iY bs er (Nn YG) g6 _ _ fun o f tC oJ r nh dz aaB=>?_;refine q o f tC oJ ?_ nh.ng dz aaB;refine(((run.trans aq.run).trans (t₃.ng.run jW)).trans a₄.run).trans (r.src fun a h=>?_);rw[←RE]at h;exact B.afi a h
theorem FM.while (Inv:Nat→XV→B→Prop) (n) (h0:Inv n O Y)
 (turn:∀n NE I,Inv n NE I→∃b,az c k NE I test b∧(b=true→wE c k NE I body (EF (fun GK kg=>∃m,m<n∧Inv m GK kg) Sc))∧(b=false→wE c k NE I orelse Sc)):FM c k O Y (.While test body orelse pos) Sc:=by
 intro A V s bs Z ok w Q E q;refine wpAny_While (codeAny_whileLoop (fun n s₂=>∃NE I Z',Inv n NE I∧bu c bs Z' s₂.heap V NE I∧Run Y s Z I s₂ Z') ?_ n ⟨O,Y,Z,h0,w,.refl ..⟩);intro n s₂ Go;refine dS Go fun NE I bx inv w₂ sY=>?_;refine aS (turn n NE I inv) fun b FS No M2=>?_;refine FS A V s₂ bx (ok.af sY.af) w₂.rd _ _ fun aF er t=>?_;have u5:=(ok.af sY.af).step t;have w₃:=w₂.step t;have nJ:=sY.trans (t.run I)
 induction b with
 |true=>
  refine U (ak rfl) ?_;refine No rfl A V aF bs er u5 w₃ _ _ fun o f iY oh r iP dz h=>?_
  induction dz with
  |next=>
   refine wS h fun m hm FQ=>?_;exact⟨m,hm,_,_,oh,FQ,iP,nJ.trans r⟩
  |cont=>
   refine wS h fun m hm FQ=>?_;exact⟨m,hm,_,_,oh,FQ,iP,nJ.trans r⟩
  |brk=>exact q (.next _ _) .next iY oh (nJ.trans r) iP .next h
  |ret t=>exact q (.ret _ _ _) _ iY oh (nJ.trans r) iP (.ret t) h
 |false=>
  exact U (Tk (by decide)) (M2 rfl A V aF bs er u5 w₃ _ _ fun o f iY oh r iP dz h=>q o f iY oh (nJ.trans r) iP dz h)
end
end
section
open PySem.W Builtin
theorem Lb {c:ah} {A:Around} {E:Value→Shared→Prop} {s:Shared} {it m:Addr} {pos:Pos} {Q:Value→Shared→Prop} (hm:s.heap.get? m=some (mj it))
 (h:wpAny c.M A (call (.ref m) []) Q E s):wpAny c.M A (callWith pos (.ref m) [] (backTo pos []) []) Q E s:=by
 delta callWith;refine u8 (bW ?_);unfold evalArgs;show wpAny c.M A (spliced []>>=_) _ E s;refine u8 (wK ?_);refine u8 (On ?_);refine bW ?_;refine u8 (On (u8 (On (On ?_))));refine u8 (f6 ?_);have tail:∀{t:Sem Value},wpAny c.M A t Q E s→wpAny c.M A (t>>=fun r=>holding [r] point>>=fun J=>pure r) Q E s:=
  fun FS=>u8 (dQ FS (fun r s₂ hr=>u8 (bW (yJ (On hr)))) fun J J x=>x)
 refine u8 (m:=keeperOf (.ref m)) ?_;unfold keeperOf;refine u8 (kR hm ?_);dsimp only;refine U (ak (by decide)) (U (ak (by decide)) ?_);exact On (tail h)
section
variable {c:ah} {k:Nat} {O:XV} {Y:B} {Sc:D→B→Prop}
theorem aE.Ug (he:aE c k O Y e fun d I=>∃it L i,d= .val (.ref it)∧I it=some (.raw (kL L i))∧∀m,I m=none→Sc (.val (.ref m)) (I.put m (some (.raw (mj it)))))
 (zC:∀V,eval (.Attribute e "__next__" pos) V=(do
  let iC←eval e V
  standAt pos.atName
  let r←holding [iC] (getAttr iC "__next__" true)
  letTemporaryGo e iC r
  pure r):=by intro;with_unfolding_all rfl):aE c k O Y (.Attribute e "__next__" pos) Sc:=by
 intro A V s Z ok r Q E g;refine Attribute_any_ (he A V s Z ok r _ E fun d I v s₁ aC EQ s5 aaI=>dS aaI fun it L i hd hit Ch=>?_) (zC V);subst hd;refine s5.v ?_;have r₁:=r.after EQ;refine Op (r₁.cells it _ hit) fun aG J=>?_;refine aS aG fun o xz e1 J=>?_;subst e1;exact adg xz rfl rfl rfl (g _ _ _ _ aC (EQ.trans (aN.new (t:=s₁.toks+1) (cl:=.raw (mj it)) (o:=mj it) r₁.cells r₁.top r₁.sub rfl ⟨rfl,by simp⟩ (b7 _))) (.val _) (Ch _ (r₁.fresh (aH _))))
theorem aE.step (hf:f8 c k O Y uQ (.val (.ref m))) (hm:Y m=some (.raw (mj it))) (hi:Y it=some (.raw (kL L i))) (aU:Y L=some (.list l)) (hx:l[i]?=some d)
 (Ch:Sc d (Y.put it (some (.raw (kL L (i+1))))))
 (zC:∀V,eval (.Call uQ [] [] pos) V=(do callWith pos (←eval uQ V) [] (backTo pos []) []):=by intro;with_unfolding_all rfl):aE c k O Y (.Call uQ [] [] pos) Sc:=by
 intro A V s Z ok r Q E g;rw[zC];refine u8 (hf A V s Z ok r _ E fun v s₁ aC EQ s5=>?_);refine s5.v ?_;have r₁:=r.step EQ;obtain⟨⟨UG,zJ,e1,_⟩,_⟩:=r₁.cells m _ hm;subst e1;obtain⟨⟨i0,uF,e2,_⟩,_⟩:=r₁.cells it _ hi;subst e2;refine eG (q3 r₁ aU) fun its n Fq FS=>?_;refine wS (getL FS hx) fun x ic dj=>?_;refine Lb zJ (Lf zJ ?_);show wpAny _ _ (field (.ref it) 0>>=_) _ _ s₁;refine u8 (gz uF rfl (x:=.ref L) rfl ?_);show wpAny _ _ (if(Value.ref L==Value.none)=true then _ else _) _ _ s₁;refine U (Tk (show¬((Value.ref L==Value.none)=true)from oA)) ?_;show wpAny _ _ (field (.ref it) 1>>=_) _ _ s₁;refine u8 (gz uF rfl (x:=.int i 0) rfl ?_);show wpAny _ _ (seqItems? (.ref L)>>=_) _ _ s₁;refine u8 (nc Fq rfl ?_);simp only[qQ,ic];refine u8 (wA uF rfl (by simp) (On ⟨x,rfl,?_⟩));have aq:=aN.raw r₁.cells r₁.top r₁.sub hi rfl (·.setIfInBounds 1 (rawInt (i+1)));exact g d _ x _ aC ((EQ.after r).trans aq) dj Ch
theorem r5.step (hh:c.hd=false) (hf:f8 c k O Y uQ (.val (.ref m))) (hm:Y m=some (.raw (mj it))) (hi:Y it=some (.raw (kL L i))) (aU:Y L=some (.list l)) (hx:l[i]?=none)
 (Ch:∀o,aV (Y.put it (some (.raw o))))
 (zC:∀V,eval (.Call uQ [] [] pos) V=(do callWith pos (←eval uQ V) [] (backTo pos []) []):=by intro;with_unfolding_all rfl):r5 c k O Y (.Call uQ [] [] pos) (.type "StopIteration") aV:=by
 intro A V s Z ok r Q E g;rw[zC];refine u8 (hf A V s Z ok r _ E fun v s₁ aC EQ s5=>?_);refine s5.v ?_;have r₁:=r.step EQ;obtain⟨⟨UG,zJ,e1,_⟩,_⟩:=r₁.cells m _ hm;subst e1;obtain⟨⟨i0,uF,e2,_⟩,_⟩:=r₁.cells it _ hi;subst e2;refine eG (q3 r₁ aU) fun its n Fq FS=>?_;have ic:its[i]?=none:=by
  rw[←vX,lP,FS.length];exact lP.mp hx
 refine Lb zJ (Lf zJ ?_);show wpAny _ _ (field (.ref it) 0>>=_) _ _ s₁;refine u8 (gz uF rfl (x:=.ref L) rfl ?_);show wpAny _ _ (if(Value.ref L==Value.none)=true then _ else _) _ _ s₁;refine U (Tk (show¬((Value.ref L==Value.none)=true)from oA)) ?_;show wpAny _ _ (field (.ref it) 1>>=_) _ _ s₁;refine u8 (gz uF rfl (x:=.int i 0) rfl ?_);show wpAny _ _ (seqItems? (.ref L)>>=_) _ _ s₁;refine u8 (nc Fq rfl ?_);simp only[qQ,ic];refine u8 (pD (u8 (wA uF rfl (by simp) ?_)));have a₁:=aN.raw r₁.cells r₁.top r₁.sub hi rfl (fun x=>x.setIfInBounds 0 Value.none);show wpAny _ _ (newExc (.type "StopIteration") []>>=_) _ _ _;refine u8 ?_;simp only[newExc,newTuple];refine u8 (iL ?_ (by size_fits));refine u8 (m:=firstArgMember _ _) (qR (a:=Value.none) (by first|rfl|(simp only[firstArgMember];rfl)) ?_);refine iL ?_ (by size_fits);delta raiseNew;refine u8 (wpAny_handled ?_);refine U (show A.in1.handled=none from ok.hand hh) ?_;refine u8 (On (wpAny_throw ?_));have st:=Step.alloc a₁.top a₁.sub {cls:=.type "tuple",data:=.seq #[]};have a₂:=st.p9 a₁.cells;have a_:∀{x:Addr},(Y.put it (some (.raw ((kL L i).mapFields (fun x=>x.setIfInBounds 0 Value.none))))) x=none→x≠it:=fun{x} h q=>by rw[q,B.ai]at h;injection h
 have fr:=gj.fresh a₂.cells (aH _);have a₃:=aN.new (t:=s₁.toks) (cl:=.raw {cls:=.type "StopIteration",data:=.fields #[.ref (s₁.heap.update it (Obj.mapFields (fun x=>x.setIfInBounds 0 Value.none))).objs.size,.none,.none,.none,.bool false,.none]}) (o:={cls:=.type "StopIteration",data:=.fields #[.ref (s₁.heap.update it (Obj.mapFields (fun x=>x.setIfInBounds 0 Value.none))).objs.size,.none,.none,.none,.bool false,.none]}) a₂.cells a₂.top a₂.sub rfl ⟨rfl,by simp⟩ (aH _);refine g _ [] _ _ aC ((((EQ.after r).trans a₁).trans a₂).trans a₃) ⟨_,_,B.ai ..,rfl,rfl,by simp,.inl ⟨rfl,rfl⟩⟩ ?_;have e:((Y.put it (some (.raw ((kL L i).mapFields (fun x=>x.setIfInBounds 0 Value.none))))).put ((s₁.heap.update it (Obj.mapFields (fun x=>x.setIfInBounds 0 Value.none))).push {cls:=.type "tuple",data:=.seq #[]}).objs.size (some (.raw {cls:=.type "StopIteration",data:=.fields #[.ref (s₁.heap.update it (Obj.mapFields (fun x=>x.setIfInBounds 0 Value.none))).objs.size,.none,.none,.none,.bool false,.none]}))).del [((s₁.heap.update it (Obj.mapFields (fun x=>x.setIfInBounds 0 Value.none))).push {cls:=.type "tuple",data:=.seq #[]}).objs.size]=Y.put it (some (.raw ((kL L i).mapFields (fun x=>x.setIfInBounds 0 Value.none)))):=by
  funext b;unfold B.del;by_cases q:b∈[((s₁.heap.update it (Obj.mapFields (fun x=>x.setIfInBounds 0 Value.none))).push {cls:=.type "tuple",data:=.seq #[]}).objs.size]
  ·refine U (ak q) ?_;exact U (fq.mp q) fr.symm
  ·exact U (Tk q) (U (B.aa _ _ (fun z=>q (by refine U z ?_;exact .head _))) rfl)
 exact cast (cN aV e).symm (Ch _)
end
end
section
open PySem.W
noncomputable abbrev yY (S N:Addr) (q:e9) (o:Option D):XV:=[⟨"self",.loc,some (.val (.ref S))⟩,⟨"n2i",.loc,some (.val (.ref N))⟩,⟨"stack",.loc,some (.val (.ref q.ST))⟩,⟨"itstack",.loc,some (.val (.ref q.eW))⟩,⟨"seen",.loc,some (.val (.ref q.ek))⟩,⟨"node2stacki",.loc,some (.val (.ref q.fG))⟩,⟨"node",.loc,o⟩,
 ⟨"set",.bw,some (.val (.type "set"))⟩,⟨"iter",.bw,some (.val (.builtin "iter"))⟩,⟨"len",.bw,some (.val (.builtin "len"))⟩,⟨"StopIteration",.bw,some (.val (.type "StopIteration"))⟩]
theorem UZ (xz:s.heap.get? x=some o) (hc:o.cls= .type "StopIteration") (h:Q true s):wpAny (model prog w) A (excMatches (.ref x) (.type "StopIteration")) Q E s:=
 wpAny_excMatches_type (b:=true) (X:="StopIteration") ⟨o,xz,hc⟩ (by rw[lS];kernel_rfl) (by rw[lS];kernel_rfl) (by rw[lS];kernel_rfl) h
theorem iO.start {aI:B} {as:List eE} {ns:List bP} {ST eW ek fG:Addr} (xC:aI ST=none) (tQ:(aI.put ST (some (.list []))) eW=none) (pM:((aI.put ST (some (.list []))).put eW (some (.list []))) ek=none)
 (kZ:(((aI.put ST (some (.list []))).put eW (some (.list []))).put ek (some (.set []))) fG=none):iO aI ((((aI.put ST (some (.list []))).put eW (some (.list []))).put ek (some (.set []))).put fG (some (.dict []))) as ns ⟨ST,eW,ek,fG⟩ [] [] []:=by
 have a1:eW≠ST:=by rintro rfl;rw[B.ai]at tQ;injection tQ
 rw[B.aa _ _ a1]at tQ;have a2:ek≠eW:=by rintro rfl;rw[B.ai]at pM;injection pM
 rw[B.aa _ _ a2]at pM;have iJ:ek≠ST:=by rintro rfl;rw[B.ai]at pM;injection pM
 rw[B.aa _ _ iJ]at pM;have iM:fG≠ek:=by rintro rfl;rw[B.ai]at kZ;injection kZ
 rw[B.aa _ _ iM]at kZ;have tY:fG≠eW:=by rintro rfl;rw[B.ai]at kZ;injection kZ
 rw[B.aa _ _ tY]at kZ;have xN:fG≠ST:=by rintro rfl;rw[B.ai]at kZ;injection kZ
 rw[B.aa _ _ xN]at kZ;refine⟨((((e8.refl aI).putN xC _).putN tQ _).putN pM _).putN kZ _,?_,?_,?_,?_,.nil,?_,?_,fun x hx=>(nomatch hx),yG,yG,fun x hx=>(nomatch hx)⟩
 ·show(((_:B).put eW _).put ek _ |>.put fG _) ST=_;rw[B.aa _ _ (bQ xN),B.aa _ _ (bQ iJ),B.aa _ _ (bQ a1),B.ai];rfl
 ·show(((_:B).put eW _).put ek _ |>.put fG _) eW=_;rw[B.aa _ _ (bQ tY),B.aa _ _ (bQ a2),B.ai];rfl
 ·show(((_:B).put eW _).put ek _ |>.put fG _) ek=_;rw[B.aa _ _ (bQ iM),B.ai]
 ·exact B.ai ..
 ·intro a ha;delta e9.foot at ha;simp only[uV,aY,d_,gO]at ha;rcases ha with rfl|rfl|rfl|rfl
  ·exact xC
  ·exact tQ
  ·exact pM
  ·exact kZ
 ·delta e9.foot;simp[a1,a2,iJ,iM,tY,xN,bQ a1,bQ a2,bQ iJ,bQ iM,bQ tY,bQ xN]
theorem A2:∀as ns,o6 (g4 as ns)
 |[],_=>fun J h=>nomatch h
 |_::_,[]=>fun J h=>nomatch h
 |a::as,n::ns=>fun x h=>by
  rw[ym]at h;refine bC h ?_ fun h=>?_
  ·exact⟨_,rfl⟩
  ·exact A2 as ns x h
section
variable {c:ah} {k:Nat} {aI:B}
inductive NK (S:Addr) (y:Lay) (st:St) (dD:Nat) (b:Option (List Str)) (q:e9) (aI:B) (aD:List D) (O:XV) (Y:B):Prop
 |mk (r:List Str) (seen:List Str) (od:Option D):(aD=r.map .str)→(iO aI Y y.as st.nodes q seen [] [])→(scan st.nodes dD r seen=some b)→((∀x∈r,x∈st.nodes.map (fun x=>x.name)))→(O=yY S y.N q od)→NK S y st dD b q aI aD O Y
inductive NS (S:Addr) (y:Lay) (st:St) (q:e9) (aI:B) (res:List Str⊕List Str) (f:Nat) (O:XV) (Y:B):Prop
 |mk (node:Str) (seen':List Str) (cV:gu) (fs:List (Addr×Addr)):(iO aI Y y.as st.nodes q seen' cV fs)→(mR st.nodes f node seen' cV=some res)→(node∈st.nodes.map (fun x=>x.name))→(O=yY S y.N q (some (.str node)))→NS S y st q aI res f O Y
inductive N8 (S:Addr) (y:Lay) (st:St) (q:e9) (aI:B) (res:List Str⊕List Str) (f:Nat) (mQ:List Str) (m:Nat) (O:XV) (Y:B):Prop
 |mk (node:Str) (cV:gu) (fs:List (Addr×Addr)):(m=cV.length)→(iO aI Y y.as st.nodes q mQ cV fs)→((match jR cV with|none=>some (.inr mQ)|some (z,st')=>mR st.nodes f z mQ st')=some res)→(O=yY S y.N q (some (.str node)))→N8 S y st q aI res f mQ m O Y
theorem abj {S:Addr} {y:Lay} {st:St} {o:Obj} {dD:Nat} {b:Option (List Str)} (t:aT c) (jP:c.fr≠none) (hS:aI S=some (.inst 137 y.h_ [])) (hd:aI y.h_=some (.attrs (gW y st)))
 (cO:aI y.N=some (.raw o)) (hf:o.IsDictOf (PySem.strKind c.p c.w) (iU (g4 y.as st.nodes))) (hnd:cY aI y.as st.nodes) (hz:st.nodes.length≤900)
 (ez:∀n∈st.nodes,∀x∈n.succ,x∈st.nodes.map (fun x=>x.name)) (hb:scan st.nodes dD (st.nodes.map (fun x=>x.name)) []=some b):
 wE c k (vars [("self",.loc)] [.val (.ref S)] [("n2i",.loc),("stack",.loc),("itstack",.loc),("seen",.loc),("node2stacki",.loc),("node",.loc)] [("set",.type "set"),("iter",.builtin "iter"),("len",.builtin "len"),("StopIteration",.type "StopIteration")]) aI (gJ (d7 6 8))
  (ux fun d I=>d=mZ b∧(∀l,b=some l→l≠[]∧l.length≤1000)∧e8 aI I):=by
 kst_p
 have hh:=t.hd;refine aO (HE hf) fun ep zz=>?_;have hkeys:(iU (g4 y.as st.nodes)).map Prod.fst=st.nodes.map (fun x=>x.name):=by rw[B4];exact hnd.keys
 refine wE.cons (FM.assign (d:=.val (.ref y.N)) (f8.ga (by kd_p) (b_.attr t hS hd rfl (jg ..) (kB ..) (C_ ..) rfl)) (by kd_in) ?_);refine wE.cons (FM.iG (aE.newList .nil (by decide) fun ST xC=>⟨_,by kd_in,?_⟩));refine wE.cons (FM.iG (aE.newList .nil (by decide) fun eW tQ=>⟨_,by kd_in,?_⟩));refine wE.cons (FM.iG (aE.call (by kd_p) sS .nil (c_.newSet fun ek pM=>⟨_,by kd_in,?_⟩)));refine wE.cons (FM.iG (aE.newDict fun fG kZ=>⟨_,by kd_in,?_⟩));have h0:=iO.start (as:=y.as) (ns:=st.nodes) xC tQ pM kZ;generalize(((aI.put ST (some (.list []))).put eW (some (.list []))).put ek (some (.set []))).put fG (some (.dict []))=gm at h0⊢;generalize Ch:(⟨ST,eW,ek,fG⟩:e9)=q at h0;obtain⟨rfl,rfl,rfl,rfl⟩:q.ST=ST∧q.eW=eW∧q.ek=ek∧q.fG=fG:=by subst Ch;exact rR rfl rfl rfl rfl
 refine wE.cons (FM.for hh (Qm zz).c7 (items:=(iU (g4 y.as st.nodes)).map fun x=>.str x.1) (bA.keys (by kd_p) (h0.keep.some cO) zz)
  (NK S y st dD b q aI)
  ⟨st.nodes.map (fun x=>x.name),[],none,by rw[←hkeys,cJ];rfl,h0,hb,fun J h=>h,rfl⟩ ?_ ?_ ?_)
 ·intro _ _ Y Go;obtain⟨r,seen,od,_,h,_⟩:=Go;exact h.keep.some cO
 ·intro d rest O Y Go;obtain⟨r,seen,od,bE,h,hs,hr,rfl⟩:=Go;rcases r with _|⟨x,r⟩
  ·injection bE
  refine Op (jd bE) fun s4 eg=>?_;subst s4 eg;refine bh.name (by kd_in) ?_;refine wE.cons (FM.ifs (b:=decide (x∈seen)) (az.cmp (by kd_p) (by kd_p) (Rs.inSet h.tW)) (fun hx=>wE.cons (FM.cont ?_)) (fun hx=>wE.nil ?_))
  ·refine⟨r,seen,_,rfl,h,?_,fun z hz=>hr z (.tail _ hz),rfl⟩;rw[zu]at hs;rw[ak (by simpa using hx)]at hs;exact hs
  have ic:x∉seen:=by simpa using hx
  rw[zu]at hs;rw[Tk ic]at hs;obtain⟨res,DP,J9⟩:∃res,mR st.nodes dD x seen []=some res∧(match res with| .inl l=>b=some l| .inr s'=>scan st.nodes dD r s'=some b):=by
   rcases e:mR st.nodes dD x seen []with _|res
   ·rw[e]at hs;injection hs
   ·rw[e]at hs;refine⟨res,rfl,?_⟩;rcases res with l|s'
    ·obtain rfl:=bf hs;rfl
    ·exact hs
  refine wE.cons (FM.while (NS S y st q aI res) dD ⟨x,seen,[],[],h,DP,hr x (.head _),rfl⟩ ?_);intro f NE I Go;obtain⟨node,seen',cV,fs,h,hd',M2,rfl⟩:=Go;refine fW true (az.plain f8.bool di.bool) (fun J=>?_) (fun h=>(by injection h));rcases f with _|f
  ·injection hd'
  have ja:seen'.length≤900:=Ev (tK h.zB h.yN) (by simpa using hz);have hst:cV.length≤900:=by
   have:=tK h.nodup h.sub;rw[b8]at this;exact Ev ‹_› ‹_›
  have hfl:fs.length≤900:=by refine U h.fr.len ?_;exact hst
  have gg:(ww (cV.map Prod.fst).reverse).length=cV.length:=by simp[ww]
  rw[vG]at hd';refine wE.cons (FM.mono (H6:=EW (fun NE I=>∃mQ yc IT,iO aI I y.as st.nodes q mQ yc IT∧(match jR yc with|none=>some (.inr mQ)|some (z,st')=>mR st.nodes f z mQ st')=some res∧NE=yY S y.N q (some (.str node))) (ux fun d I=>d=mZ b∧(∀l,b=some l→l≠[]∧l.length≤1000)∧e8 aI I)) (FM.ifs (b:=decide (node∈seen')) (az.cmp (by kd_p) (by kd_p) (Rs.inSet h.tW)) (fun hm=>?_) (fun hm=>?_)) ?_)
  ·have pZ:node∈seen':=by simpa using hm
   rw[ak pZ]at hd';refine wE.cons (FM.ifs (b:=decide (node∈cV.map Prod.fst)) ((az.cmp (by kd_p) (by kd_p) (Rs.inDict h.t6)).to (by rw[Cy,JA];simp)) (fun FF=>?_) (fun FF=>wE.nil ?_))
   ·have BR:node∈cV.map Prod.fst:=by simpa using FF
    rw[ak BR]at hd';obtain rfl:=bf hd';have hi:=ZP (uq.mpr BR);have hle:(cV.map Prod.fst).reverse.idxOf node≤(ww (cV.map Prod.fst).reverse).length:=by
     exact U (show(ww (cV.map Prod.fst).reverse).length=(cV.map Prod.fst).reverse.length by simp[ww]) Hy
    have cK:(lD (ww (cV.map Prod.fst).reverse) (some ((cV.map Prod.fst).reverse.idxOf node:Nat)) none none).length≤900:=by
     refine U (Ds hle) (U vF ?_);exact fS (Cz ..) (bT gg) hst
    refine wE.cons (FM.ret (d:=.list (lD (ww (cV.map Prod.fst).reverse) (some ((cV.map Prod.fst).reverse.idxOf node:Nat)) none none++[.str node])) (f8.bin (f8.slice (by kd_p) (aK.cell h.sC) (ff.some (f8.sub (by kd_p) (by kd_p) (Rs.tB h.t6 hi))) ff.none ff.none (by simp) (jX gg hst (by decide))) (f8.list (.cons (by kd_p) .nil) (by simp)) (Rs.BH aK.list aK.list (by simp only[bU,gU];exact Ev (gr cK) (by decide)))) ?_);have Ot:b=some (nK (cV.map Prod.fst).reverse node):=J9;refine⟨?_,fun l hl=>?_,h.keep⟩
    ·refine U Ot (U (Ds hle) ?_);show _=D.list (ww (nK _ _));delta nK ww;refine U gA (U CW ?_);rfl
    ·rw[Ot]at hl;obtain rfl:=bf hl;refine⟨by simp[nK],?_⟩;delta nK;refine U dR (U vF ?_);simp only[bU,gU,List.length_reverse,b8];exact Ev (gr (Ev (Cz ..) hst)) (by decide)
   ·have BR:node∉cV.map Prod.fst:=by simpa using FF
    rw[Tk BR]at hd';exact wE.nil ⟨seen',cV,fs,h,hd',rfl⟩
  ·have pZ:node∉seen':=by simpa using hm
   rw[Tk pZ]at hd';refine aO (Fp.mpr M2) fun nd OI=>?_;refine d9 (hnd.find OI) fun a i1 cM fh J=>?_;have hdg:=wU y.as st.nodes node;rw[i1]at hdg;have Hi:iT st.nodes node=nd.succ:=by delta iT;exact U OI rfl
   rw[Hi]at hd';refine wE.cons (FM.expr (aE.m6 (by kd_p) (kc.set h.tW) F.plainAttrs_set F.slot_set_add F.type_set_add (.cons (by kd_p) .nil (by kd_p)) (c_.adO h.tW (by kd_p) ?_)));refine uv (h.four) fun n1 b6 dP oV u0 wG qO=>?_;have k1:e8 aI (I.put q.ek (some (.set (seen'++[node])))):=h.keep.putN (h.new _ (by simp[e9.foot])) _;have Mu:jK (I.put q.ek (some (.set (seen'++[node])))) a nd:=fh.keep k1;refine wE.cons (FM.expr (aE.afh (by kd_p) (kc.seq (.cell ((B.aa _ _ oV).trans h.wz))) AO F.slot_list_append F.type_list_append (mw.one (aE.Ug (aE.call (by kd_p) r_ (.cons (f8.ga (f8.sub (by kd_p) (by kd_p) (Rs.Xk (A2 _ _) (k1.some cO) hf hdg)) (b_.succ t Mu)) .nil (by kd_p)) (c_.iter Mu.2.2 fun it hit=>⟨it,a.l,0,rfl,B.ai ..,fun m hm=>?_⟩))))));have pu:=h.push pZ M2 i1 hit hm;have R3:it≠q.ek:=by rintro rfl;rw[B.ai]at hit;injection hit
   have VH:I it=none:=by rw[B.aa _ _ R3]at hit;exact hit
   have R1:m≠it:=by rintro rfl;rw[B.ai]at hm;injection hm
   have hm₂:=hm;rw[B.aa _ _ R1]at hm₂;have Zs:m≠q.ek:=by rintro rfl;rw[B.ai]at hm₂;injection hm₂
   have TF:I m=none:=by rw[B.aa _ _ Zs]at hm₂;exact hm₂
   have Eo:∀{b},I b≠none→b≠it∧b≠m:=fun{b} hb=>⟨by rintro rfl;exact hb VH,by rintro rfl;exact hb TF⟩;refine Op (Eo (b:=q.eW) (by refine U h.wz ?_;simp)) fun bR bM=>?_;refine Op (Eo (b:=q.ST) (by refine U h.sC ?_;simp)) fun d8 cT=>?_;refine Op (Eo (b:=q.fG) (by refine U h.t6 ?_;simp)) fun dB jj=>?_;refine c_.append (l:=fs.reverse.map fun p=>.val (.ref p.1)) (by refine U (B.aa _ _ bM) (U (B.aa _ _ bR) (U (B.aa _ _ oV) ?_));exact h.wz) (by simp;exact Ev hfl (by decide)) ?_;dsimp only;refine wE.cons (FM.zm (.nH (d:=.int ((ww (cV.map Prod.fst).reverse).length:Nat)) (f8.len (by kd_p) (by kd_p) (aK.cell (l:=ww (cV.map Prod.fst).reverse) (by refine U (B.aa _ _ n1) (U (B.aa _ _ cT) (U (B.aa _ _ d8) (U (B.aa _ _ b6) ?_)));exact h.sC)) (jX gg hst (by decide))) ⟨by kd_p,by kd_p,j3 (cV.map Prod.fst).reverse,?_,by rw[RS];simp;exact Ev ‹_› (by decide),?_⟩))
   ·refine U (B.aa _ _ (bQ u0)) (U (B.aa _ _ jj) (U (B.aa _ _ dB) (U (B.aa _ _ (bQ wG)) ?_)));exact h.t6
   refine U (Ci (by rw[JA];intro z;exact pZ (h.sub _ (uq.mp z)))) (U (show(ww (cV.map Prod.fst).reverse).length=(cV.map Prod.fst).reverse.length by simp[ww]) ?_);refine wE.cons (FM.expr (aE.append (l:=ww (cV.map Prod.fst).reverse) (by kd_p) (by kd_p) (by refine U (B.aa _ _ dP) (U (B.aa _ _ n1) (U (B.aa _ _ cT) (U (B.aa _ _ d8) (U (B.aa _ _ b6) ?_))));exact h.sC) (jX gg hst (by decide)) ?_));exact wE.nil ⟨_,_,_,pu,hd',rfl⟩
  ·rintro o xz
   induction o with
   |brk _ _=>exact xz.elim
   |cont _ _=>exact xz.elim
   |ret d _ I=>
    exact xz
   |next NE I=>
   refine dS xz fun mQ yc IT h hd' s4=>?_;subst s4;refine wE.cons (FM.while (N8 S y st q aI res f mQ) yc.length ⟨node,yc,IT,rfl,h,hd',rfl⟩ ?_);intro m NE I Go;obtain⟨node,cV,fs,rfl,h,hd',rfl⟩:=Go;have ja:mQ.length≤900:=Ev (tK h.zB h.yN) (by simpa using hz);have hst:cV.length≤900:=by
    have:=tK h.nodup h.sub;rw[b8]at this;exact Ev ‹_› ‹_›
   have hfl:fs.length≤900:=by refine U h.fr.len ?_;exact hst
   have gg:(ww (cV.map Prod.fst).reverse).length=cV.length:=by simp[ww]
   refine fW _ (az.plain (by kd_p) (di.seq (aK.cell h.sC) (jX gg hst (by decide)))) (fun a_=>?_) (fun he=>?_)
   ·have Xa:=h.fr
    induction Xa with
    |nil=>simp[ww]at a_
    | @cons m it a nd n i fs cV h1 h2 h3 h4=>
    have hat:=(hnd.at h3).keep h.keep;have y9:I q.eW=some (.list ((fs.reverse.map fun p=>D.val (.ref p.1))++[.val (.ref m)])):=by refine U h.wz ?_;simp
    have jm:((fs.reverse.map fun p=>D.val (.ref p.1))++[.val (.ref m)])[(-(1:Int)+(((fs.reverse.map fun p=>D.val (.ref p.1))++[D.val (.ref m)]).length:Nat)).toNat]?=some (.val (.ref m)):=by
     have:(-(1:Int)+(((fs.reverse.map fun p=>D.val (.ref p.1))++[D.val (.ref m)]).length:Nat)).toNat=(fs.reverse.map fun p=>D.val (.ref p.1)).length:=by
      refine U dR ?_;simp only[bU,gU];exact Ic
     refine U this ?_;simp
    have K2:((fs.reverse.map fun p=>D.val (.ref p.1))++[D.val (.ref m)]).length≤1000000:=by
     simp only[bU]at hfl;simp;exact Ev (gZ hfl) (by decide)
    rcases bE:nd.succ.drop i with _|⟨z,zs⟩
    ·rw[bE]at h hd';have xC:I q.ST=some (.list (ww (cV.map Prod.fst).reverse++[.str n])):=by rw[h.sC,aJ,DX,uH]
     have kZ:I q.fG=some (.dict (j3 (cV.map Prod.fst).reverse++[(n,.int ((cV.map Prod.fst).reverse.length:Nat))])):=by rw[h.t6,aJ,DX,K3]
     have yT:n∉(j3 (cV.map Prod.fst).reverse).map Prod.fst:=by
      have:=h.nodup;rw[aJ,dg]at this;rw[JA,uq];exact this.1
     refine uv (h.four) fun n1 b6 dP oV u0 wG qO=>?_;refine lN (qO it (by simp)) fun b1 fj lV wI=>?_;simp only[bU]at hst hfl;refine wE.cons (FM.OB (cls:=.type "StopIteration") (tv:=.type "StopIteration") (aV:=fun NE gK=>NE=yY S y.N q (some (.str node))∧∃o,gK=I.put it (some (.raw o))) jP (jZ.here (l8.assign (r5.step hh (f8.sub (by kd_p) (f8.neg (i:=1) (by kd_p)) (Rs.ve (aK.cell y9) (by decide) (by simp;exact HV (kr _)) jm K2)) h1 h2 hat.2.2 (by
      have:nd.succ.length≤i:=by simpa using bE
      simp[ww];exact this) fun o=>⟨rfl,o,rfl⟩))) (fun J=>UZ) ?_)
     intro _ _ Go;obtain⟨rfl,o,rfl⟩:=Go;refine⟨by kd_p,?_⟩;refine wE.cons (FM.del (x:=n) (by kd_p) (aE.pop (l:=ww (cV.map Prod.fst).reverse) (by kd_p) ((B.aa _ _ (bQ b1)).trans xC) (by simp[ww];exact Ev (gZ hst) (by decide)) ⟨rfl,j3 (cV.map Prod.fst).reverse++[(n,.int ((cV.map Prod.fst).reverse.length:Nat))],?_,?_,?_,?_⟩))
     ·refine U (B.aa _ _ (bQ dP)) (U (B.aa _ _ (bQ wI)) ?_);exact kZ
     ·refine U Cy ?_;simp
     ·rw[dR,RS];simp;exact Ev (gZ hst) (by decide)
     refine U (XN yT) ?_;refine wE.cons (FM.expr (aE.pop (l:=fs.reverse.map fun p=>D.val (.ref p.1)) (d:=.val (.ref m)) (by kd_p) ?_ (by simp;exact Ev (gZ hfl) (by decide)) ?_))
     ·refine U (B.aa _ _ u0) (U (B.aa _ _ (bQ n1)) (U (B.aa _ _ (bQ fj)) ?_));exact y9
     exact wE.nil (wE.nil ⟨cV.length,by simp,node,cV,fs,rfl,h.pop h4,hd',rfl⟩)
    ·rw[bE]at hd';have Nq:nd.succ[i]?=some z:=by rw[←Cg,bE];rfl
     have zI:nd.succ.drop (i+1)=zs:=by refine ZB Dw (U bE ?_);rfl
     have qH:z∈st.nodes.map (fun x=>x.name):=ez nd (yl (uY h3).1) z (s_ Nq);refine wE.cons (FM.D8 (wE.cons (FM.iG (aE.step (d:=.str z) (f8.sub (by kd_p) (f8.neg (i:=1) (by kd_p)) (Rs.ve (aK.cell y9) (by decide) (by simp;exact HV (kr _)) jm K2)) h1 h2 hat.2.2 (by simp[ww,Nq]) ⟨_,by kd_in,?_⟩))));refine wE.cons (FM.brk ?_);refine wE.nil ⟨f,jy f,z,mQ,_,_,h.step h1 h3 h4,?_,qH,rfl⟩;exact U zI hd'
   ·have:cV=[]:=by
     rcases cV with _|⟨a,b⟩
     ·rfl
     ·simp[ww]at he
    subst this;cases h.fr;obtain rfl:=bf hd';refine wE.cons (FM.brk ?_);exact wE.nil ⟨r,mQ,_,rfl,h,J9,fun z hz=>hr z (.tail _ hz),rfl⟩
 ·intro O Y Go;obtain⟨r,seen,od,bE,h,hs,hr,rfl⟩:=Go;rcases r with _|⟨x,r⟩
  rotate_left
  ·injection bE
  obtain rfl:=bf hs;exact wE.nil (wE.cons (FM.ret (d:=.val .none) (by kd_p) ⟨rfl,fun l hl=>(by injection hl),h.keep⟩))
end
end
section
open PySem.W
section
variable {c:ah} {k:Nat} {O:XV} {Y:B}
theorem f8.XJ (h:f8 c k O Y e d):f8 c k O Y (.JoinedStr [e] pos) d:=fun A V s Z ok r Q E q=>JoinedStr_one (h A V s Z ok r Q E q)
theorem cY.put (h:cY Y as ns) (ha:Y a=some cl) (M2:(∀C d l,cl≠ .inst C d l)∧(∀l,cl≠ .attrs l)∧∀l,cl≠ .list l):cY (Y.put a (some eu)) as ns:=by
 refine h.congr fun b hb=>?_;refine d9 (h.mem b hb) fun n J h1 h2 h3=>?_;refine⟨B.aa _ _ ?_,B.aa _ _ ?_,B.aa _ _ ?_⟩
 ·rintro rfl;rw[ha]at h1;obtain rfl:=bf h1;exact M2.1 _ _ _ rfl
 ·rintro rfl;rw[ha]at h2;obtain rfl:=bf h2;exact M2.2.1 _ rfl
 ·rintro rfl;rw[ha]at h3;obtain rfl:=bf h3;exact M2.2.2 _ rfl
theorem FA {S:Addr} {y:Lay} {st:St} {dD:Nat} {b:Option (List Str)} (t:aT c) (h:bH Y S y st) (hz:st.nodes.length≤900) (ez:∀n∈st.nodes,∀x∈n.succ,x∈st.nodes.map (fun x=>x.name)) (hb:scan st.nodes dD (st.nodes.map (fun x=>x.name)) []=some b):
 cu c (k+1) (.ref 127) [.val (.ref S)] Y (fun d I=>d=mZ b∧(∀l,b=some l→l≠[]∧l.length≤1000)∧e8 Y I):=by
 refine eL.pm (eL.fix (N:=y.N) h.fu (A2 _ _) fun o hf=>?_);refine eL.fn (st:=d7 6 8) (qual:="TopologicalSorter._find_cycle") (dV:=.none) (ps:=[("self",.loc)]) (ls:=[("n2i",.loc),("stack",.loc),("itstack",.loc),("seen",.loc),("node2stacki",.loc),("node",.loc)]) (gs:=[("set",.type "set"),("iter",.builtin "iter"),("len",.builtin "len"),("StopIteration",.type "StopIteration")]) (t.fn rfl rfl rfl rfl) (by kd_p)
  (bB (t.dh (by kd_p) (by kd_p) (by decide)) (bB (t.dh (by kd_p) (by kd_p) (by decide)) (bB (t.dh (by kd_p) (by kd_p) (by decide)) (bB (t.dh (by kd_p) (by kd_p) (by decide)) cG)))) rfl (fun J J=>.plain rfl (iZ fun J=>rfl)) fun bN=>?_
 have l0:∀{a:Addr} {cl:g7},Y a=some cl→(∀l,cl≠ .dict l)→(Y.put y.N (some (.raw o))) a=some cl:=fun{a cl} e M2=>by
  exact U (B.aa _ _ (by rintro rfl;rw[h.fu]at e;obtain rfl:=bf e;exact M2 _ rfl)) e
 intro A V s bs Z ok w Q E q;refine abj (t.at (L:=bN)) (by simp) (l0 h.inst (by simp)) (l0 h.attrs (by simp)) (B.ai ..) hf (h.dK.put h.fu (by simp)) hz ez hb A V s bs Z ok w Q E fun fZ f s' Z' r cP dz hp=>q fZ f s' Z' r cP dz ?_
 induction fZ with
 |next _ _=>exact hp.elim
 |brk _ _=>exact hp
 |cont _ _=>exact hp
 |ret d _ I=>
  refine b4 hp fun h1 h0 h2=>?_;refine rR (h2.some (B.ai ..)) h1 h0 (fun a ha=>?_);by_cases e:a=y.N
  ·subst e;rw[B.ai,h.fu]
  ·refine U (B.aa _ _ e) ?_;have:=h2 a (by refine U (B.aa _ _ e) ?_;exact ha);exact U this (U (B.aa _ _ e) rfl)
noncomputable def lg (ns:List bP):List Str:=(ns.filter fun n=>n.np==0).map (fun x=>x.name)
theorem Qu:∀as ns,(iU (g4 as ns)).map (fun x=>D.val x.2)=(as.zip ns).map fun p=>.val (.ref p.1.i)
 |[],_=>rfl
 |_::_,[]=>rfl
 |a::as,n::ns=>cN (D.val (.ref a.i)::·) (Qu as ns)
theorem LN:∀(as:List eE) (ns:List bP),as.length=ns.length→((as.zip ns).filter fun p=>p.2.np==0).map (fun p=>D.str p.2.name)=ww (lg ns)
 |[],[],_=>rfl
 |a::as,n::ns,h=>by
  have ih:=LN as ns (by simpa using h);unfold lg ww at ih⊢;refine U oY (U iV (U iV ?_));by_cases q:(n.np==0)=true
  ·simp only[q,lH,aJ,ih]
  ·simp only[q,jE,ih,j7]
theorem bH.O5 {S:Addr} {y:Lay} {st:St} {R:Addr} (h:bH Y S y st) (hr:y.rs=[]) (bD:Y R=none) (r):
 bH ((Y.put R (some (.list (ww r)))).put y.h_ (some (.attrs (gW {y with rs:=[R]} {st with ready:=some r})))) S {y with rs:=[R]} {st with ready:=some r}:=by
 have ne:∀{b:Addr} {cl:g7},Y b=some cl→b≠R:=fun{b cl} e q=>by rw[q,bD]at e;cases e
 have nd:∀{b:Addr} {cl:g7},Y b=some cl→(∀l,cl≠ .attrs l)→b≠y.h_:=fun{b cl} e M2 q=>by rw[q,h.attrs]at e;cases e;exact M2 _ rfl
 have key:∀{b:Addr} {cl:g7},Y b=some cl→(∀l,cl≠ .attrs l)→((Y.put R (some (.list (ww r)))).put y.h_ (some (.attrs (gW {y with rs:=[R]} {st with ready:=some r})))) b=some cl:=fun{b cl} e M2=>by
  refine U (B.aa _ _ (nd e M2)) (U (B.aa _ _ (ne e)) ?_);exact e
 refine⟨key h.inst (by simp),B.ai ..,key h.fu (by simp),h.dK.congr fun a ha=>?_,⟨R,rfl,?_⟩,h.qn,?_⟩
 ·refine d9 (h.dK.mem a ha) fun n J n1 b6 dP=>?_;refine⟨(key n1 (by simp)).trans n1.symm,?_,(key dP (by simp)).trans dP.symm⟩;have:a.d≠y.h_:=by intro q;rw[q,h.attrs]at b6;cases b6
  exact U (B.aa _ _ this) (U (B.aa _ _ (ne b6)) rfl)
 ·rw[B.aa _ _ (bQ (ne h.attrs)),B.ai]
 ·have:=h.pA;rw[hr,fQ]at this;rw[jY];refine⟨this,by simp,fun a ha b hb=>?_⟩;refine wS (ao.mp ha) fun z hz s4=>?_;subst s4;refine d9 (h.dK.mem z hz) fun n J J J dP=>?_;exact U (fq.mp hb) (ne dP)
theorem bI.keep (h:e8 Y I):bI F Y F I:=⟨fun a J ha=>h a ha,fun J h=>.inl h⟩
theorem cY.zip (h:cY Y as ns):∀p∈as.zip ns,jK Y p.1 p.2:=by
 induction h with
 |nil=>intro p hp;cases hp
 |cons h1 _ ih=>
  intro p hp;rw[oY]at hp;refine bC hp ?_ fun hp=>?_
  ·exact h1
  ·exact ih p hp
theorem QX {S:Addr} {y:Lay} {st:St} {Sc:D→B→Prop} {uJ nL UH QK J4 Zh abC aaW Xh aer ad9 pos:Pos} {tk:Tok} {sc:Scope} (t:aT c) (h:bH Y S y st) (hS:⟨"self",.loc,some (.val (.ref S))⟩∈O) (hz:st.nodes.length≤900)
 (hok:nE sc [("i",.loc)] [] []=true) (Ch:∀R,Y R=none→Sc (.val (.ref R)) (Y.put R (some (.list (ww (lg st.nodes))))))
 (hl:(QK.endLine==J4.line)=true):
 aE c k O Y (.ListComp (.Attribute (.Name "i" uJ) "node" nL) [⟨.Name "i" UH,.Call (.Attribute (.Attribute (.Name "self" Zh) "_node2info" abC) "values" QK) [] [] J4,[.Compare (.Attribute (.Name "i" aaW) "npredecessors" Xh) [.Eq] [.Constant (.int 0) tk aer] ad9],0⟩] sc pos) Sc:=by
 refine aE.fix h.fu (A2 _ _) fun o hf=>?_;obtain⟨ep,zz⟩:=HE hf;have l0:∀{a:Addr} {cl:g7},Y a=some cl→(∀l,cl≠ .dict l)→(Y.put y.N (some (.raw o))) a=some cl:=fun{a cl} e M2=>by
  exact U (B.aa _ _ (by rintro rfl;rw[h.fu]at e;obtain rfl:=bf e;exact M2 _ rfl)) e
 have dK:=h.dK.put (eu:=.raw o) h.fu (by simp);refine aE.mono (aE.l_ t.hd (UA zz).c7 (ts:=[("i",.loc)]) (caps:=[]) (gs:=[]) (items:=(iU (g4 y.as st.nodes)).map fun x=>.val x.2) (out:=ww (lg st.nodes)) (Sc:=fun d I=>I y.N=some (.raw o)∧Sc d (I.put y.N (some (.dict (g4 y.as st.nodes))))) (by intros;rfl) hok (by simp) cG
  (bA.values (f8.ga (f8.name hS (hd:=by kd_p)) (b_.attr t (l0 h.inst (by simp)) (l0 h.attrs (by simp)) rfl (jg ..) (kB ..) (C_ ..) rfl)) (B.ai ..) zz (by kd_p) hl) (B.ai ..) ?_ (fun R bD=>?_)) (fun d I h=>h)
 ·rw[Qu,←LN y.as st.nodes h.dK.len];refine dO.one (xs:=y.as.zip st.nodes) (P:=fun p=>p.2.np==0) (F:=fun p=>.str p.2.name) (fun p=>.val (.ref p.1.i)) (by refine U List.length_zip (U h.dK.len ?_);exact Ev (Nat.min_le_left ..) (Ev ‹_› (by decide))) fun p hp=>?_;have at_:jK (Y.put y.N (some (.raw o))) p.1 p.2:=dK.zip p hp
  exact⟨eK.one (az.cmp (f8.ga (by kd_p) (b_.np t at_)) (by kd_p) Rs.P1),fun J=>f8.ga (by kd_p) (b_.node t at_)⟩
 ·have Hp:R≠y.N:=by rintro rfl;rw[B.ai]at bD;injection bD
  rw[B.aa _ _ Hp]at bD;refine⟨by rw[B.aa _ _ (bQ Hp),B.ai],?_⟩;have e:((Y.put y.N (some (.raw o))).put R (some (.list (ww (lg st.nodes))))).put y.N (some (.dict (g4 y.as st.nodes)))=Y.put R (some (.list (ww (lg st.nodes)))):=by
   funext b;by_cases q:b=y.N
   ·subst q;rw[B.ai,B.aa _ _ (bQ Hp),h.fu]
   ·by_cases q':b=R
    ·subst q';rw[B.aa _ _ q,B.ai,B.ai]
    ·exact U (B.aa _ _ q) (U (B.aa _ _ q') (U (B.aa _ _ q) (U (B.aa _ _ q') rfl)))
  exact U e (Ch R bD)
end
end
section
open PySem.W
section
variable {c:ah} {k:Nat} {O:XV} {Y:B}
theorem r5.nO (t:aT c) (xz:f8 c k O Y o (.val (.ref a))) (ha:Y a=some (.inst C dx l)) (hd:Y dx=some (.attrs al)) (s5:cI al name=Option.none)
 (hg:plainGet (cX c) C name=true) (hf:findIn (cX c) (.ref C) name=some (some (.ref f))) (FS:typeIn (cX c) (.ref f)=some (.type "function")) (HO:Callee c (.ref f)) (yP:ie c k O Y args ds) (hc:FW c k (.ref f) (.val (.ref a)::ds) Y cls aV)
 (he:∀V,∃pl,eval (.Call (.Attribute o name c5) args [] pos) V=(do
  let iC←eval o V
  standAt c5.atName
  let(f,first)←holding [iC] (getMethod iC name pl)
  callWith pos f first (backTo pos (starEach args V)) (backToKw pos (keywordEach [] V))):=by intro;exact⟨_,rfl⟩)
 (hs:∀V,(starEach args V).all (fun y=>!y.1)=true:=by kd_p):r5 c k O Y (.Call (.Attribute o name c5) args [] pos) cls aV:=by
 intro A V s Z ok r Q E q;obtain⟨pl,he⟩:=he V;refine methodCall_KW (pl:=pl) (xz A V s Z ok r _ E fun v s₁ aC EQ gT=>?_) he;refine gT.v ?_;have r₁:=r.step EQ;refine uS (tM r₁ ha hd) fun aP kvs n im=>?_;refine method_fn (t.oN r₁.top) im.at_ (qV hg).1 (qV hg).2 hf FS (by show(lookIn name _).map _=_;rw[Ae,(AI im.keys im.vals name).1 s5];rfl) ?_;dsimp only;show wpAny c.M A (callWith pos (.ref f) [.ref a] (backTo pos (starEach args V)) []) Q E s₁;refine lR HO (nu yP (ok.step EQ) r₁ hs fun H s₂ bx t₂ aZ=>⟨t₂.top,?_⟩);have st:=EQ.trans t₂;have r₂:=r₁.step t₂;exact hc A s₂ bx (.ref a::H) (ok.step st) r₂.top r₂.sub (.cons (.val _) aZ) r₂.cells Q E fun x ts I s' Z' aq ex hp=>q x ts I s' Z' ((st.after r).trans aq) ex hp
theorem l8.ret (he:r5 c k O Y e cls (aV O)):l8 c k O Y (.Return (some e) pos) cls aV:=by
 intro A V s bs Z ok w Q E q;exact E7 (he A V s Z ok w.rd _ E fun x ts I s' Z' t ex hp=>q x ts O I s' Z' t.run (w.after t) ex hp)
noncomputable abbrev lO (st:St):St:={st with ready:=some (lg st.nodes)}
noncomputable abbrev gi (y:Lay) (R:Addr):Lay:={y with rs:=[R]}
theorem afJ {S:Addr} {y:Lay} {st:St} {dD:Nat} (t:aT c) (h:bH Y S y st) (hr:st.ready=none) (hz:st.nodes.length≤900) (ez:∀n∈st.nodes,∀x∈n.succ,x∈st.nodes.map (fun x=>x.name)) (hb:scan st.nodes dD (st.nodes.map (fun x=>x.name)) []=some none):
 cu c (k+2) (.ref 92) [.val (.ref S)] Y (fun d I=>d= .val .none∧∃R,bH I S (gi y R) (lO st)∧bI (y.foot S) Y ((gi y R).foot S) I):=by
 have hrs:y.rs=[]:=by have:=h.gI;rw[hr]at this;exact this
 refine cu.fn (st:=d7 6 3) (qual:="TopologicalSorter.prepare") (dV:=.none) (ps:=[("self",.loc)]) (ls:=[("cycle",.loc)]) (gs:=[("ValueError",.type "ValueError"),("CycleError",.ref 55)]) (t.fn rfl rfl rfl rfl) (by kd_p) (bB (t.dh (by kd_p) (by kd_p) (by decide)) (bB (t.glob (by kd_p)) cG)) rfl (fun J J=>.plain rfl (iZ fun J=>rfl)) ?_;intro bN;replace t:=t.at (L:=bN);generalize c.at bN=c at t⊢
 kst_p
 refine wE.cons (FM.ifs (b:=false) ((az.cmp (f8.ga (by kd_p) (b_.gI t h)) (by kd_p) Rs.isNotNone).to (by refine U hrs ?_;rfl)) (fun h=>(by injection h)) fun J=>wE.nil ?_);refine wE.cons (FM.nX (QX t h (by walk_at "v") hz (by kd_p) (fun R bD=>⟨by kd_p,_,gH.attr (C:=137) (dx:=y.h_) (l:=[]) (al:=gW y st) t ((B.aa _ _ (by rintro rfl;rw[h.inst]at bD;injection bD)).trans h.inst) ((B.aa _ _ (by rintro rfl;rw[h.attrs]at bD;injection bD)).trans h.attrs) (sG ..) (rK ..) (q6 (CO ..)) (kB ..) (by simp[gW]),?_⟩) (by rfl)));have h2:=h.O5 hrs bD (lg st.nodes);have kj:bI (y.foot S) Y ((gi y R).foot S) ((Y.put R (some (.list (ww (lg st.nodes))))).put y.h_ (some (.attrs (gW (gi y R) (lO st))))):=by
  refine(bI.fresh (F:=y.foot S) (F':=(gi y R).foot S) bD (fun b hb=>?_) _).trans (bI.put ((gi y R).zY S) _);unfold Lay.foot at hb⊢;simp only[hrs,oM,aY,m9]at hb⊢;rcases hb with h|h|h|h|h
  ·exact .inl (.inl h)
  ·exact .inl (.inr (.inl h))
  ·exact .inl (.inr (.inr (.inl h)))
  ·exact .inr h
  ·exact .inl (.inr (.inr (.inr h)))
 have iW:iD (gW y st) "_ready_nodes" (.val (.ref R))=gW (gi y R) (lO st):=rfl;refine U iW ?_;generalize(Y.put R (some (.list (ww (lg st.nodes))))).put y.h_ (some (.attrs (gW (gi y R) (lO st))))=jW at h2 kj⊢;refine wE.cons (FM.iG (aE.nO t (by kd_p) h2.inst h2.attrs (by rfl) (jg ..) (IS ..) (Gi ..) (fM (st:=d7 6 8) (t.fn rfl rfl rfl rfl)) .nil (c_.mono (cu.r ((FA (k:=k) t h2 hz ez hb).less (aH _))) ?_)));intro d kg Go;obtain⟨rfl,_,dI⟩:=Go;refine⟨_,by kd_in,?_⟩;dsimp only[mZ];refine wE.cons (FM.ifs (b:=false) (az.plain (d:=.val .none) (by kd_p) di.none) (fun h=>(by injection h)) fun J=>wE.nil ?_);exact wE.nil ⟨rfl,R,h2.keep dI,kj.trans (bI.keep dI)⟩
end
end
theorem aaV (eU:Cf c f fd body)
 (mC:Binds c fd ps ds₀ ds) (dH:ds.length=ps.length)
 (kinds:∀x∈ps++ls,(x.2= .loc∧fd.scope.names.lookup x.1=some .local)∨(x.2= .aL∧fd.scope.names.lookup x.1=some .cell))
 (gl:∀x∈gs,fd.scope.names.lookup x.1=some .globalImplicit∧gv c.H0 x.1 x.2)
 (nd:((ps++ls).map Prod.fst++gs.map Prod.fst).Nodup)
 (zU:Ok c (k+1) A s₀) (kC:c.H0.StaysIn s₀.heap) (rG:Sub jA s₀.heap) (GX:au jA C7 ds₀) (G6:gj c jA s₀.heap Y)
 (bL:∀L V s' bs Z,V.frame=some L→Ok (c.at L) k (A.deeper V) s'→bu (c.at L) bs Z s'.heap V (vars ps ds ls gs) Y→(∀NE I s'' eH,Run Y s' Z I s'' eH→bu (c.at L) bs eH s''.heap V NE I→aN c Y s₀ jA I s'' eH)→
  wpAny c.M (A.deeper V) (execs body V) (fun f s'=>R (.ok (.ret (match f with| .ret v=>v|_=>.none))) s') (fun e s'=>wpAny c.M (A.deeper V) (leaving V e) (fun J s''=>R (.error e) s'') (fun e' s''=>R (.error e') s'') s') s'):codeAny c.M A (.call (.ref f) ⟨C7,[]⟩) R s₀:=by
 refine wS (eU.obj) fun o xz hd=>?_;refine codeAny_call_function (fP (fU (bV ..) zU.depth) (by decide)) (kC _ _ xz) hd eU.co eU.gen eU.body (eU.code.keeps kC) ?_;refine U eU.closure (U eU.globals (U eU.builtins ?_));refine mC _ s₀ jA C7 kC rG GX _ _ fun H s Z EQ aZ=>?_;have ok:=zU.step EQ;have top:=EQ.top;have sub:=EQ.sub;have nQ:=EQ.p9 G6;have mo:gj c Z s.heap Y:=nQ.cells;have cK:H.length=ps.length:=aZ.length.trans dH;have Ac:((ps.map Prod.fst).zip H).map Prod.fst=ps.map Prod.fst:=by
  rw[List.map_fst_zip];rw[b8];exact bT (sX ‹_›)
 have bn:(((ps.map Prod.fst).zip H).map Prod.fst).Nodup:=by
  refine U Ac ?_;rw[gA,jU]at nd;exact(jY.mp nd).1
 have qM:∀{L:Nat} {n:Str},fd.scope.names.lookup n=some .cell→∃a,(cellsFrom L fd.scope.names []).lookup n=some a:=fun h=>by
  obtain⟨a,ha⟩:=HQ (wP:=[]) (.inr (mem_of_lookup h));exact HJ ha
 have kd:∀x∈(ps.map Prod.fst).zip H,fd.scope.names.lookup x.1=some .local∨(fd.scope.names.lookup x.1=some .cell∧((cellsFrom (s.heap.objs.size+1) fd.scope.names []).lookup x.1).isSome=true):=fun x hx=>by
  have:x.1∈ps.map Prod.fst:=by refine ZB Ac ?_;exact cz hx
  refine wS (ao.mp this) fun p hp e=>?_;rcases kinds p (iK _ hp)with⟨_,h⟩|⟨_,h⟩
  ·exact .inl (e▸h)
  ·refine .inr ⟨e▸h,?_⟩;refine aO (qM (L:=s.heap.objs.size+1) (e▸h)) fun a ha=>?_;refine U ha ?_;rfl
 refine g9 (Na eU.kind kd fun V he s' yk hup=>?_);subst he;have x:=yk.to;have htk:=hup.toks;refine⟨(eU.lim.keeps top).keeps x.toInCall.keep,codeAny_func ?_⟩;have IQ:s.heap.get? s.heap.objs.size=none:=sZ (aH _);have zb:∀{a:Addr},s.heap.objs.size≤a→Z a=none:=gC sub;have tE:∀{a:Addr},s.heap.objs.size≤a→c.H0.get? a=none:=mG top;have mN:∀{a:Addr},s.heap.objs.size≤a→Y a=none:=fun{a} h=>by
  rcases q:Y a with _|cl
  ·rfl
  ·refine Op (mo a cl q) fun abG _=>?_;obtain⟨o',e',_⟩:=abG;exact absurd (cE e') (eB.mpr h)
 have EY:∀{a:Addr} {o':Obj},(if(Y a).isSome then none else s.heap.get? a)=some o'→Y a=none∧s.heap.get? a=some o':=fun{a o'} e=>by
  rcases q:Y a with _|cl
  ·rw[q]at e;exact⟨rfl,e⟩
  ·rw[q]at e;cases e
 have qp:s.heap.objs.size<s'.heap.objs.size:=x.toInCall.ns.lt;have GG:c.H0.StaysIn s'.heap:=fun b o' e=>x.toInCall.keep b o' (top b o' e);have Ao:Sub Z s'.heap:=fun b o' e=>⟨x.toInCall.keep b o' (sub.get e),(sub b o' e).2⟩;have w:bu (c.at s.heap.objs.size) (fun a=>if(Y a).isSome then none else s.heap.get? a) Z s'.heap (newEnv fd.scope s.heap.objs.size mainGlobals (cellsFrom (s.heap.objs.size+1) fd.scope.names []) (fd.qualname++".<locals>.") (some f) fd.code none builtinsNs) (vars ps ds ls gs) Y:=by
  have qY:∀v∈vars ps ds ls gs,(v.kind= .loc∧fd.scope.names.lookup v.name=some .local)∨(v.kind= .aL∧fd.scope.names.lookup v.name=some .cell)∨(v.kind= .bw∧fd.scope.names.lookup v.name=some .globalImplicit):=fun v s5=>by
   rcases b5.mp s5 with s5|s5
   ·refine wS (ao.mp s5) fun q Ch s4=>?_;subst s4;have:=BI (a:=q.1) (b:=q.2) Ch;rcases kinds q.1 (iK _ this.1)with h|h
    ·exact .inl h
    ·exact .inr (.inl h)
   ·rcases b5.mp s5 with s5|s5
    ·refine wS (ao.mp s5) fun q Ch s4=>?_;subst s4;rcases kinds q (mz _ Ch)with h|h
     ·exact .inl h
     ·exact .inr (.inl h)
    ·refine wS (ao.mp s5) fun q Ch s4=>?_;subst s4;exact .inr (.inr ⟨rfl,(gl q Ch).1⟩)
  refine⟨⟨eU.kind,GG,Ao,fun v s5 ck hd'=>?_,fun a cl e=>?_,⟨⟨mN (aH _),qp⟩,fun n a e=>⟨mN (fz (x.above _ _ (mem_of_lookup e))),Ir (x.cell _ a e)⟩⟩,rfl,rfl,eU.low,fun L e=>e⟩,fun a o' e=>⟨o',x.toInCall.keep a o' (EY e).2,.refl _⟩,?_,⟨_,x.toInCall.ns⟩,⟨?_,zb (aH _),tE (aH _)⟩,fun v s5 hk=>?_,fun v s5 hk=>?_,fun v s5 v' gT hk hk' a_=>?_,fun v s5 hk=>?_,fun a ha=>?_⟩
  ·rcases b5.mp s5 with s5|s5
   ·refine wS (ao.mp s5) fun aau Ch WD=>?_;obtain⟨q,ZK⟩:=aau;subst WD;obtain rfl:=bf hd';refine wS (Ka aZ Ch) fun v hz FS=>?_;have hin:(q.1,v)∈(ps.map Prod.fst).zip H:=by
     have:∀(l:List (Str×cZ)) (H:List Value),(q,v)∈l.zip H→(q.1,v)∈(l.map Prod.fst).zip H:=fun l=>by
      induction l with
      |nil=>intro H h;simp at h
      |cons y l ih=>
       intro H h;rcases H with _|⟨z,H⟩
       ·simp at h
       ·rw[oY]at h;refine U aJ (U oY ?_);rcases aY.mp h with e|h
        ·cases e;exact .head _
        ·exact .tail _ (ih H h)
     exact this ps H hz
    refine⟨v,FS,?_⟩;rcases kinds q (iK _ (BI Ch).1)with⟨hk,h⟩|⟨hk,h⟩
    ·show jV _ _ _ _ _ q.2;exact U hk ⟨h,_,x.toInCall.ns,Nm bn hin h⟩
    ·show jV _ _ _ _ _ q.2;refine U hk ?_;refine aO (qM (L:=s.heap.objs.size+1) h) fun a ha=>?_;refine⟨h,a,ha,?_⟩;have:=x.cell q.1 a ha;rw[NN bn hin (by show fd.scope.names.lookup q.1≠_;refine U h ?_;simp)]at this;exact this
   ·rcases b5.mp s5 with s5|s5
    ·refine wS (ao.mp s5) fun q Ch s4=>?_;subst s4;cases hd'
    ·refine wS (ao.mp s5) fun q Ch s4=>?_;subst s4;obtain rfl:=bf hd';exact As _ (.val _) ((gl q Ch).1) rfl rfl ((gl q Ch).2)
  ·refine Op (mo a cl e) fun YY hr=>?_;obtain⟨o',e',hc⟩:=YY;exact⟨⟨o',x.toInCall.keep _ _ e',hc.to⟩,hr⟩
  ·have e:(vars ps ds ls gs).map (fun x=>x.name)=(ps++ls).map Prod.fst++gs.map Prod.fst:=by
    have h1:∀(ps:List (Str×cZ)) (ds:List D),ds.length=ps.length→(((ps.zip ds).map (fun x=>(⟨x.1.1,x.1.2,some x.2⟩:iu))).map (fun x=>x.name))=ps.map Prod.fst:=fun l=>by
     induction l with
     |nil=>intro ds _;rfl
     |cons y l ih=>
      intro ds h;rcases ds with _|⟨z,ds⟩
      ·simp at h
      ·simp only[oY,aJ];exact ZB (ih ds (by simpa using h)) rfl
    rw[vars,gA,h1 ps ds dH,gA,cJ,cJ,gA,jU];rfl
   exact U e nd
  ·show(if _ then none else s.heap.get? s.heap.objs.size)=none;refine U IQ ?_;split<;>rfl
  ·rcases qY v s5 with⟨_,h⟩|⟨h,_⟩|⟨h,_⟩
   ·exact h
   ·rw[hk]at h;cases h
   ·rw[hk]at h;cases h
  ·rcases qY v s5 with⟨h,_⟩|⟨_,h⟩|⟨h,_⟩
   ·rw[hk]at h;cases h
   ·refine aO (qM (L:=s.heap.objs.size+1) h) fun a ha=>?_;have ab:s.heap.objs.size<a:=x.above _ _ (mem_of_lookup ha);exact⟨h,a,_,ha,x.cell _ a ha,by show(if _ then none else s.heap.get? a)=none;refine U (sZ (fz ab)) ?_;split<;>rfl,zb (fz ab),tE (fz ab),g_ ab⟩
   ·rw[hk]at h;cases h
  ·rcases qY v s5 with⟨h,_⟩|⟨_,h⟩|⟨h,_⟩
   ·rw[hk]at h;cases h
   ·refine aO (qM (L:=s.heap.objs.size+1) h) fun a ha=>?_;intro e;exact a_ (AJ x.apart (mem_of_lookup ha) (mem_of_lookup (e▸ha)))
   ·rw[hk]at h;cases h
  ·rcases qY v s5 with⟨h,_⟩|⟨h,_⟩|⟨h,_⟩<;>(rw[hk]at h;cases h)
  ·rcases q:Y a with _|cl
   ·exact absurd q ha
   ·rfl
 have ok':Ok (c.at s.heap.objs.size) k (A.deeper (newEnv fd.scope s.heap.objs.size mainGlobals (cellsFrom (s.heap.objs.size+1) fd.scope.names []) (fd.qualname++".<locals>.") (some f) fd.code none builtinsNs)) s':=by
  refine d9 (ok.frames) fun l hl hf jP J=>?_;refine⟨?_,?_,⟨newEnv fd.scope s.heap.objs.size mainGlobals (cellsFrom (s.heap.objs.size+1) fd.scope.names []) (fd.qualname++".<locals>.") (some f) fd.code none builtinsNs::l,?_,⟨?_,?_,?_⟩,fun b hb=>?_,fun L e=>⟨_,_,rfl,e⟩⟩,fP ok.tok htk,ok.hand⟩
  ·show A.depth+1+k<900;have:=ok.depth;exact oH ‹_›
  ·show A.units+3+60*k<9000;have:=ok.units;exact B7 ‹_› (by decide)
  ·show A.frames.map _=_;refine U hl ?_;rfl
  ·show fd.scope.kind≠ .module;refine U eU.kind ?_;simp
  ·refine dS (x.toInCall.ns) fun o' es ep h1 h2 J=>?_;exact jz _ o' rfl (tE (aH _)) h1 (fun H=>by refine U h2 ?_;simp)
  ·exact hf.of_keeps fun b o' e J=>⟨o',x.toInCall.keep b o' e,rfl⟩
  ·refine bC hb ?_ fun hb=>?_
   ·refine wS (yk.fr) fun bR e1 gP=>?_;refine dS (x.toInCall.ns) fun o' es ep h1 h2 J=>?_;rw[h1]at e1;obtain rfl:=bf e1;exact fW _ h1 ⟨es,ep,h2⟩ gP
   ·refine wS (jP b hb) fun o' e' i=>?_;exact⟨o',x.toInCall.keep b o' e',i⟩
 refine bL _ _ s' _ Z rfl ok' w fun BB gm s'' eH run jB=>?_;have aq:aN c Y s Z gm s'' eH:=by
  refine⟨Ev (fz qp) run.af.size,fun a o' ha e=>jB.keep a o' (by show(if _ then none else s.heap.get? a)=_;refine U ha ?_;exact e),fun b o' e h=>run.af.frames b o' (x.toInCall.keep b o' e) h,jB.rd.top,run.le,fun a o' e=>?_,jB.rd.sub,fun a h=>?_,fun a cl e=>let⟨⟨o,xz,hc⟩,r⟩:=jB.rd.cells a cl e;⟨⟨o,xz,hc.off⟩,r⟩,Ev htk run.af.tok,?_⟩
  ·rcases run.ext a o' e with e|e|e
   ·exact .inl e
   ·exact .inr (.inl e)
   ·exact .inr (.inr (Ev (fz qp) e))
  ·rcases run.ju a h with e|e
   ·exact .inl e
   ·exact .inr (Ev (fz qp) e)
  ·refine fE (x.toInCall.same) fun h1 t1 s4=>?_;subst s4;refine fE (run.af.rest) fun h2 fD s4=>?_;subst s4;exact⟨_,_,rfl⟩
 exact nQ.trans aq
noncomputable def qt (c:ah) (k:Nat) (f:Value) (ds:List D) (Y:B) (cls:Value) (aV:B→Prop):Prop:=
 ∀(A:Around) (s:Shared) (Z:TW) (H:List Value),Ok c k A s→c.H0.StaysIn s.heap→Sub Z s.heap→au Z H ds→gj c Z s.heap Y→∀(R:Result→Shared→Prop),
  (∀x ts I s' Z',aN c Y s Z I s' Z'→qb I x ts cls→aV (I.del (x::ts))→R (.error (.ref x)) s')→codeAny c.M A (.call f ⟨H,[]⟩) R s
theorem qt.pm (h:qt c k f ds Y cls aV):FW c k f ds Y cls aV:=
 fun A s Z H ok top sub aZ mo Q E g=>oO (h A s Z H ok top sub aZ mo _ g)
theorem qt.def (eU:Cf c f fd body)
 (mC:Binds c fd ps ds₀ ds) (dH:ds.length=ps.length)
 (kinds:∀x∈ps++ls,(x.2= .loc∧fd.scope.names.lookup x.1=some .local)∨(x.2= .aL∧fd.scope.names.lookup x.1=some .cell))
 (gl:∀x∈gs,fd.scope.names.lookup x.1=some .globalImplicit∧gv c.H0 x.1 x.2)
 (nd:((ps++ls).map Prod.fst++gs.map Prod.fst).Nodup)
 (n6:∀L,jZ (c.at L) k (vars ps ds ls gs) Y body cls fun J I=>aV I):qt c (k+1) (.ref f) ds₀ Y cls aV:=by
 intro A s Z H ok top sub aZ mo R g;refine aaV eU mC dH kinds gl nd ok top sub aZ mo fun L V s' bs Z' hf ok' w glue=>?_;refine n6 L (A.deeper V) V s' bs Z' ok' w _ _ fun x ts NE I s'' eH run jB ex hp=>?_;unfold leaving;refine u8 (LH (c:=c.at L) rfl hf (ok'.af run.af) jB.rd.top jB.rd.sub jB.rd.cells ex fun jW T s₂ aq Cn FY=>?_);refine g x [T] jW s₂ eH ?_ Cn (by refine U FY ?_;exact hp);exact glue NE jW s₂ eH (run.trans aq.run) (jB.after aq)
theorem qt.fn {c:ah} {k:Nat} {f:Addr} {st:Stmt} {qual:Str} {dV:Value} {ps ls:List (Str×cZ)} {gs:List (Str×Value)} {ds₀ ds:List D} {Y:B} {cls:Value} {aV:B→Prop} (h:FnAt c f st qual dV) (ok:xB (sF st) ps ls (gs.map Prod.fst)=true)
 (gl:∀x∈gs,gv c.H0 x.1 x.2) (dH:ds.length=ps.length) (mC:∀pm cd,Binds c (fdOf st qual dV pm cd) ps ds₀ ds)
 (n6:∀L,jZ (c.at L) k (vars ps ds ls gs) Y (gJ st) cls fun J I=>aV I):qt c (k+1) (.ref f) ds₀ Y cls aV:=by
 unfold xB at ok;simp only[kJ,jQ,rQ,oB,kX,Cv]at ok;refine Op ok fun aG h6=>?_;refine Op aG fun aG h5=>?_;refine Op aG fun acQ h4=>?_;obtain⟨⟨h1,h2⟩,h3⟩:=acQ;refine fE (h.def h4 h5 h6) fun pm cd eU=>?_;exact qt.def eU (mC pm cd) dH h1 (fun x hx=>⟨h2 x.1 (cz hx),gl x hx⟩) h3 n6
section
open PySem.W
noncomputable abbrev DL:Obj:=excClassObj "CycleError" "CycleError" 55 54 [.type "ValueError"] [.type "ValueError",.type "Exception",.type "BaseException",.type "object"] true [] [] false none none (some (.ref 46)) none (some (.str "CycleError" 239)) (some (.str "CycleError" 247)) (some (.bool true)) "ValueError.__new__"
theorem Nj (t:aT c):c.H0.get? 55=some DL:=t.K 55 _ (by rfl)
theorem acP (t:aT c):∃m,c.H0.Ns 54 m∧m "__init__" =none:=by
 refine⟨_,.of_isNs (Jl t.K (by kernel_rfl)),NX t.K (by kernel_rfl) (by kernel_rfl)⟩
structure yD (h h':Heap) (e:Addr):Prop where
 size:h.objs.size≤h'.objs.size
 keeps:∀b o,h.get? b=some o→h'.get? b=some o
 new:h.objs.size≤e
 there:∃t,h'.get? e=some {cls:=.ref 55,data:=.fields #[.ref t,.none,.none,.none,.bool false,.none]}
section
variable {prog:Program} {w:World} {A:Around} {E:Value→Shared→Prop} {h:Heap} {g:Array GenState} {d:Drawn} {t:Nat} {os:OsState} {mN:Str→Option Value} {rest:List Value}
theorem ac4 (jq:h.get? 55=some DL) (M2:h.Ns 54 mN) (zW:mN "__init__" =none)
 (Ch:∀h' e,yD h h' e→Q (.done (.ret (.ref e))) ⟨h',g,d,t,os⟩) (zp:rest.length≤sizeLine):
 wpAny (model prog w) A (Builtin.«type.__call__» ⟨.ref 55::rest,[]⟩) Q E ⟨h,g,d,t,os⟩:=by
 have F:=Pb
 repeat(first|with_reducible refine Iv jq ?_|with_reducible refine wpAny_madeBy_exc jq ?_|wp_step)
 refine codeAny_call_builtin_code (F6 _ F.quiet) (wpAny_check_new_sub F jq ?_);refine codeAny_exc_new_sub F jq ?_ zp;show wpAny _ _ _ _ _ _;have F4:=bX {cls:=.ref 55,data:=.fields #[.ref h.objs.size,.none,.none,.none,.bool false,.none]}
  (bX {cls:=.type "tuple",data:=.seq rest.toArray} jq)
 have Vt:((h.push {cls:=.type "tuple",data:=.seq rest.toArray}).push {cls:=.ref 55,data:=.fields #[.ref h.objs.size,.none,.none,.none,.bool false,.none]}).Ns 54 mN:=
  DE M2 fun o es ep e r=>⟨o,es,ep,bX _ (bX _ e),r⟩
 have jm:((h.push {cls:=.type "tuple",data:=.seq rest.toArray}).push
  {cls:=.ref 55,data:=.fields #[.ref h.objs.size,.none,.none,.none,.bool false,.none]}).get? (h.objs.size+1)=some
  {cls:=.ref 55,data:=.fields #[.ref h.objs.size,.none,.none,.none,.bool false,.none]}:=by heap_get
 have U3:(Value.ref 55::[.type "ValueError",.type "Exception",.type "BaseException",.type "object"]).contains (.ref 55)=true:=by simp
 unfold isInstance
 repeat(first|with_reducible refine Iv jm ?_|(with_reducible refine wpAny_isSubtype_exc F4 ?_;refine U U3 ?_)|wp_step)
 show wpAny _ _ (typeLookup (.ref 55) _) _ _ _;refine wpAny_typeLookup_exc F4 Vt F.mroIs F.init.lookup ?_;refine U zW ?_;refine bW (u8 (qR (F.init.bind _) ?_));refine u8 (oO (zA F.init.plain F.initEntry (wpAny_check_init_sub F F4 jm rfl ?_)));wp_walk;refine Ch _ _ ⟨?_,fun b o hb=>?_,b7 _,h.objs.size+2,?_⟩
 ·simp only[yx,eS];lia
 ·rw[rP _ _ (g_ (v_ (cE hb)))];exact bX _ (bX _ (bX _ hb))
 ·rw[kD _ (bX _ jm) rfl];simp only[eS];rfl
theorem aaZ (jq:h.get? 55=some DL) (M2:h.Ns 54 mN) (zW:mN "__init__" =none)
 (Ch:∀h' e,yD h h' e→Q (.ref e) ⟨h',g,d,t,os⟩) (zp:rest.length≤sizeLine):wpAny (model prog w) A (call (.ref 55) rest) Q E ⟨h,g,d,t,os⟩:=by
 have f1:=tc_lookup;have f2:=tc_bind (.ref 55);have hT:(⟨h,g,d,t,os⟩:Shared).TypeIs (.ref 55) "type" :=⟨_,jq,rfl⟩;refine oO (Ik ?_);show wpAny _ _ (callAny (.ref 55) _) _ _ _
 repeat(any_goals (first|assumption|with_reducible refine Iv jq ?_|wp_step))
 refine⟨rfl,?_⟩;exact codeAny_call_builtin_at (F6 _ (by decide+kernel)) entry_typeCall (wpAny_check_type_call_sub jq (ac4 jq M2 zW Ch zp))
end
section
variable {c:ah} {k:Nat} {O:XV} {Y:B} {aV:XV→B→Prop}
theorem yD.after (x:yD s.heap h' e) (top:c.H0.StaysIn s.heap) (sub:Sub Z s.heap) (mo:gj c Z s.heap Y):∃o,o.cls= .ref 55∧(∃t,o.data= .fields #[.ref t,.none,.none,.none,.bool false,.none])∧aN c Y s Z (Y.put e (some (.raw o))) {s with heap:=h'} Z:=by
 refine aO (x.there) fun t FS=>?_;have st:Step c s Z {s with heap:=h'} Z:=⟨⟨x.size,fun a o e=>⟨o,x.keeps a o e,.refl _⟩⟩,fun a o e=>x.keeps a o (top a o e),.refl ..,fun a o e=>⟨x.keeps a o (sub.get e),(sub a o e).2⟩,aH _,⟨_,_,rfl⟩⟩;have aq:=st.p9 mo;refine fW ({cls:=.ref 55,data:=.fields #[.ref t,.none,.none,.none,.bool false,.none]}) rfl ⟨t,rfl⟩ ⟨aq.size,aq.keep,aq.fields,aq.top,aq.le,aq.ext,aq.sub,fun a ha=>?_,fun a cl iW=>?_,aq.tok,aq.rest⟩
 ·by_cases q:a=e
  ·subst q;exact .inr x.new
  ·rw[B.aa _ _ q]at ha;exact .inl ha
 ·by_cases q:a=e
  ·subst q;rw[B.ai]at iW;obtain rfl:=bf iW;exact⟨⟨_,FS,rfl,by simp⟩,gC sub x.new,mG top x.new⟩
  ·rw[B.aa _ _ q]at iW;exact aq.cells a cl iW
theorem l8.VB (hh:c.hd=false) (t:aT c) (hf:f8 c k O Y (.Name n np) (.val (.ref 55))) (ha:ie c k O Y args ds) (hz:ds.length≤1000) (Ch:aV O Y)
 (hs:∀V,(starEach args V).all (fun y=>!y.1)=true:=by intro;rfl) (hp:∀V,(backTo ab8 (starEach args V)).any Prod.fst=false:=by intro;rfl):l8 c k O Y (.Raise (some (.Call (.Name n np) args [] ab8)) none pos) (.ref 55) aV:=by
 intro A V s bs Z ok w Q E g;refine wS (acP t) fun mN v8 zW=>?_;rw[arm_exec_Raise];refine u8 (f6 (wpAny_raiseStmt_made_sub (C:=55) (nm:="CycleError") (q:="CycleError") (N:=54) (bs:=[.type "ValueError"]) (bm:=[.type "ValueError",.type "Exception",.type "BaseException",.type "object"]) (hdct:=true) (sn:=[]) (sub:=[]) (ab:=false) (col:=none) (dd:=none) (k0:=some (.ref 46)) (k1:=none) (k2:=some (.str "CycleError" 239)) (k3:=some (.str "CycleError" 247)) (k5:=some (.bool true)) (newId:="ValueError.__new__") Pb.hasBase (ok.hand hh) ?_));refine u8 (dQ (wpAny_Call_ofName (hf A V s Z ok w.rd _ E fun v s₁ aC EQ s5=>?_)) (fun v aF qd=>u8 (f6 (On qd))) fun J J x=>x);refine s5.v ?_;delta callWith;refine u8 (bW (nu ha (ok.step EQ) (w.rd.step EQ) hs fun H s₂ bx t₂ aZ=>u8 (f6 ?_)));have w₂:=(w.step EQ).step t₂;obtain⟨NI,D9,d,tk,os⟩:=s₂;have jq:NI.get? 55=some DL:=w₂.rd.top _ _ (Nj t);have cK:H.length≤sizeLine:=by refine U aZ.length (U cQ ?_);exact Ev ‹_› (by decide)
 simp only[hp];refine u8 (wpAny_keeperOf_exc jq ?_);refine u8 (aaZ jq (v8.keeps w₂.rd.top) zW (fun h' e hm=>u8 (bW (yJ (On ?_)))) cK);refine aS (yD.after (c:=c) (Y:=Y) (Z:=bx) (s:=⟨NI,D9,d,tk,os⟩) hm w₂.rd.top w₂.rd.sub w₂.rd.cells) fun o xz aG aq=>?_;refine aO aG fun tt hd=>?_;refine aO (hm.there) fun t' Aw=>?_;refine jz e t' rfl (hm.keeps _ _ jq) Aw ?_;refine g e [] O _ _ bx (((EQ.trans t₂).run Y).trans aq.run) (w₂.after aq) ⟨o,_,B.ai ..,xz,hd,by simp,.inl ⟨rfl,by simp⟩⟩ ?_;have:(Y.put e (some (.raw o))).del [e]=Y:=by
  funext b;unfold B.del;by_cases q:b=e
  ·subst q;exact U (ak (by simp)) (U (w₂.rd.fresh hm.new) rfl)
  ·exact U (Tk (by simp[q])) (U (B.aa _ _ q) rfl)
 exact U this Ch
theorem Um (t:aT c) (top:c.H0.StaysIn s.heap) (xz:s.heap.get? x=some o) (hc:o.cls= .ref 55) (h:Q true s):wpAny c.M A (excMatches (.ref x) (.ref 55)) Q E s:=by
 obtain⟨hp,g,d,tk,os⟩:=s;exact wpAny_excMatches_sub_self (top _ _ (Nj t)) xz hc (by decide) h
end
end
section
open PySem.W
section
variable {c:ah} {k:Nat} {O:XV} {Y:B}
theorem XI {S:Addr} {y:Lay} {st:St} {dD:Nat} {ring:List Str} (t:aT c) (h:bH Y S y st) (hr:st.ready=none) (hz:st.nodes.length≤900) (ez:∀n∈st.nodes,∀x∈n.succ,x∈st.nodes.map (fun x=>x.name)) (hb:scan st.nodes dD (st.nodes.map (fun x=>x.name)) []=some (some ring)):
 FW c (k+2) (.ref 92) [.val (.ref S)] Y (.ref 55) (fun I=>∃R,bH I S (gi y R) (lO st)∧bI (y.foot S) Y ((gi y R).foot S) I):=by
 have hrs:y.rs=[]:=by have:=h.gI;rw[hr]at this;exact this
 refine qt.pm (qt.fn (st:=d7 6 3) (qual:="TopologicalSorter.prepare") (dV:=.none) (ps:=[("self",.loc)]) (ls:=[("cycle",.loc)]) (gs:=[("ValueError",.type "ValueError"),("CycleError",.ref 55)]) (t.fn rfl rfl rfl rfl) (by kd_p) (bB (t.dh (by kd_p) (by kd_p) (by decide)) (bB (t.glob (by kd_p)) cG)) rfl (fun J J=>.plain rfl (iZ fun J=>rfl)) ?_);intro bN;replace t:=t.at (L:=bN);generalize c.at bN=c at t⊢
 kst_p
 refine jZ.cons (FM.ifs (b:=false) ((az.cmp (f8.ga (by kd_p) (b_.gI t h)) (by kd_p) Rs.isNotNone).to (by refine U hrs ?_;rfl)) (fun h=>(by injection h)) fun J=>wE.nil ?_);refine jZ.cons (FM.nX (QX t h (by walk_at "v") hz (by kd_p) (fun R bD=>⟨by kd_p,_,gH.attr (C:=137) (dx:=y.h_) (l:=[]) (al:=gW y st) t ((B.aa _ _ (by rintro rfl;rw[h.inst]at bD;injection bD)).trans h.inst) ((B.aa _ _ (by rintro rfl;rw[h.attrs]at bD;injection bD)).trans h.attrs) (sG ..) (rK ..) (q6 (CO ..)) (kB ..) (by simp[gW]),?_⟩) (by rfl)));have h2:=h.O5 hrs bD (lg st.nodes);have kj:bI (y.foot S) Y ((gi y R).foot S) ((Y.put R (some (.list (ww (lg st.nodes))))).put y.h_ (some (.attrs (gW (gi y R) (lO st))))):=by
  refine(bI.fresh (F:=y.foot S) (F':=(gi y R).foot S) bD (fun b hb=>?_) _).trans (bI.put ((gi y R).zY S) _);unfold Lay.foot at hb⊢;simp only[hrs,oM,aY,m9]at hb⊢;rcases hb with h|h|h|h|h
  ·exact .inl (.inl h)
  ·exact .inl (.inr (.inl h))
  ·exact .inl (.inr (.inr (.inl h)))
  ·exact .inr h
  ·exact .inl (.inr (.inr (.inr h)))
 have iW:iD (gW y st) "_ready_nodes" (.val (.ref R))=gW (gi y R) (lO st):=rfl;refine U iW ?_;generalize(Y.put R (some (.list (ww (lg st.nodes))))).put y.h_ (some (.attrs (gW (gi y R) (lO st))))=jW at h2 kj⊢;refine jZ.cons (FM.iG (aE.nO t (by kd_p) h2.inst h2.attrs (by rfl) (jg ..) (IS ..) (Gi ..) (fM (st:=d7 6 8) (t.fn rfl rfl rfl rfl)) .nil (c_.mono (cu.r ((FA (k:=k) t h2 hz ez hb).less (aH _))) ?_)));intro d kg Go;obtain⟨rfl,hl,dI⟩:=Go;obtain⟨hl,cK⟩:=hl ring rfl;refine⟨_,by kd_in,?_⟩;dsimp only[mZ];have CZ:(ww ring).length≤1000000:=by simp[ww];exact Ev ‹_› (by decide)
 refine jZ.here (l8.ifs (b:=true) ((az.plain (d:=.list (ww ring)) (by kd_p) (di.list CZ)).to (by induction ring with|nil=>exact absurd rfl hl|cons _ _=>rfl)) (fun J=>jZ.here (l8.VB (ds:=[.str "nodes are in a cycle",.list (ww ring)]) t.hd t (by kd_p) (.cons (f8.XJ (by kd_p)) (.cons (by kd_p) .nil (by kd_p)) (by kd_p)) (by simp) ?_)) (fun h=>(by injection h)));exact⟨R,h2.keep dI,kj.trans (bI.keep dI)⟩
theorem aad {S:Addr} {y:Lay} {st:St} {dD:Nat} {ring:List Str} (t:aT c) (h:bH Y S y st) (hr:st.ready=none) (hz:st.nodes.length≤900) (ez:∀n∈st.nodes,∀x∈n.succ,x∈st.nodes.map (fun x=>x.name)) (hb:scan st.nodes dD (st.nodes.map (fun x=>x.name)) []=some none):
 cu c (k+3) (.ref 295) [.val (.ref S)] Y (fun d I=>d= .val .none∧∃R,bH I S (gi y R) (lO st)∧bI (y.foot S) Y ((gi y R).foot S) I):=by
 refine cu.fn (st:=bF 31) (qual:="_law_prepared") (dV:=.none) (ps:=[("sorter",.loc)]) (ls:=[]) (gs:=[("CycleError",.ref 55)]) (t.fn rfl rfl rfl rfl) (by kd_p) (bB (t.glob (by kd_p)) cG) rfl (fun J J=>.plain rfl (iZ fun J=>rfl)) ?_;intro bN;replace t:=t.at (L:=bN);generalize c.at bN=c at t⊢
 kst_p
 refine wE.cons (FM.D8 (wE.cons (FM.I4 (aE.nO t (by kd_p) h.inst h.attrs (by rfl) (jg ..) (PC ..) (QW ..) (fM (st:=d7 6 3) (t.fn rfl rfl rfl rfl)) .nil (c_.mono (cu.r (afJ (k:=k) t h hr hz ez hb)) fun d I hp=>?_)))));exact hp
theorem Vq {S:Addr} {y:Lay} {st:St} {dD:Nat} {ring:List Str} (t:aT c) (h:bH Y S y st) (hr:st.ready=none) (hz:st.nodes.length≤900) (ez:∀n∈st.nodes,∀x∈n.succ,x∈st.nodes.map (fun x=>x.name)) (hb:scan st.nodes dD (st.nodes.map (fun x=>x.name)) []=some (some ring)):
 cu c (k+3) (.ref 295) [.val (.ref S)] Y (fun d I=>d= .str "ring"∧∃R,bH I S (gi y R) (lO st)∧bI (y.foot S) Y ((gi y R).foot S) I):=by
 refine cu.fn (st:=bF 31) (qual:="_law_prepared") (dV:=.none) (ps:=[("sorter",.loc)]) (ls:=[]) (gs:=[("CycleError",.ref 55)]) (t.fn rfl rfl rfl rfl) (by kd_p) (bB (t.glob (by kd_p)) cG) rfl (fun J J=>.plain rfl (iZ fun J=>rfl)) ?_;intro bN;have jP:(c.at bN).fr≠none:=by simp
 replace t:=t.at (L:=bN);generalize c.at bN=c at t jP⊢
 kst_p
 refine wE.cons (FM.OB (cls:=.ref 55) (tv:=.ref 55) (aV:=fun NE I=>NE=[⟨"sorter",.loc,some (.val (.ref S))⟩,⟨"CycleError",.bw,some (.val (.ref 55))⟩]∧∃R,bH I S (gi y R) (lO st)∧bI (y.foot S) Y ((gi y R).foot S) I) jP (jZ.here (l8.ret (r5.nO t (by kd_p) h.inst h.attrs (by rfl) (jg ..) (PC ..) (QW ..) (fM (st:=d7 6 3) (t.fn rfl rfl rfl rfl)) .nil (fun A s Z H ok top sub aZ mo Q E q=>XI (k:=k) t h hr hz ez hb A s Z H ok top sub aZ mo Q E fun x ts I s' Z' aq ex hp=>q x ts I s' Z' aq ex ⟨rfl,hp⟩)))) (Um t) ?_);intro _ I Go;obtain⟨rfl,hp⟩:=Go;exact⟨by kd_p,wE.cons (FM.ret (d:=.str "ring") (by kd_p) ⟨rfl,hp⟩)⟩
end
end
section
open PySem.W
section
variable {c:ah} {k:Nat} {O:XV} {Y:B} {Sc:D→B→Prop}
end
theorem Tw {c:ah} {A:Around} {E:Value→Shared→Prop} {s:Shared} {q f x:Addr} {pos:Pos} {args:List (Bool×Sem Value)} {Q:Value→Shared→Prop} (hst:args.any Prod.fst=true)
 (h:wpAny c.M A (evalArgs (.ref q) true args []) (fun a s₁=>s₁.heap.get? q=some (methodObj (.ref f) (.ref x))∧(∃o fd,s₁.heap.get? f=some o∧o.data= .func fd)∧a.kw=[]∧codeAny c.M A (.call (.ref f) ⟨.ref x::a.pos,[]⟩) (fun r s'=>match r with| .ok (.ret v)=>Q v s'| .ok _=>False| .error e=>E e s') s₁) E s):
 wpAny c.M A (callWith pos (.ref q) [] args []) Q E s:=by
 unfold callWith;refine u8 (bW (dQ h (fun a s₁ h₁=>u8 (f6 ?_)) fun J J x=>x));refine lN h₁ fun Ch aG Xm hc=>?_;refine eG aG fun o fd hf hd=>?_;have tail:∀{t:Sem Value},wpAny c.M A t Q E s₁→wpAny c.M A (t>>=fun r=>holding [r] point>>=fun J=>pure r) Q E s₁:=
  fun FS=>u8 (dQ FS (fun r s₂ hr=>u8 (bW (yJ (On hr)))) fun J J x=>x)
 have op:∀H (t:Sem Value),wpAny c.M A t Q E s₁→wpAny c.M A (operate H t) Q E s₁:=fun H t FS Γ p uW=>by rw[Sem.wp_operate];exact FS Γ p uW
 refine u8 (m:=keeperOf (.ref q)) ?_;unfold keeperOf;refine u8 (kR Ch ?_);dsimp only;refine U (Tk (by decide)) ?_;refine u8 (kR hf ?_);refine U hd ?_;refine On ?_;simp only[hst,Bool.true_or];refine tail (op _ _ ?_);obtain⟨ap,afB⟩:=a;obtain rfl:afB=[]:=Xm;exact oO (ks_codeAny_call_bound Ch hc)
section
variable {c:ah} {k:Nat} {O:XV} {Y:B} {Sc:D→B→Prop}
theorem aE.JY (t:aT c) (xz:f8 c k O Y o (.val (.ref a))) (ha:Y a=some (.inst C dx l)) (hd:Y dx=some (.attrs al)) (s5:cI al name=Option.none)
 (hg:plainGet (cX c) C name=true) (hf:findIn (cX c) (.ref C) name=some (some (.ref f))) (FS:typeIn (cX c) (.ref f)=some (.type "function")) (ad2:hasDictIn (cX c) C=true) (ado:specialIn (cX c) (.ref f) "__get__" =some (some (.builtin "function.__get__"))) (htk:takesIn (cX c) (.ref f)=some false) (aeS:copiedNames.contains name=false)
 (Wm:∃o fd,c.H0.get? f=some o∧o.data= .func fd)
 (yP:∀A V s Z v,Ok c k A s→bz c Z s.heap V O Y→∀(Q:Args→Shared→Prop) (E),
  (∀ds H s' Z',Step c s Z s' Z'→au Z' H ds→eL c k (.ref f) (.val (.ref a)::ds) Y Sc→Q ⟨H,[]⟩ s')→wpAny c.M A (evalArgs v true (backTo pos (starEach args V)) []) Q E s)
 (he:∀V,eval (.Call (.Attribute o name c5) args [] pos) V=(do
  let iC←eval o V
  standAt c5.atName
  let(f,first)←holding [iC] (do pure (←getAttr iC name true,[]))
  let aas←pure pos
  callWith aas f first (backTo pos (starEach args V)) (backToKw pos (keywordEach [] V))):=by intro;rfl)
 (hst:∀V,(backTo pos (starEach args V)).any Prod.fst=true:=by intro;rfl):aE c k O Y (.Call (.Attribute o name c5) args [] pos) Sc:=by
 intro A V s Z ok r Q E q;rw[he];refine u8 (xz A V s Z ok r _ E fun v s₁ aC EQ gT=>u8 (f6 ?_));refine gT.v ?_;have r₁:=r.step EQ;refine uS (tM r₁ ha hd) fun bS kvs n im=>?_;refine u8 (bW (u8 ?_));refine get_bind (t.oN r₁.top) im.at_ (qV hg).1 (findObj_fn ad2 hf ado htk aeS (by show lookIn name _=_;rw[Ae,(AI im.keys im.vals name).1 s5])) (qV hg).2 ?_;refine oO (fn_get (s:={s₁ with toks:=s₁.toks+1}) (t.oN r₁.top) FS (handed_on rfl ?_));refine On (u8 (On ?_));have qW:=(Step.push (c:=c) (s:={s₁ with toks:=s₁.toks+1}) (Z:=aC) r₁.top r₁.sub (methodObj (.ref f) (.ref a)) rfl (by simp));have st:Step c s Z _ _:=(EQ.toks (t:=s₁.toks+1) (b7 _)).trans qW;have r₂:=r.step st;show wpAny c.M A (callWith pos (.ref s₁.heap.objs.size) [] (backTo pos (starEach args V)) []) Q E _;refine Tw (f:=f) (x:=a) (hst V) (yP A V _ _ _ (ok.step st) r₂ _ E fun ds H aF er t₃ aZ hc=>?_);have x_:=r₂.step t₃;refine eG Wm fun of fd adF abI=>?_;exact rR (t₃.sub.get (t₃.le _ _ (TW.ai ..))) ⟨of,fd,x_.top _ _ adF,abI⟩ rfl (hc A aF er (.ref a::H) ((ok.step st).step t₃) x_.top x_.sub (.cons (.val _) aZ) x_.cells _ fun d I v s' Z' aq s5 hp=>q d I v s' Z' (((st.trans t₃).after r).trans aq) s5 hp)
theorem ie.star (he:f8 c k O Y e d) (hs:aK c O Y d l) (hb:l.length≤1000000):ie c k O Y [.Starred e p] l:=by
 intro A V s Z pos ok x Q E q;refine items_star (he A V s Z ok x _ E fun v s₁ aC EQ s5=>Ei hs hb (x.step EQ) s5 fun H s₂ t₂ aZ=>?_);refine wK ?_;rw[fQ];exact q H s₂ aC (EQ.trans t₂) aZ
theorem ab7 (hx:f8 c k O Y x d) (he:f8 c k O Y e ck) (hs:aK c O Y ck l) (hb:l.length≤1000000) (hc:eL c k (.ref f) (.val (.ref a)::d::l) Y Sc)
 (hst:∀V,starEach (x::[.Starred e p]) V=(false,eval x V)::starEach [.Starred e p] V:=by intro;rfl):
 ∀A V s Z v,Ok c k A s→bz c Z s.heap V O Y→∀(Q:Args→Shared→Prop) (E),
  (∀ds H s' Z',Step c s Z s' Z'→au Z' H ds→eL c k (.ref f) (.val (.ref a)::ds) Y Sc→Q ⟨H,[]⟩ s')→wpAny c.M A (evalArgs v true (backTo pos (starEach [x,.Starred e p] V)) []) Q E s:=by
 intro A V s Z v ok r Q E q;have key:=(ie.cons hx (ie.star (p:=p) he hs hb) hst) A V s Z pos ok r (fun H s'=>Q ⟨H,[]⟩ s') E fun H s' Z' t s5=>q _ H s' Z' t s5 hc;rw[hst]at key⊢;exact zx key
theorem Zu (he:f8 c k O Y e ck) (hs:aK c O Y ck l) (hb:l.length≤1000000) (hc:eL c k (.ref f) (.val (.ref a)::l) Y Sc):
 ∀A V s Z v,Ok c k A s→bz c Z s.heap V O Y→∀(Q:Args→Shared→Prop) (E),
  (∀ds H s' Z',Step c s Z s' Z'→au Z' H ds→eL c k (.ref f) (.val (.ref a)::ds) Y Sc→Q ⟨H,[]⟩ s')→wpAny c.M A (evalArgs v true (backTo pos (starEach [.Starred e p] V)) []) Q E s:=by
 intro A V s Z v ok r Q E q;exact ks_lone (he A V s Z ok r _ E fun v s₁ aC EQ s5=>Ei hs hb (r.step EQ) s5 fun H s₂ t₂ aZ=>q _ H s₂ aC (EQ.trans t₂) aZ hc)
theorem eL.mono (h:eL c k f ds Y Sc) (q:∀d I,Sc d I→aV d I):eL c k f ds Y aV:=fun A s Z H ok top sub aZ mo R g=>h A s Z H ok top sub aZ mo R fun d I v s' Z' aq s5 hp=>g d I v s' Z' aq s5 (q d I hp)
end
end
section
noncomputable def Q8:Value→PyData
 | .none=>.none
 | .bool b=>.bool b
 |_=>.none
mutual
noncomputable def pd:D→PyData
 | .val v=>Q8 v
 | .int i=>.int i
 | .str s=>.str s
 | .list l=>.list (fJ l)
 | .tup l=>.tuple (fJ l)
noncomputable def fJ:List D→List PyData
 |[]=>[]
 |d::l=>pd d::fJ l
end
theorem F7 (d l):fJ (d::l)=pd d::fJ l:=rfl
theorem BQ:fJ []=[]:=rfl
theorem Vi (v):pd (.val v)=Q8 v:=rfl
theorem agg (i):pd (.int i)= .int i:=rfl
theorem C4 (s):pd (.str s)= .str s:=rfl
theorem wZ (l):pd (.list l)= .list (fJ l):=rfl
theorem Px (l):pd (.tup l)= .tuple (fJ l):=rfl
noncomputable def Fc:Value→Bool
 | .none=>true
 | .bool _=>true
 |_=>false
mutual
noncomputable def jw:D→Bool
 | .val v=>Fc v
 | .int _=>true
 | .str _=>true
 | .list l=>iy l
 | .tup l=>iy l
noncomputable def iy:List D→Bool
 |[]=>true
 |d::l=>jw d&&iy l
end
theorem A5 (d l):iy (d::l)=(jw d&&iy l):=rfl
theorem Pc:iy []=true:=rfl
theorem V6 (s):jw (.str s)=true:=rfl
theorem CQ (l):jw (.list l)=iy l:=rfl
theorem J' (l):jw (.tup l)=iy l:=rfl
theorem aaP (v):jw (.val v)=Fc v:=rfl
theorem Wk:∀l:List D,fJ l=l.map pd:=fun k8=>by
 induction k8 with
 |nil=>exact by refine U BQ ?_;rfl
 |cons d l lZ=>exact by rw[F7,(lZ)];rfl
theorem xR (x:Sub Z h) (bL:Tells Z v d):jw d=true→∃as,Reads h v (pd d) as:=by
 refine Tells.rec (motive_1:=fun v d J=>jw d=true→∃as,Reads h v (pd d) as) (motive_2:=fun H ds J=>iy ds=true→∃as,ReadsAll h H (fJ ds) as) ?_ ?_ ?_ ?_ ?_ ?_ ?_ bL
 ·intro v hf;rw[aaP]at hf;rw[Vi];unfold Fc at hf;split at hf
  ·exact⟨_,.none⟩
  ·exact⟨_,.bool _⟩
  ·injection hf
 ·intro i t _;exact⟨_,.int i t⟩
 ·intro s t _;exact⟨_,.str s t⟩
 ·intro a H n l h1 _ ih hf;rw[CQ]at hf;exact(ih hf).elim fun as r=>by rw[wZ];exact⟨_,.list (x.get h1) rfl rfl r⟩
 ·intro a H n l h1 _ ih hf;rw[J']at hf;exact(ih hf).elim fun as r=>by rw[Px];exact⟨_,.tuple (x.get h1) rfl rfl r⟩
 ·intro _;exact⟨_,.nil⟩
 ·intro v d H ds _ _ i1 cM hf;rw[A5,kJ]at hf;exact(i1 hf.1).elim fun a r=>(cM hf.2).elim fun b r'=>⟨_,.cons r r'⟩
theorem Rv (x:Sub Z h) (bL:au Z H ds):iy ds=true→∃as,ReadsAll h H (fJ ds) as:=by
 refine bL.ind (P:=fun H ds=>iy ds=true→∃as,ReadsAll h H (fJ ds) as) ?_ ?_
 ·intro _;exact⟨_,.nil⟩
 ·intro v d H ds i1 _ cM hf;rw[A5,kJ]at hf;exact(xR x i1 hf.1).elim fun a r=>(cM hf.2).elim fun b r'=>⟨_,.cons r r'⟩
section
variable {c:ah} {k:Nat} {O:XV} {Y:B} {Sc:D→B→Prop}
theorem Rs.Ky (h₁:jw d₁=true) (h₂:jw d₂=true) (s₁:PySem.SeqAt.shaped (pd d₁)=true) (s₂:PySem.SeqAt.shaped (pd d₂)=true):Rs c k O Y (compareOp .NotEq) d₁ d₂ (.val (.bool (!PyData.eqv (pd d₁) (pd d₂)))):=by
 intro A V s Z bg bK ok r EQ t₂ Q E g;refine aO (xR r.sub EQ h₁) fun J r₁=>?_;refine aO (xR r.sub t₂ h₂) fun J r₂=>?_;exact PySem.SeqAt.compareNe_shaped r₁ r₂ s₁ s₂ (by have:=ok.units;show A.units+64<9900;exact Dl this (by decide)) (kF g r.top r.sub (.val _))
theorem Rs.VO (hs:aK c O Y d l) (hx:jw x=true) (hl:iy l=true) (cR:PySem.SeqAt.shaped (pd x)=true) (bS:PyData.canLayAll0 (fJ l)=true):Rs c k O Y (compareOp .In) x d (.val (.bool ((fJ l).any fun y=>PyData.eqv y (pd x)))):=by
 intro A V s Z bg bK ok r EQ t₂ Q E g;obtain⟨_,r₁⟩:=xR r.sub EQ hx;refine dS (hs _ V Z bK r t₂) fun a H n s4 hg FS=>?_;subst s4;obtain⟨_,r₂⟩:=Rv r.sub FS hl;have hd:=PL cR;refine PySem.SeqAt.in_list_reads (.list hg rfl rfl r₂) r₁ bS (HH cR) ?_ (kF g r.top r.sub (.val _));have:=ok.units;show A.units+1+min (PyData.depthAll (fJ l)) (pd x).depth<9900;exact Rw hd this
theorem Rs.K7 (hs:aK c O Y d l) (hx:jw x=true) (hl:iy l=true) (cR:PySem.SeqAt.shaped (pd x)=true) (bS:PyData.canLayAll0 (fJ l)=true):Rs c k O Y (compareOp .NotIn) x d (.val (.bool (!(fJ l).any fun y=>PyData.eqv y (pd x)))):=by
 intro A V s Z bg bK ok r EQ t₂ Q E g;obtain⟨_,r₁⟩:=xR r.sub EQ hx;refine dS (hs _ V Z bK r t₂) fun a H n s4 hg FS=>?_;subst s4;obtain⟨_,r₂⟩:=Rv r.sub FS hl;have hd:=PL cR;refine PySem.SeqAt.notIn_list_reads (.list hg rfl rfl r₂) r₁ bS (HH cR) ?_ (kF g r.top r.sub (.val _));have:=ok.units;show A.units+1+min (PyData.depthAll (fJ l)) (pd x).depth<9900;exact Rw hd this
end
end
section
open PySem.W
theorem OA (x) (ps) (st) (hm:Short m st.nodes):(fN st x ps).ready=st.ready∧(fN st x ps).nodes.length≤st.nodes.length+1+ps.length∧Short (m+ps.length) (fN st x ps).nodes:=by
 have main:∀(ps:List Str) (s:St) (m:Nat),Short m s.nodes→(ps.foldl (fun s p=>jt (dw s p) p x) s).ready=s.ready∧(ps.foldl (fun s p=>jt (dw s p) p x) s).nodes.length≤s.nodes.length+ps.length∧Short (m+ps.length) (ps.foldl (fun s p=>jt (dw s p) p x) s).nodes:=by
  intro ps
  induction ps with
  |nil=>intro s m h;exact⟨rfl,aH _,h⟩
  |cons p ps ih=>
   intro s m h;have h1:=BW s p;have h2:=LS (dw s p) p x;refine b4 (ih (jt (dw s p) p x) (m+1) (M_ (z5 h p) p x)) fun i1 cM fh=>?_;refine⟨i1.trans (h2.1.trans h1.1),?_,?_⟩
   ·refine U bU (U kQ ?_);exact OX cM h2.2 h1.2
   ·refine U bU (U (wV m ps.length).symm ?_);exact fh
 have h1:=BW st x;have h2:=PU (dw st x) x ps.length;refine b4 (main ps (lG (dw st x) x ps.length) m (K_ (z5 hm x) x _)) fun i1 cM fh=>?_;refine⟨i1.trans (h2.1.trans h1.1),?_,fh⟩;unfold fN;exact Ev cM (mD (Ev (bT h2.2) h1.2) _)
section
variable {c:ah} {k:Nat} {O:XV} {Y:B}
theorem xq:∀l:List Str,fJ (ww l)=l.map .str:=fun k8=>by
 induction k8 with
 |nil=>exact by show fJ []=[];exact U BQ rfl
 |cons x l lZ=>exact by show fJ (.str x::ww l)=_;rw[F7,(lZ),C4];rfl
theorem BC:∀l:List Str,iy (ww l)=true:=fun k8=>by
 induction k8 with
 |nil=>exact by show iy []=true;exact U Pc rfl
 |cons x l lZ=>exact by show iy (.str x::ww l)=true;rw[A5,(lZ),V6];rfl
theorem yW:∀l:List Str,(∀x∈l,PyData.strOk x=true)→PyData.canLayAll0 (l.map .str)=true
 |[],_=>by rfl
 |x::l,h=>by
  have:=yW l fun y No=>h y (.tail _ No);simp only[aJ,PyData.canLayAll0,this,vM];exact h x (.head _)
theorem HK (x):∀l:List Str,((fJ (ww l)).any fun y=>PyData.eqv y (pd (.str x)))=l.contains x
 |[]=>by rw[xq];rfl
 |a::l=>by
  have ih:=HK x l;rw[xq]at ih⊢;rw[aJ,Ew,List.contains_cons,ih,C4];congr 1;show(a==x)=(x==a);rw[o5,kX,kX];exact eq_comm
theorem Rs.EB (hs:aK c O Y d (ww l)) (hx:PyData.strOk x=true) (hl:∀y∈l,PyData.strOk y=true):Rs c k O Y (compareOp .In) (.str x) d (.val (.bool (l.contains x))):=by
 have h:=Rs.VO (c:=c) (k:=k) (O:=O) (Y:=Y) (x:=.str x) hs rfl (BC l) (by rw[C4];unfold PySem.SeqAt.shaped;rw[kJ];exact⟨hx,by rfl⟩) (by rw[xq];exact yW l hl);rw[HK]at h;exact h
end
noncomputable def mY (G:List (Str×Str)) (ws:List (Str×List Str)):St:=
 G.foldl (fun s p=>fN s p.1 ((G.map Prod.fst).filter fun one=>((j5 ws p.2).getD []).contains one)) (G.foldl (fun s p=>fN s p.1 []) sM)
theorem TL (P:Params):specialIn (KF P) (.ref 87) "__get__" =some (some (.builtin "function.__get__")):=by kernel_rfl
theorem aa0 (P:Params):takesIn (KF P) (.ref 87)=some false:=by kernel_rfl
theorem FnAt.there {c:ah} {f:Addr} {st:Stmt} {q:Str} {dV:Value} (h:FnAt c f st q dV):∃o fd,c.H0.get? f=some o∧o.data= .func fd:=dS h.obj fun o J J h1 h2 J=>⟨o,_,h1,h2⟩
noncomputable abbrev Oq (G:List (Str×Str)) (W S:Addr) (bR bM:Option D):XV:=[⟨"left",.loc,some (.list (G.map pair))⟩,⟨"ways",.aL,some (.val (.ref W))⟩,⟨"sorter",.loc,some (.val (.ref S))⟩,⟨"start",.loc,bR⟩,⟨"goal",.aL,bM⟩,⟨"TopologicalSorter",.bw,some (.val (.ref 137))⟩]
inductive Nb (G:List (Str×Str)) (W S:Addr) (s₁:St) (aI:B) (aD:List D) (O:XV) (I:B):Prop
 |mk (ay:List (Str×Str)) (s:St) (y:Lay) (bR bM:Option D):(aD=ay.map pair)→(bH I S y s)→(bI [] aI (y.foot S) I)→(s.ready=none)→(s.nodes.length+ay.length≤G.length)→(Short 0 s.nodes)→(ay.foldl (fun s p=>fN s p.1 []) s=s₁)→(O=Oq G W S bR bM)→Nb G W S s₁ aI aD O I
inductive N6 (G:List (Str×Str)) (ws:List (Str×List Str)) (W S:Addr) (s₂:St) (aI:B) (aD:List D) (O:XV) (I:B):Prop
 |mk (ay:List (Str×Str)) (s:St) (y:Lay) (bR bM:Option D) (m:Nat):(aD=ay.map pair)→(bH I S y s)→(bI [] aI (y.foot S) I)→(s.ready=none)→(s.nodes.length+ay.length*11≤G.length*12)→(Short m s.nodes)→(m+ay.length*10≤G.length*10)→(ay.foldl (fun s p=>fN s p.1 ((G.map Prod.fst).filter fun one=>((j5 ws p.2).getD []).contains one)) s=s₂)→((∀p∈ay,p∈G))→(O=Oq G W S bR bM)→N6 G ws W S s₂ aI aD O I
theorem adL (t:aT c) (hl:G.length≤10) (hok:∀x∈G,PyData.strOk x.1=true∧PyData.strOk x.2=true) (hw:sq aI W ws)
 (hg:∀x∈G,∃l,j5 ws x.2=some l∧l.length≤1000∧∀y∈l,PyData.strOk y=true):
 cu c (k+5) (.ref 283) [.list (G.map pair),.val (.ref W)] aI (fun d I=>∃S y,d= .val (.ref S)∧bH I S y (mY G ws)∧bI [] aI (y.foot S) I):=by
 refine cu.fn (st:=bF 29) (qual:="_law_told") (dV:=.none) (ps:=[("left",.loc),("ways",.aL)]) (ls:=[("sorter",.loc),("start",.loc),("goal",.aL)]) (gs:=[("TopologicalSorter",.ref 137)]) (t.fn rfl rfl rfl rfl) (by kd_p) (bB (t.glob (by kd_p)) cG) rfl (fun J J=>.plain rfl (sr fun J J=>rfl)) ?_;intro bN;replace t:=t.at (L:=bN);generalize c.at bN=c at t⊢
 kst_p
 have hh:=t.hd;refine wE.cons (FM.iG (aE.afr (k:=k+2) t (by kd_p) fun S W9 gm h₁ Hg=>⟨_,by kd_in,?_⟩));generalize Oa:G.foldl (fun s p=>fN s p.1 []) sM=s₁;refine wE.cons (FM.for hh gG (items:=G.map pair) (bA.list (by kd_p)) (Nb G W S s₁ aI)
  ⟨G,sM,W9,none,none,rfl,h₁,Hg,rfl,by simp[sM],fun n M2=>(nomatch M2),Oa,rfl⟩ (fun J J J J=>trivial) ?_ ?_)
 ·intro d rest NE I Go;obtain⟨ay,s,y,bR,bM,bE,hs,ol,hr,cK,hsh,gS,rfl⟩:=Go;rcases ay with _|⟨x,ay⟩
  ·injection bE
  refine Op (jd bE) fun s4 eg=>?_;subst s4 eg;refine bh.tuple (bh.name (by kd_in) (bh.name (by kd_in) ?_));simp only[bU]at cK;refine wE.cons (FM.expr (aE.nO t (by kd_p) hs.inst hs.attrs (by rfl) (jg ..) (Rg ..) (Pw ..) (fM (st:=d7 6 2) (t.fn rfl rfl rfl rfl)) (.cons (by kd_p) .nil (by kd_p)) (c_.mono (cu.r (Tr (k:=k) (ps:=[]) t hs hr (by simp;exact fS (bV ..) cK (Ev hl (by decide))) (hsh.mono (by decide)) (by simp))) ?_)));intro d gK Go;refine Op Go fun Sl SW=>aS SW fun gq c8 tO _=>?_;subst Sl;have hb:=OA x.1 [] s hsh;refine wE.nil ⟨ay,fN s x.1 [],gq,_,_,rfl,c8,ol.trans tO,hb.1.trans hr,?_,hb.2.2,gS,rfl⟩;exact JI hb.2.1 cK
 intro NE jW Go;obtain⟨ay,s,y,bR,bM,bE,hs,ol,hr,cK,hsh,gS,rfl⟩:=Go;rcases ay with _|⟨x,ay⟩
 rotate_left
 ·injection bE
 have rZ:s=s₁:=gS;subst rZ;simp only[gU,Nat.add_zero]at cK;refine wE.nil ?_;generalize Py:G.foldl (fun s p=>fN s p.1 ((G.map Prod.fst).filter fun one=>((j5 ws p.2).getD []).contains one)) s=s₂;have hT:mY G ws=s₂:=by unfold mY;exact U Oa (U Py rfl)
 refine U hT ?_;refine wE.cons (FM.for hh gG (items:=G.map pair) (bA.list (by kd_p)) (N6 G ws W S s₂ aI)
  ⟨G,s,y,bR,bM,0,rfl,hs,ol,hr,Vo cK,hsh,bT (DI _),Py,fun J h=>h,rfl⟩ (fun J J J J=>trivial) ?_ ?_)
 ·intro d rest NE I Go;obtain⟨ay,s,y,bR,bM,m,bE,hs,ol,hr,cK,hsh,hm,gS,hsub,rfl⟩:=Go;rcases ay with _|⟨x,ay⟩
  ·injection bE
  refine Op (jd bE) fun s4 eg=>?_;subst s4 eg;refine bh.tuple (bh.name (by kd_in) (bh.name (by kd_in) ?_));simp only[bU]at cK hm;refine aS (hg x (hsub x (.head _))) fun wl sQ afM S_=>?_;have dI:e8 aI I:=fun a ha=>ol.1 a (by simp) ha;refine wS (hw.keep dI) fun l rL sI=>?_;refine wS (sI.get sQ) fun Fy hdg aU=>?_;have hpl:((G.map Prod.fst).filter fun one=>wl.contains one).length≤10:=by
   refine Ev (ir _ _) ?_;rw[b8];exact hl
  have gg:(ww ((G.map Prod.fst).filter fun one=>wl.contains one)).length≤1000000:=by
   unfold ww;rw[b8];exact Ev ‹_› (by decide)
  refine wE.cons (FM.expr (aE.JY t (by kd_p) hs.inst hs.attrs (by rfl) (jg ..) (Rg ..) (Pw ..) (kB ..) (TL ..) (aa0 ..) (by kd_p) (t.fn (st:=d7 6 2) rfl rfl rfl rfl).there (ab7 (d:=.str x.1) (l:=ww ((G.map Prod.fst).filter fun one=>wl.contains one)) (by kd_p) (f8.l_ hh gG (caps:=[("ways",.val (.ref W)),("goal",.str x.2)]) (gs:=[]) (ts:=[("one",.loc),("other",.loc)]) (items:=G.map pair) (out:=ww ((G.map Prod.fst).filter fun one=>wl.contains one)) (by intros;rfl) (by dsimp only[List.map];decide+kernel) ?_ cG (bA.list (l:=G.map pair) (by kd_p)) trivial ?_) aK.list gg ?_)))
  ·intro z hz;simp only[aY,d_,gO]at hz;rcases hz with rfl|rfl
   ·exact⟨.aL,.inl rfl,by walk_at "v"⟩
   ·exact⟨.aL,.inl rfl,by walk_at "v"⟩
  ·have e:ww ((G.map Prod.fst).filter fun one=>wl.contains one)=(G.filter fun p=>wl.contains p.1).map fun p=>.str p.1:=by
    unfold ww;refine U EC (U cJ ?_);rfl
   refine U e ?_;refine dO.two (xs:=G) (P:=fun p=>wl.contains p.1) (F:=fun p=>.str p.1) (fun p=>.str p.1) (fun p=>.str p.2) (by kd_p) fun p hp=>?_
   kst_p
   exact⟨eK.one (az.cmp (by kd_p) (f8.sub (by kd_p) (by kd_p) (Rs.tB rL hdg)) (Rs.EB (aK.cell aU) (hok p hp).1 S_)),fun J=>by kd_p⟩
  ·refine eL.mono (ON (k:=k) (ps:=(G.map Prod.fst).filter fun one=>wl.contains one) t hs hr (acN cK hl hpl) (hsh.mono (fS (bV ..) hm (Ev (x9 10 hl) (by decide)))) (by kd_p)) ?_;intro d gK Go;refine Op Go fun YI acM=>aS acM fun gq c8 tO _=>?_;subst YI;have hb:=OA x.1 ((G.map Prod.fst).filter fun one=>wl.contains one) s hsh;have TM:ay.foldl (fun s p=>fN s p.1 ((G.map Prod.fst).filter fun one=>((j5 ws p.2).getD []).contains one)) (fN s x.1 ((G.map Prod.fst).filter fun one=>wl.contains one))=s₂:=by
    refine ZB gS (U kQ (U sQ ?_));rfl
   refine wE.nil ⟨ay,_,gq,_,_,_,rfl,c8,ol.trans tO,hb.1.trans hr,?_,hb.2.2,?_,TM,fun p hp=>hsub p (.tail _ hp),rfl⟩
   ·exact ae5 cK hb.2.1 hpl
   ·exact abR hm hpl
 ·intro NE kg Go;obtain⟨ay,s,y,bR,bM,m,bE,hs,ol,hr,cK,hsh,hm,gS,hsub,rfl⟩:=Go;rcases ay with _|⟨x,ay⟩
  rotate_left
  ·injection bE
  have rZ:s=s₂:=gS;subst rZ;exact wE.nil (wE.cons (FM.ret (d:=.val (.ref S)) (by kd_p) ⟨S,y,rfl,hs,ol⟩))
end
section
open PySem.W
section
variable {c:ah} {k:Nat} {O:XV} {Y:B}
theorem Rs.abM (hs:aK c O Y d (ww l)) (hx:PyData.strOk x=true) (hl:∀y∈l,PyData.strOk y=true):Rs c k O Y (compareOp .NotIn) (.str x) d (.val (.bool (!l.contains x))):=by
 have h:=Rs.K7 (c:=c) (k:=k) (O:=O) (Y:=Y) (x:=.str x) hs rfl (BC l) (by rw[C4];delta PySem.SeqAt.shaped;rw[kJ];exact⟨hx,by rfl⟩) (by rw[xq];exact yW l hl);rw[HK]at h;exact h
theorem NO:∀{H:List Value} {l:List Str},au Z H (ww l)→∀(i:Nat) (y:Value),H[i]?=some y→∃s t,y= .str s t∧l[i]?=some s
 |[],[],_,i,y,h=>by simp at h
 |[],_::_,h,_,_,_=>by cases h
 |_::_,[],h,_,_,_=>by cases h
 |v::H,x::l,h,i,y,No=>by
  change au Z (v::H) (.str x::ww l)at h;cases h with
  |cons h1 h2=>
  rcases i with _|i
  ·simp at No;subst No;cases h1;exact pS _ _ rfl rfl
  ·refine eG (NO h2 i y (by simpa using No)) fun s t e q=>?_;exact pS s t e (by simpa using q)
theorem bZ.abL (hs:aK c O Y d (ww l)) (hx:x∈l) (hb:l.length≤1000000):bZ c k O Y (.builtin "list.index") [d,.str x] (.int (l.idxOf x:Nat)):=by
 intro A V s Z H ok r h Q E g;refine fB (m8 h) fun bg bK s4 h₁ h₂=>?_;subst s4;refine dS (hs _ V Z bg r h₁) fun a its n s4 hg FS=>?_;subst s4;refine h₂.s fun _=>?_;rename_i tk;have e1:its.size=l.length:=by refine ZB gB (U FS.length ?_);simp[ww]
 have bJ:l.idxOf x<l.length:=JK hx;have at_:∀i (hi:i<its.size),∃s t,its[i]= .str s t∧l[i]?=some s:=fun i hi=>NO FS i its[i] (by simp[hi])
 refine xA Qx ⟨_,hg,rfl⟩ PySem.F.entry_list_index (PySem.F.args_list_index_2 _ _) (PySem.MeetsSeq.list_index a its n (.str x tk) (fun y=>match y with| .str s _=>s==x|_=>false) (fun y No=>?_) (l.idxOf x) (k7 bJ e1.symm) (Us bJ hb) ?_ fun m hm aeb=>?_) ⟨hg,gV g r.top r.sub (.int _ _) (b7 _)⟩
 ·obtain⟨i,hi,rfl⟩:=Array.mem_iff_getElem.mp No;refine eG (at_ i hi) fun s' t' e _=>?_;exact U e (eqGives_str _ _ _ _)
 ·refine eG (at_ (l.idxOf x) (k7 bJ e1.symm)) fun s' t' e e'=>?_;refine U e ?_;have:s'=x:=by
   rw[fV bJ]at e';obtain rfl:=bf e';exact Jo bJ
  simp[this]
 ·refine eG (at_ m hm) fun s' t' e e'=>?_;refine U e ?_;have:s'≠x:=by
   rintro rfl;refine aO (lq.mp e') fun h1 h2=>?_;have:=List.not_of_lt_findIdx (p:=fun y=>y==s') (xs:=l) (i:=m) aeb;rw[h2]at this;simp at this
  simp[this]
theorem f8.index (xz:f8 c k O Y o d) (hs:aK c O Y d (ww l)) (he:f8 c k O Y e (.str x)) (hx:x∈l) (hb:l.length≤1000000)
 (fH:∀V,attributeBase o "index" V (eval o V)=eval o V:=by kd_p) (hst:∀V,starEach [e] V=[(false,eval e V)]:=by kd_p)
 (fY:(c5.endLine==pos.line)=true:=by rfl):f8 c k O Y (.Call (.Attribute o "index" c5) [e] [] pos) (.int (l.idxOf x:Nat)):=
 f8.m6 xz (kc.seq hs) PySem.F.plainAttrs_list Qx PySem.F.type_list_index (.cons he .nil hst) (bZ.abL hs hx hb) fH (fun V=>by rw[hst];rfl) (fun V=>by rw[hst];rfl) fY
end
noncomputable def aQ (G:List (Str×Str)) (s:Str):List Str:=(G.filter fun p=>cA s p.2).map Prod.fst
noncomputable def jx (G:List (Str×Str)):Nat→List Str→List Str
 |0,al=>al
 |n+1,al=>jx G n (al.filter fun one=>!((aQ G one).filter fun two=>al.contains two).isEmpty)
theorem afI (G n al):jx G (n+1) al=jx G n (al.filter fun one=>!((aQ G one).filter fun two=>al.contains two).isEmpty):=rfl
noncomputable def sJ (G:List (Str×Str)) (al:List Str):Nat→List Str→Option (List Str)
 |0,_=>none
 |f+1,w=>
  let x:=w.getLastD Str.empty
  if w.dropLast.contains x then some (w.drop (w.idxOf x))
  else match(aQ G x).filter fun two=>al.contains two with
   |[]=>none
   |y::_=>sJ G al f (w++[y])
theorem Gf (G al f w):sJ G al (f+1) w=if w.dropLast.contains (w.getLastD Str.empty)then some (w.drop (w.idxOf (w.getLastD Str.empty)))else match(aQ G (w.getLastD Str.empty)).filter fun two=>al.contains two with|[]=>none|y::_=>sJ G al f (w++[y]):=rfl
noncomputable def vL (G:List (Str×Str)):Option (Option (List Str)):=
 match jx G G.length (G.map Prod.fst)with
 |[]=>some none
 |a::al=>(sJ G (a::al) (G.length+1) [a]).map some
theorem Jh {g:Str→D}:∀{G:List (Str×Str)},s∈G.map Prod.fst→cI (G.map fun p=>(p.1,g p.1)) s=some (g s)
 |[],h=>by cases h
 |p::G,h=>by
  delta cI;rw[aJ,qu];by_cases q:p.1=s
  ·simp[q]
  ·simp only[q,uL];rw[aJ]at h;exact Jh ((aY.mp h).resolve_left fun e=>q e.symm)
theorem xK (h:y∈aQ G s):y∈G.map Prod.fst:=by
 refine wS (ao.mp h) fun p hp s4=>?_;subst s4;exact cz (cB.mp hp).1
noncomputable abbrev Jp (G:List (Str×Str)) (P:Addr) (bR bM d8 cT dB:Option D):XV:=[⟨"left",.loc,some (.list (G.map pair))⟩,⟨"steps",.aL,some (.val (.ref P))⟩,⟨"start",.aL,bR⟩,⟨"aim",.loc,bM⟩,⟨"alive",.aL,d8⟩,⟨"turn",.loc,cT⟩,⟨"walk",.loc,dB⟩,
 ⟨"range",.bw,some (.val (.type "range"))⟩,⟨"len",.bw,some (.val (.builtin "len"))⟩]
section
variable {c:ah} {k:Nat}
inductive PJ (G:List (Str×Str)) (P:Addr) (aI:B) (aD:List D) (O:XV) (I:B):Prop
 |mk (done ay:List (Str×Str)) (bR bM:Option D):(aD=ay.map pair)→(G=done++ay)→(I=aI.put P (some (.dict (done.map fun p=>(p.1,.list (ww (aQ G p.1)))))))→(O=Jp G P bR bM none none none)→PJ G P aI aD O I
inductive KY (G:List (Str×Str)) (P:Addr) (bR bM:Option D) (gm:B) (aD:List D) (O:XV) (Y:B):Prop
 |mk (n:Nat) (i:Int) (al:List Str) (cT:Option D):(aD=intsFrom i n)→(jx G n al=jx G G.length (G.map Prod.fst))→((∀x∈al,x∈G.map Prod.fst))→(al.length≤10)→(Y=gm)→(O=Jp G P bR bM (some (.list (ww al))) cT none)→KY G P bR bM gm aD O Y
inductive KL (G:List (Str×Str)) (P nC:Addr) (bR bM cT:Option D) (ni res:List Str) (I:B) (f:Nat) (O:XV) (Y:B):Prop
 |mk (w:List Str) (x:Str):(sJ G ni f (w++[x])=some res)→((∀z∈w++[x],z∈G.map Prod.fst))→(w.length+f≤11)→(Y=I.put nC (some (.list (ww (w++[x])))))→(O=Jp G P bR bM (some (.list (ww ni))) cT (some (.val (.ref nC))))→KL G P nC bR bM cT ni res I f O Y
theorem Wv (t:aT c) (hl:G.length≤10) (hok:∀x∈G,PyData.strOk x.1=true∧x.1.length≤1000∧x.2.length≤1000) (hnd:(G.map Prod.fst).Nodup) (hr:vL G=some b):
 wE c (k+1) (vars [("left",.loc)] [.list (G.map pair)] [("steps",.aL),("start",.aL),("aim",.loc),("alive",.aL),("turn",.loc),("walk",.loc)] [("range",.type "range"),("len",.builtin "len")]) aI (gJ (bF 30))
  (ux fun d I=>d=mZ b∧e8 aI I):=by
 kst_p
 have hh:=t.hd;refine wE.cons (FM.iG (aE.newDict fun P lC=>⟨_,by kd_in,?_⟩));refine wE.cons (FM.for hh gG (items:=G.map pair) (bA.list (by kd_p)) (PJ G P aI)
  ⟨[],G,none,none,rfl,rfl,rfl,rfl⟩ (fun J J J J=>trivial) ?_ ?_)
 ·intro d rest NE I Go;obtain⟨done,ay,bR,bM,bE,iH,rfl,rfl⟩:=Go;rcases ay with _|⟨x,ay⟩
  ·injection bE
  refine Op (jd bE) fun s4 eg=>?_;subst s4 eg;refine bh.tuple (bh.name (by kd_in) (bh.name (by kd_in) ?_));have hx:x∈G:=by refine U iH ?_;simp
  refine wE.cons (FM.zm (.nH (d:=.list (ww (aQ G x.1))) (f8.l_ hh gG (caps:=[("start",.str x.1)]) (gs:=[("_law_meets",.ref 266)]) (ts:=[("one",.loc),("goal",.loc)]) (items:=G.map pair) (out:=ww (aQ G x.1)) (by intros;rfl) (by dsimp only[List.map];decide+kernel) ?_ (bB (t.glob (by kd_p)) cG) (bA.list (l:=G.map pair) (by kd_p)) trivial ?_) ⟨by kd_p,by kd_p,_,B.ai ..,?_,?_⟩))
  ·intro z hz;simp only[aY,d_,gO]at hz;rcases hz with rfl;exact⟨.aL,.inl rfl,by walk_at "v"⟩
  ·have e:ww (aQ G x.1)=(G.filter fun p=>cA x.1 p.2).map fun p=>.str p.1:=by
    delta aQ ww;refine U cJ ?_;rfl
   refine U e ?_;refine dO.two (xs:=G) (P:=fun p=>cA x.1 p.2) (F:=fun p=>.str p.1) (fun p=>.str p.1) (fun p=>.str p.2) (by kd_p) fun p hp=>?_
   kst_p
   exact⟨eK.one (az.plain (f8.call (by kd_p) (fM (st:=bF 26) (t.fn rfl rfl rfl rfl)) (.cons (by kd_p) (.cons (by kd_p) .nil (by kd_p)) (by kd_p)) (cg.r (GO (k:=k) (t.fn rfl rfl rfl rfl) (hok x hx).2.1 (hok p hp).2.2)) (by kd_p)) di.bool),fun J=>by kd_p⟩
  ·have:=cN List.length iH;simp at this⊢;exact fS (bV ..) (bT this.symm) (Ev hl (by decide))
  ·have yT:x.1∉(done.map fun p=>((p.1,.list (ww (aQ G p.1))):Str×D)).map Prod.fst:=by
    refine U cJ ?_;rw[iH,gA,aJ,jY]at hnd;intro hm;refine wS (ao.mp hm) fun p hp e=>?_;exact hnd.2.2 p.1 (cz hp) x.1 (.head _) e
   refine U (Ci yT) (U B.mq ?_);exact wE.nil ⟨done++[x],ay,_,_,rfl,by refine U iH ?_;simp,by simp,rfl⟩
 intro NE I Go;obtain⟨done,ay,bR,bM,bE,iH,rfl,rfl⟩:=Go;rcases ay with _|⟨x,ay⟩
 rotate_left
 ·injection bE
 rw[fQ]at iH;subst iH;refine wE.nil ?_;have AL:(aI.put P (some (.dict (G.map fun p=>(p.1,.list (ww (aQ G p.1))))))) P=some (.dict (G.map fun p=>(p.1,.list (ww (aQ G p.1))))):=B.ai ..;have g8:e8 aI (aI.put P (some (.dict (G.map fun p=>(p.1,.list (ww (aQ G p.1))))))):=e8.put lC _;generalize aI.put P (some (.dict (G.map fun p=>(p.1,.list (ww (aQ G p.1))))))=gm at AL g8⊢;have hS:∀x∈G.map Prod.fst,PyData.strOk x=true:=fun x hx=>by
  refine wS (ao.mp hx) fun p hp s4=>?_;subst s4;exact(hok p hp).1
 have BX:∀x,(aQ G x).length≤10:=fun x=>by
  delta aQ;rw[b8];exact Ev (ir _ _) hl
 refine wE.cons (FM.nV hh gG (caps:=[]) (gs:=[]) (ts:=[("start",.loc),("goal",.loc)]) (out:=ww (G.map Prod.fst)) (by intros;rfl) (by kd_p) (by simp) cG (bA.list (l:=G.map pair) (by kd_p)) trivial (by
  have e:ww (G.map Prod.fst)=(G.filter fun J=>true).map fun p=>.str p.1:=by
   refine U (kW.mpr (fun J J=>rfl)) ?_;delta ww;refine U cJ ?_;rfl
  refine U e ?_;exact dO.two (xs:=G) (P:=fun J=>true) (F:=fun p=>.str p.1) (fun p=>.str p.1) (fun p=>.str p.2) (by kd_p) fun p hp=>⟨eK.nil,fun J=>by kd_p⟩) (by kd_in) ?_)
 refine wE.cons (FM.for hh tH (items:=intsFrom 0 G.length) (bA.range (by kd_p) ?_ (by kd_p)) (KY G P bR bM gm)
  ⟨G.length,0,G.map Prod.fst,none,rfl,rfl,fun J h=>h,by simpa using hl,rfl,rfl⟩ (fun J J J J=>trivial) ?_ ?_)
 ·exact ZB (show(G.map pair).length=G.length by simp) (f8.len (by kd_p) (by kd_p) aK.list (by simp;exact Ev hl (by decide)))
 ·intro d rest NE I Go;obtain⟨n,i,al,cT,bE,oS,hsub,gX,rfl,rfl⟩:=Go;rcases n with _|n
  ·injection bE
  refine Op (jd bE) fun s4 eg=>?_;subst s4 eg;refine bh.name (by kd_in) ?_;refine wE.cons (FM.nV hh gG (caps:=[("alive",.list (ww al)),("steps",.val (.ref P))]) (gs:=[]) (ts:=[("one",.loc)]) (out:=ww (al.filter fun one=>!((aQ G one).filter fun two=>al.contains two).isEmpty)) (by intros;rfl) (by dsimp only[List.map];decide+kernel) (by
   intro z hz;simp only[aY,d_,gO]at hz;rcases hz with rfl|rfl
   ·exact⟨.aL,.inl rfl,by walk_at "v"⟩
   ·exact⟨.aL,.inl rfl,by walk_at "v"⟩) cG (bA.list (l:=ww al) (by kd_p)) trivial (dO.one (xs:=al) (P:=fun one=>!((aQ G one).filter fun two=>al.contains two).isEmpty) (F:=.str) .str (by kd_p) fun x hx=>?_) (by kd_in) ?_)
  ·kst_p
   refine⟨eK.one ((az.plain (d:=.list (ww ((aQ G x).filter fun two=>al.contains two))) (f8.l_ hh gG (caps:=[("alive",.list (ww al))]) (gs:=[]) (ts:=[("two",.loc)]) (items:=ww (aQ G x)) (by intros;rfl) (by dsimp only[List.map];decide+kernel) (by
    intro z hz;simp only[aY,d_,gO]at hz;rcases hz with rfl;exact⟨.gn,.inr rfl,by walk_at "v"⟩) cG (bA.list (l:=ww (aQ G x)) (f8.sub (by kd_p) (by kd_p) (Rs.tB AL (Jh (g:=fun s=>.list (ww (aQ G s))) (hsub x hx))))) trivial (dO.one (xs:=aQ G x) (P:=fun two=>al.contains two) (F:=.str) .str (Ev (BX x) (by decide)) fun y No=>?_)) (di.list ?_)).to (by simp[ww])),fun J=>by kd_p⟩
   ·kst_p
    exact⟨eK.one (az.cmp (by kd_p) (by kd_p) (Rs.EB aK.list (hS y (xK No)) fun z hz=>hS z (hsub z hz))),fun J=>by kd_p⟩
   ·have h1:=ir (fun two=>al.contains two) (aQ G x);have h2:=BX x;delta ww;rw[b8];exact fS h1 h2 (by decide)
  ·refine wE.nil ⟨n,i+1,_,_,rfl,oS,fun z hz=>hsub z (cB.mp hz).1,Ev (ir _ _) gX,rfl,rfl⟩
 intro NE I Go;obtain⟨n,i,al,cT,bE,oS,hsub,gX,rfl,rfl⟩:=Go;rcases n with _|n
 rotate_left
 ·injection bE
 have WT:al=jx G G.length (G.map Prod.fst):=oS;refine wE.nil ?_;delta vL at hr;rw[←WT]at hr;refine wE.cons (FM.ifs (b:=al.isEmpty) ((az.not (az.plain (by kd_p) (di.list (by simp[ww];exact Ev gX (by decide))))).to (by cases al<;>rfl)) (fun he=>?_) (fun he=>wE.nil ?_))
 ·rcases al with _|⟨a,al⟩
  rotate_left
  ·injection he
  obtain rfl:=bf hr;exact wE.cons (FM.ret (d:=.val .none) (by kd_p) ⟨rfl,g8⟩)
 rcases al with _|⟨a,al⟩
 ·injection he
 dsimp only at hr⊢;obtain⟨res,DP,rfl⟩:∃res,sJ G (a::al) (G.length+1) [a]=some res∧b=some res:=by
  refine wS (GQ.mp hr) fun res h1 h2=>?_;exact⟨res,h1,h2.symm⟩
 generalize ha:a::al=ni at DP hsub gX⊢;refine wE.cons (FM.iG (aE.newList (ds:=[.str a]) (.cons (f8.sub (d₁:=.list (ww ni)) (d₂:=.int 0) (by kd_p) (by kd_p) (Rs.item aK.list (by decide) (by refine ZB ha ?_;rfl) (by simp[ww];exact Ev gX (by decide)))) .nil (by kd_p)) (by simp) fun nC EE=>⟨_,by kd_in,?_⟩));have VL:P≠nC:=by rintro rfl;rw[AL]at EE;injection EE
 have afw:a∈G.map Prod.fst:=hsub a (by refine ZB ha ?_;simp);refine wE.cons (FM.while (KL G P nC bR bM cT ni res I)
  (G.length+1) ⟨[],a,DP,by simpa using afw,by simp;assumption,rfl,rfl⟩ ?_)
 intro f NE gK Go;obtain⟨w,x,pI,uw,sQ,rfl,rfl⟩:=Go;rcases f with _|f
 ·injection pI
 rw[Gf]at pI;rw[Gq,AB]at pI;have sd:(I.put nC (some (.list (ww (w++[x]))))) nC=some (.list (ww (w++[x]))):=B.ai ..;have B0:(I.put nC (some (.list (ww (w++[x]))))) nC=some (.list (ww w++[.str x])):=by rw[sd,uH]
 have UC:(I.put nC (some (.list (ww (w++[x]))))) P=some (.dict (G.map fun p=>(p.1,.list (ww (aQ G p.1))))):=(B.aa _ _ VL).trans AL;have qI:(ww w++[D.str x]).length=w.length+1:=by simp[ww]
 have Bc:=Ev (jl (gr (e_ f)) w.length) sQ;have Dv:=jX qI Bc (show 11≤1000000 by decide);have E4:(ww w++[D.str x])[(-(1:Int)+((ww w++[D.str x]).length:Nat)).toNat]?=some (.str x):=by
  have:(-(1:Int)+((ww w++[D.str x]).length:Nat)).toNat=(ww w).length:=by
   refine U dR ?_;simp only[bU,gU];exact Ic
  refine U this ?_;simp
 have hx:PyData.strOk x=true:=hS x (uw x (by simp));have gg:lD (ww w++[D.str x]) none (some (-1:Int)) none=ww w:=by
  refine U aaT (U dR ?_);simp
 refine fW (!w.contains x) ?_ (fun a_=>?_) (fun he=>?_)
 ·refine az.cmp (f8.sub (by kd_p) (f8.neg (i:=1) (by kd_p)) (Rs.ve (aK.cell B0) (by decide) (by refine U qI ?_;exact El) E4 Dv)) (d₂:=.list (ww w)) ?_ (Rs.abM aK.list hx fun y No=>hS y (uw y (by simp[No])));exact ZB gg (f8.slice (by kd_p) (aK.cell B0) ff.none (ff.some (f8.neg (i:=1) (by kd_p))) ff.none (by simp) Dv)
 ·have adG:w.contains x=false:=by simpa using a_
  rw[Tk (by refine U adG ?_;simp)]at pI;rcases hfl:(aQ G x).filter fun two=>ni.contains two with _|⟨y,ys⟩
  ·rw[hfl]at pI;injection pI
  rw[hfl]at pI;have agp:(ww ((aQ G x).filter fun two=>ni.contains two)).length≤10:=by
   delta ww;rw[b8];exact Ev (ir _ _) (BX x)
  have adX:y∈G.map Prod.fst:=by
   have:y∈(aQ G x).filter fun two=>ni.contains two:=by refine U hfl ?_;exact .head _
   exact xK (cB.mp this).1
  refine wE.cons (FM.expr (aE.append (d:=.str y) (l:=ww (w++[x])) (by kd_p) (f8.sub (d₁:=.list (ww ((aQ G x).filter fun two=>ni.contains two))) (d₂:=.int 0) (f8.l_ hh gG (caps:=[("alive",.list (ww ni))]) (gs:=[]) (ts:=[("two",.loc)]) (items:=ww (aQ G x)) (by intros;rfl) (by dsimp only[List.map];decide+kernel) (by
   intro z hz;simp only[aY,d_,gO]at hz;rcases hz with rfl;exact⟨.aL,.inl rfl,by walk_at "v"⟩) cG (bA.list (l:=ww (aQ G x)) (f8.sub (d₂:=.str x) (by kd_p) (f8.sub (by kd_p) (f8.neg (i:=1) (by kd_p)) (Rs.ve (aK.cell B0) (by decide) (by refine U qI ?_;exact El) E4 Dv)) (Rs.tB UC (Jh (g:=fun s=>.list (ww (aQ G s))) (uw x (by simp)))))) trivial (dO.one (xs:=aQ G x) (P:=fun two=>ni.contains two) (F:=.str) .str (Ev (BX x) (by decide)) fun y No=>?_)) (by kd_p) (Rs.item aK.list (by decide) (by refine U hfl ?_;rfl) (by kd_p))) sd (by rw[uH,qI];exact Ev Bc (by decide)) ?_))
  ·kst_p
   exact⟨eK.one (az.cmp (by kd_p) (by kd_p) (Rs.EB aK.list (hS y (xK No)) fun z hz=>hS z (hsub z hz))),fun J=>by kd_p⟩
  ·refine wE.nil ⟨f,jy f,w++[x],y,pI,fun z hz=>?_,?_,?_,rfl⟩
   ·rcases b5.mp hz with hz|hz
    ·exact uw z hz
    ·exact U (fq.mp hz) adX
   ·refine U dR ?_;simp only[bU,gU];exact oH sQ
   ·rw[B.mq,←uH]
 ·refine wE.nil ?_;have hc:w.contains x=true:=by simpa using he
  rw[ak hc]at pI;obtain rfl:=bf pI;have hi:(w++[x]).idxOf x≤(ww (w++[x])).length:=by
   rw[uH,qI];have:=Hy (a:=x) (l:=w++[x]);rw[dR]at this;simpa using this
  refine wE.cons (FM.ret (d:=.list (lD (ww (w++[x])) (some ((w++[x]).idxOf x:Nat)) none none)) (f8.slice (by kd_p) (aK.cell sd) (ff.some (f8.index (l:=w++[x]) (x:=x) (by kd_p) (aK.cell sd) (f8.sub (by kd_p) (f8.neg (i:=1) (by kd_p)) (Rs.ve (aK.cell B0) (by decide) (by refine U qI ?_;exact El) E4 Dv)) (by simp) (by simp;exact Ev (gZ Bc) (by decide)))) ff.none ff.none (by simp) (by rw[uH,qI];exact Ev Bc (by decide))) ⟨?_,g8.putN ?_ _⟩)
  ·refine U (Ds hi) ?_;show _=D.list (ww _);delta ww;exact U CW rfl
  ·rcases q:aI nC with _|cl
   ·rfl
   ·have:=g8.some q;rw[EE]at this;injection this
theorem abO (t:aT c) (hl:G.length≤10) (hok:∀x∈G,PyData.strOk x.1=true∧x.1.length≤1000∧x.2.length≤1000) (hnd:(G.map Prod.fst).Nodup) (hr:vL G=some b):
 cu c (k+2) (.ref 288) [.list (G.map pair)] aI (fun d I=>d=mZ b∧e8 aI I):=by
 exact cu.fn (st:=bF 30) (qual:="_law_ring") (dV:=.none) (t.fn rfl rfl rfl rfl) (by kd_p)
  (bB (t.dh (by kd_p) (by kd_p) (by decide)) (bB (t.dh (by kd_p) (by kd_p) (by decide)) cG)) rfl (fun J J=>.plain rfl (iZ fun J=>rfl)) fun bN A V s bs Z ok w Q E q=>Wv (t.at (L:=bN)) hl hok hnd hr A V s bs Z ok w Q E fun fZ f s' Z' r cP dz hp=>q fZ f s' Z' r cP dz (by cases fZ<;>first|exact hp|exact hp.elim)
end
end
section
open PySem.W
inductive GR (L:Addr) (l:List D) (Z:TW) (aD:List D) (it:Addr):Objs→Prop
 |mk (o:Obj) (i:Nat):o.cls= .type "list_iterator"→o.data= .fields #[.ref L,.int i 0]→aD=l.drop i→GR L l Z aD it [(it,o)]
theorem aeX:qT c (GR L l) (fun Y=>Y L=some (.list l)) where
 mono:=fun J ⟨o,i,h2,h3,h4⟩=>⟨o,i,h2,h3,h4⟩
 rows:=fun⟨o,i,h2,h3,h4⟩=>xg h2 (by decide) h3
 iter:=by
  intro A s Z it os aD Q E st Go q;obtain⟨o,i,h2,h3,h4⟩:=Go;exact wpAny_pyIter_listiter ⟨o,cL.mp st,h2,h3⟩ q
 go:=by
  intro A s Z it os aD v bk Q E _ sub top cH st Go q;obtain⟨o,i,h2,h3,h4⟩:=Go;exact we (cL.mp st) h2 h3 (by decide) (q s _ (.id top sub) rfl st ⟨o,i,h2,h3,h4⟩)
 next:=by
  intro A V s Z O Y it os d aD Q E hh r src cH st Go q;obtain⟨o,i,h2,h3,h4⟩:=Go;refine eG (q3 r src) fun H n hg FS=>?_;have hd:l[i]?=some d:=by rw[←Cg,←h4];rfl
  refine wS (getL FS hd) fun v s5 tv=>?_;refine Dd ⟨o,cL.mp st,h2,h3⟩ ⟨_,hg,rfl,n,rfl⟩ s5 fun h' aar av=>aS aar fun o' bG i6 hd'=>?_;exact q v {s with heap:=h'} Z [(it,o')] (dG.same r.top r.sub (cH _ (.head _)) av (.head _) (aH _) ⟨o,_,cL.mp st,h3⟩) rfl (cL.mpr bG) ⟨o',i+1,i6,hd',by refine ZB Dw (ZB h4 ?_);rfl⟩ tv
 fin:=by
  intro A V s Z O Y it os Q E hh r src cH st Go q;obtain⟨o,i,h2,h3,h4⟩:=Go;refine eG (q3 r src) fun H n hg FS=>?_;have hi:H[i]?=none:=by
   rw[←vX,lP,FS.length];exact IG.mp h4.symm
  exact g9 (Gp hh ⟨o,cL.mp st,h2,h3⟩ ⟨_,hg,rfl,n,rfl⟩ hi fun h' x u=>q _ Z (dG.ext' r.top r.sub (cH _ (.head _)) x (.head _) u ⟨o,_,cL.mp st,h3⟩))
theorem bA.cell (he:f8 c k O Y e (.val (.ref L))) (aU:Y L=some (.list l)):bA c k O Y e (GR L l) l:=by
 intro A V s Z ok r Q E q;refine he A V s Z ok r _ E fun v s₁ aC EQ s5=>?_;refine s5.v ?_;refine eG (q3 (r.step EQ) aU) fun H n hg FS=>?_;refine wJ ⟨_,hg,rfl,n,rfl⟩ ?_;have st:=EQ.trans (Step.alloc EQ.top EQ.sub {cls:=.type "list_iterator",data:=.fields #[.ref L,.int 0 0]});refine q _ [(_,_)] _ _ st (cL.mpr (dN _ rfl)) (fun p hp=>?_) ⟨_,0,rfl,rfl,rfl⟩;refine bC hp ?_ fun hp=>?_
 ·exact⟨EQ.grow.1,gC EQ.sub (aH _)⟩
 ·cases hp
section
variable {c:ah} {k:Nat} {O:XV} {Y:B}
theorem UN {S:Addr} {y:Lay} {st:St} {r:List Str} (t:aT c) (h:bH Y S y st) (hr:st.ready=some r) (hz:r.length≤500):
 cu c (k+1) (.ref 106) [.val (.ref S)] Y (fun d I=>d= .val (.bool (decide (st.fin<st.j6)|| !r.isEmpty))∧I=Y):=by
 refine cu.fn (st:=d7 6 5) (qual:="TopologicalSorter.is_active") (dV:=.none) (ps:=[("self",.loc)]) (ls:=[]) (gs:=[("bool",.type "bool")]) (t.fn rfl rfl rfl rfl) (by kd_p) (bB (t.dh (by kd_p) (by kd_p) (by decide)) cG) rfl (fun J J=>.plain rfl (iZ fun J=>rfl)) ?_;intro bN;replace t:=t.at (L:=bN);generalize c.at bN=c at t⊢
 kst_p
 obtain⟨R,bD,pP⟩:∃R,y.rs=[R]∧Y R=some (.list (ww r)):=by have:=h.gI;rw[hr]at this;exact this
 have pW:yz y.rs= .val (.ref R):=by refine U bD ?_;rfl
 have qS:∀{O:XV},b_ c k O Y S "_ready_nodes" (.val (.ref R)):=by
  intro O;refine ZB pW ?_;exact b_.gI t h
 have nD:(ww r).length=r.length:=by simp[ww]
 refine wE.cons (FM.ifs (b:=false) ((az.cmp (f8.ga (by kd_p) qS) (by kd_p) Rs.isNone).to rfl) (fun h=>(by injection h)) fun J=>wE.nil ?_);refine wE.cons (FM.ret (d:=.val (.bool (decide (st.fin<st.j6)|| !r.isEmpty))) (f8.BE (f8.cmp (f8.ga (by kd_p) (b_.fin t h)) (f8.ga (by kd_p) (b_.QF t h)) Rs.aa9) di.bool (fun e=>by refine U e ?_;rfl) (fun e=>?_)) ?_)
 ·rw[e,Bool.false_or];have e2:(!(ww r).isEmpty)=(!r.isEmpty):=by cases r<;>rfl
  exact ZB e2 (f8.call (by kd_p) sS (.cons (f8.ga (by kd_p) qS) .nil (by kd_p)) (bZ.YJ (.cell pP) (jX nD hz (by decide))) (by kd_p))
 ·exact⟨rfl,rfl⟩
noncomputable def nj (st:St) (s:Str):St:=match dZ st.nodes s,st.ready with
 |some m,some r=>{st with nodes:=ee st.nodes s {m with np:=m.np-1},ready:=some (if m.np-1=0 then r++[s]else r)}
 |_,_=>st
noncomputable def kP (st:St) (x:Str):St:=match dZ st.nodes x with
 |some n=>let st':=n.succ.foldl nj {st with nodes:=ee st.nodes x {n with np:= -2}}
  {st' with fin:=st'.fin+1}
 |none=>st
noncomputable def yE:St→List Str→Prop
 |_,[]=>True
 |st,x::xs=>(∃n,dZ st.nodes x=some n∧n.np= -1∧n.succ.length≤500∧∀s∈n.succ,s∈st.nodes.map (fun x=>x.name))∧yE (kP st x) xs
theorem Di:∀{as:List eE} {ns:List bP} {x z:Str} {k m n:bP} {a:eE},dZ ns z=some k→m.name=k.name→m.succ=k.succ→f7 as ns x=some (a,n)→∃gx,f7 as (ee ns z m) x=some (a,gx)∧gx.succ=n.succ
 |[],_,_,_,_,_,_,_,_,_,_,h=>by cases h
 |_::_,[],_,_,_,_,_,_,_,_,_,h=>by cases h
 |b::as,j::ns,x,z,k,m,n,a,h,e1,e2,h'=>by
  rw[m7]at h;rw[tG];rw[mF]at h';by_cases q:j.name=z
  ·rw[ak q]at h⊢;cases h;rw[mF];by_cases q':j.name=x
   ·rw[ak q']at h';cases h';exact⟨m,ak (e1.trans q'),e2⟩
   ·rw[Tk q']at h';exact⟨n,by refine U (Tk (by refine U e1 ?_;exact q')) ?_;exact h',rfl⟩
  ·rw[Tk q]at h⊢;rw[mF];by_cases q':j.name=x
   ·rw[ak q']at h'⊢;exact⟨n,h',rfl⟩
   ·rw[Tk q']at h'⊢;exact Di h e1 e2 h'
theorem f8.VT (xz:f8 c k O Y o (.val (.ref a))) (he:f8 c k O Y e (.str x)) (ha:Y a=some (.dict l)) (hx:Internal.cI l x=some d)
 (fH:∀V,attributeBase o "get" V (eval o V)=eval o V:=by kd_p) (hs:∀V,starEach [e] V=[(false,eval e V)]:=by kd_p)
 (fY:(c5.endLine==pos.line)=true:=by rfl):f8 c k O Y (.Call (.Attribute o "get" c5) [e] [] pos) d:=by
 have:=f8.cI xz he ha fH hs fY;rw[hx]at this;exact this
inductive LX (S:Addr) (y:Lay) (st:St) (xs:List Str) (Y:B) (aD:List D) (O:XV) (I:B):Prop
 |mk (ay:List Str) (s:St) (r':List Str) (bR bM d8 cT dB:Option D):(aD=ww ay)→(bH I S y s)→(bI (y.foot S) Y (y.foot S) I)→(s.ready=some r')→(yE s ay)→(r'.length+500*ay.length≤500+500*xs.length)→(xs.foldl kP st=ay.foldl kP s)→(O=[⟨"self",.loc,some (.val (.ref S))⟩,⟨"nodes",.loc,some (.tup (ww xs))⟩,⟨"n2i",.loc,some (.val (.ref y.N))⟩,⟨"node",.loc,bR⟩,⟨"nodeinfo",.loc,bM⟩,⟨"stat",.loc,d8⟩,⟨"successor",.loc,cT⟩,⟨"successor_info",.loc,dB⟩,⟨"_NODE_OUT",.bw,some (.val (.int (-1) 197))⟩,⟨"_NODE_DONE",.bw,some (.val (.int (-2) 200))⟩])→LX S y st xs Y aD O I
inductive Ou (S:Addr) (y:Lay) (xs:List Str) (x:Str) (a:eE) (n:bP) (s s₂:St) (r':List Str) (Y:B) (aD:List D) (O:XV) (I:B):Prop
 |mk (ay:List Str) (s':St) (jO:List Str) (Af:bP) (cT dB:Option D):(aD=ww ay)→(bH I S y s')→(bI (y.foot S) Y (y.foot S) I)→(s'.ready=some jO)→(jO.length+ay.length≤r'.length+n.succ.length)→(n.succ.foldl nj s₂=ay.foldl nj s')→(f7 y.as s'.nodes x=some (a,Af))→(Af.succ=n.succ)→(s'.nodes.map (fun x=>x.name)=s.nodes.map (fun x=>x.name))→((∀z∈ay,z∈n.succ))→(O=[⟨"self",.loc,some (.val (.ref S))⟩,⟨"nodes",.loc,some (.tup (ww xs))⟩,⟨"n2i",.loc,some (.val (.ref y.N))⟩,⟨"node",.loc,some (.str x)⟩,⟨"nodeinfo",.loc,some (.val (.ref a.i))⟩,⟨"stat",.loc,some (.int n.np)⟩,⟨"successor",.loc,cT⟩,⟨"successor_info",.loc,dB⟩,⟨"_NODE_OUT",.bw,some (.val (.int (-1) 197))⟩,⟨"_NODE_DONE",.bw,some (.val (.int (-2) 200))⟩])→Ou S y xs x a n s s₂ r' Y aD O I
theorem VR {S:Addr} {y:Lay} {st:St} {r:List Str} {xs:List Str} (t:aT c) (h:bH Y S y st) (hr:st.ready=some r) (hx:xs.length≤100) (nD:r.length≤500) (hok:yE st xs):
 eL c (k+1) (.ref 120) (.val (.ref S)::ww xs) Y (fun d I=>d= .val .none∧bH I S y (xs.foldl kP st)∧bI (y.foot S) Y (y.foot S) I):=by
 refine eL.fn (st:=d7 6 7) (qual:="TopologicalSorter.done") (dV:=.none) (ps:=[("self",.loc),("nodes",.loc)]) (ls:=[("n2i",.loc),("node",.loc),("nodeinfo",.loc),("stat",.loc),("successor",.loc),("successor_info",.loc)]) (gs:=[("_NODE_OUT",.int (-1) 197),("_NODE_DONE",.int (-2) 200)]) (ds:=[.val (.ref S),.tup (ww xs)]) (t.fn rfl rfl rfl rfl) (by kd_p) (bB (t.glob (by kd_p)) (bB (t.glob (by kd_p)) cG)) rfl (fun pm cd=>Binds.ZL (by simp[ww];exact Ev ‹_› (by decide)) (Ud pm cd)) ?_;intro bN;replace t:=t.at (L:=bN);generalize c.at bN=c at t⊢
 kst_p
 have hh:=t.hd;obtain⟨R,bD,pP⟩:∃R,y.rs=[R]∧Y R=some (.list (ww r)):=by have:=h.gI;rw[hr]at this;exact this
 have pW:yz y.rs= .val (.ref R):=by refine U bD ?_;rfl
 have qS:∀{O:XV} {I:B} {st':St},bH I S y st'→b_ c k O I S "_ready_nodes" (.val (.ref R)):=by
  intro O I st' h';refine ZB pW ?_;exact b_.gI t h'
 refine wE.cons (FM.ifs (b:=false) ((az.cmp (f8.ga (by kd_p) (qS h)) (by kd_p) Rs.isNone).to rfl) (fun h=>(by injection h)) fun J=>wE.nil ?_);refine wE.cons (FM.assign (d:=.val (.ref y.N)) (f8.ga (by kd_p) (b_.fu t h)) (by kd_in) ?_);refine wE.cons (FM.for hh vU (items:=ww xs) (bA.tup (by kd_p)) (LX S y st xs Y)
  ⟨xs,st,r,_,_,_,_,_,rfl,h,bI.refl _ _,hr,hok,by exact mD ‹_› _,rfl,rfl⟩ (fun J J J J=>trivial) ?_ ?_)
 ·intro d rest NE I Go;obtain⟨ay,s,r',bR,bM,d8,cT,dB,bE,hs,ol,vO,PZ,cK,gS,rfl⟩:=Go;rcases ay with _|⟨x,ay⟩
  ·cases bE
  cases bE;refine Op PZ fun aG Y8=>?_;refine d9 aG fun n M2 GB v8 uK=>?_;refine d9 (hs.dK.find M2) fun a i1 cM fh J=>?_;have hdg:=wU y.as s.nodes x;rw[i1]at hdg;refine bh.name (by kd_in) ?_;refine wE.cons (FM.OL (d:=.val (.ref a.i)) (f8.VT (by kd_p) (by kd_p) hs.fu hdg) (by kd_in) (fun h=>(by injection h)) fun J=>wE.nil ?_);refine wE.cons (FM.assign (d:=.int n.np) (f8.ga (by kd_p) (b_.np t fh)) (by kd_in) ?_);refine wE.cons (FM.ifs (b:=false) ((az.cmp (by kd_p) (f8.ofInt (by kd_p)) Rs.aeJ).to (by refine U GB ?_;rfl)) (fun h=>(by injection h)) fun J=>wE.nil ?_);refine wE.cons (FM.nX (.nH (d:=.int (-2)) (f8.ofInt (by kd_p)) ⟨by kd_p,_,gH.np t fh,?_⟩));have h2:=hs.vf i1 (-2);refine wS (Di (x:=x) (m:={n with np:= -2}) M2 rfl rfl i1) fun gx hf2 Kh=>?_;have kj:=ol.trans (bI.put (Y:=I) (y.yQ S cM).1 (some (.inst 40 a.d [some (.str n.name),some (.int (-2)),some (.val (.ref a.l))])));have afg:ay.foldl kP (kP s x)=xs.foldl kP st:=by refine U gS ?_;rfl
  have vd:kP s x={n.succ.foldl nj {s with nodes:=ee s.nodes x {n with np:= -2}}with fin:=(n.succ.foldl nj {s with nodes:=ee s.nodes x {n with np:= -2}}).fin+1}:=by unfold kP;exact U M2 rfl
  have UO:(ee s.nodes x {n with np:= -2}).map (fun x=>x.name)=s.nodes.map (fun x=>x.name):=vv M2 rfl;have Ib:=h2.dK.at hf2;generalize n5:({s with nodes:=ee s.nodes x {n with np:= -2}}:St)=s₂ at h2 vd;have ZY:f7 y.as s₂.nodes x=some (a,gx):=by refine ZB n5 ?_;exact hf2
  have aeK:s₂.nodes.map (fun x=>x.name)=s.nodes.map (fun x=>x.name):=by refine ZB n5 ?_;exact UO
  have YT:s₂.ready=some r':=by refine ZB n5 ?_;exact vO
  generalize I.put a.i _=jW at h2 kj Ib;refine wE.cons (FM.for hh aeX.c7 (items:=ww n.succ) (bA.cell (L:=a.l) (l:=ww n.succ) (f8.ga (by kd_p) (b_.succ t Ib)) (by refine ZB Kh ?_;exact Ib.2.2)) (Ou S y xs x a n s s₂ r' Y)
   ⟨n.succ,s₂,r',gx,_,_,rfl,h2,kj,YT,aH _,rfl,ZY,Kh,aeK,fun J h=>h,rfl⟩ ?_ ?_ ?_)
  ·intro _ _ kg Go;obtain⟨_,s',_,Af,_,_,_,c8,_,_,_,_,Bp,z_,_⟩:=Go;exact ZB z_ ((c8.dK.at Bp).2.2)
  ·intro d rest NE kg Go;obtain⟨nU,s',jO,Af,cT,dB,bE,c8,tO,vt,yI,rZ,Bp,z_,CK,hsub,rfl⟩:=Go;rcases nU with _|⟨z,nU⟩
   ·cases bE
   cases bE;refine bh.name (by kd_in) ?_;obtain⟨m,hm⟩:=Fp.mpr (show z∈s'.nodes.map (fun x=>x.name) by refine U CK ?_;exact uK z (hsub z (.head _)));refine d9 (c8.dK.find hm) fun b F1 U4 Qy J=>?_;have Qe:=wU y.as s'.nodes z;rw[F1]at Qe;refine wE.cons (FM.assign (d:=.val (.ref b.i)) (f8.sub (by kd_p) (by kd_p) (Rs.tB c8.fu Qe)) (by kd_in) ?_);refine wE.cons (FM.Cs (d₂:=.int 1) (by kd_p) (b_.np t Qy) (by kd_p) Rs.aa4 (gH.np t Qy) ?_);have h4:=c8.vf F1 (m.np-1);refine wS (Di (x:=z) (m:={m with np:=m.np-1}) hm rfl rfl F1) fun m' Mh J=>?_;refine wS (Di (x:=x) (m:={m with np:=m.np-1}) hm rfl rfl Bp) fun n_ zF Qi=>?_;have Ku:(ee s'.nodes z {m with np:=m.np-1}).map (fun x=>x.name)=s'.nodes.map (fun x=>x.name):=vv hm rfl;have rA:=tO.trans (bI.put (Y:=kg) (y.yQ S U4).1 (some (.inst 40 b.d [some (.str m.name),some (.int (m.np-1)),some (.val (.ref b.l))])));have pZ:m'.np=m.np-1:=by
    have e1:=(h4.dK.at Mh).1;rw[B.ai]at e1;simp only[Option.some.injEq,g7.inst.injEq,w4,D.int.injEq,true_and,and_true]at e1;exact e1.2.symm
   have Mj:=h4.dK.at Mh;generalize kg.put b.i _=vz at h4 rA Mj;simp only[bU]at yI cK;have rN:nj s' z={s' with nodes:=ee s'.nodes z {m with np:=m.np-1},ready:=some (if m.np-1=0 then jO++[z]else jO)}:=by unfold nj;exact U hm (U vt rfl)
   refine wE.cons (FM.ifs (b:=m'.np==0) (az.cmp (f8.ga (by kd_p) (b_.np t Mj)) (by kd_p) Rs.P1) (fun h0=>?_) (fun h0=>wE.nil ?_))
   ·rw[pZ]at h0;have zy:m.np-1=0:=by simpa using h0
    have aal:vz R=some (.list (ww jO)):=by
     obtain⟨Qz,gP,lT⟩:∃R,y.rs=[R]∧vz R=some (.list (ww jO)):=by have:=h4.gI;rw[show({s' with nodes:=ee s'.nodes z {m with np:=m.np-1}}:St).ready=some jO from vt]at this;exact this
     rw[bD]at gP;cases gP;exact lT
    refine wE.cons (FM.expr (aE.append (a:=R) (l:=ww jO) (d:=.str z) (f8.ga (by kd_p) (qS h4)) (by kd_p) aal (by simp[ww];exact W2 yI ‹_› cK hx) ?_));refine wE.nil ?_;refine wE.nil ?_;have h5:=h4.QL bD vt (jO++[z]);have iW:ww jO++[D.str z]=ww (jO++[z]):=by simp[ww]
    refine U iW ?_;refine⟨nU,nj s' z,jO++[z],n_,_,_,rfl,?_,rA.trans (bI.put (y.HL S (by refine U bD ?_;simp)) _),by exact U rN (U (ak zy) rfl),by simp;exact oH ‹_›,rZ,by refine U rN ?_;exact zF,Qi.trans z_,by refine U rN ?_;exact Ku.trans CK,fun w hw=>hsub w (.tail _ hw),rfl⟩;refine U rN (U (ak zy) ?_);exact h5
   ·rw[pZ]at h0;have zy:¬m.np-1=0:=by simpa using h0
    refine wE.nil ?_;refine⟨nU,nj s' z,jO,n_,_,_,rfl,?_,rA,by exact U rN (U (Tk zy) rfl),by exact fz ‹_›,rZ,by refine U rN ?_;exact zF,Qi.trans z_,by refine U rN ?_;exact Ku.trans CK,fun w hw=>hsub w (.tail _ hw),rfl⟩;refine U rN (U (Tk zy) ?_);have:({s' with nodes:=ee s'.nodes z {m with np:=m.np-1},ready:=some jO}:St)={s' with nodes:=ee s'.nodes z {m with np:=m.np-1}}:=by exact ZB vt rfl
    exact U this h4
  ·intro NE kg Go;obtain⟨nU,s',jO,Af,cT,dB,bE,c8,tO,vt,yI,rZ,Bp,z_,CK,hsub,rfl⟩:=Go;rcases nU with _|⟨z,nU⟩
   rotate_left
   ·cases bE
   refine wE.nil ?_;refine wE.cons (FM.Cs (d₂:=.int 1) (by kd_p) (b_.fin t c8) (by kd_p) Rs.Gh (gH.attr t c8.inst c8.attrs (sG ..) (rK ..) (q6 (Fx ..)) (kB ..) (by simp[gW])) ?_);refine wE.nil ?_;have h6:=c8.Nf s'.j6 (s'.fin+1);have hd2:kP s x={s' with fin:=s'.fin+1}:=by refine U vd (U rZ ?_);rfl
   simp only[bU,gU]at cK yI;refine⟨ay,kP s x,jO,_,_,_,_,_,rfl,?_,tO.trans (bI.put (y.zY S) _),by refine U hd2 ?_;exact vt,Y8,P8 yI ‹_› cK,afg.symm,rfl⟩;exact U hd2 h6
 ·intro NE I Go;obtain⟨ay,s,r',bR,bM,d8,cT,dB,bE,hs,ol,vO,PZ,cK,gS,rfl⟩:=Go;rcases ay with _|⟨p,ay⟩
  rotate_left
  ·cases bE
  refine wE.nil ?_;refine wE.nil ?_;exact U gS ⟨rfl,hs,ol⟩
end
end
section
open PySem.W
section
variable {c:ah} {k:Nat} {O:XV} {Y:B}
theorem f8.SE (cO:Y N=some (.dict l))
 (h:∀o kvs,o.IsDictOf (PySem.strKind c.p c.w) kvs→kvs.map Prod.fst=l.map Prod.fst→f8 c k O (Y.put N (some (.raw o))) e d):f8 c k O Y e d:=by
 intro A V s Z ok r Q E q;refine Op (r.cells N _ cO) fun aG hz=>?_;refine wS aG fun o xz hd=>?_;have hcls:=p5.cls hd;refine aS hd fun kvs hf hk J=>?_;refine h o kvs hf hk A V s Z ok ⟨r.fn,r.top,r.sub,r.vars,fun a cl e=>?_,⟨⟨?_,r.own.1.2⟩,fun n a e=>⟨?_,(r.own.2 n a e).2⟩⟩,r.glob⟩ Q E q
 ·by_cases q:a=N
  ·subst q;rw[B.ai]at e;obtain rfl:=bf e;exact⟨⟨o,xz,rfl,by refine U hcls ?_;simp⟩,hz⟩
  ·rw[B.aa _ _ q]at e;exact r.cells a cl e
 ·exact U (B.aa _ _ (by intro z;have:=r.own.1.1;rw[z,cO]at this;injection this)) r.own.1.1
 ·exact U (B.aa _ _ (by intro z;have:=(r.own.2 n a e).1;rw[z,cO]at this;injection this)) ((r.own.2 n a e).1)
end
end
section
open PySem.W Builtin
noncomputable def rE {α:Type} (n:Nat) (lt:Nat→Nat→Bool):KasT α→Option α
 | .ret a=>some a
 | .ask i j k=>if i<n∧j<n then rE n lt (k (lt i j))else none
theorem Hj {α:Type} (n lt i j) (k:Bool→KasT α):rE n lt (.ask i j k)=if i<n∧j<n then rE n lt (k (lt i j))else none:=rfl
theorem N9 {α:Type} {lt:Nat→Nat→Bool} {cmp:Nat→Nat→(Bool→Shared→Prop)→Shared→Prop} {Q:α→Shared→Prop} (hc:∀i j C,i<n→j<n→C (lt i j) s→cmp i j C s):∀(t:KasT α) (a:α),rE n lt t=some a→Q a s→t.kasWp cmp Q s
 | .ret _,_,h,q=>by obtain rfl:=bf h;exact q
 | .ask i j k,a,h,q=>by
  rw[Hj]at h;split at h
  ·rename_i BF;exact hc i j _ BF.1 BF.2 (N9 hc (k (lt i j)) a h q)
  ·injection h
theorem MF {α:Type} {lt lt':Nat→Nat→Bool} (hc:∀i j,i<n→j<n→lt i j=lt' i j):∀(t:KasT α),rE n lt t=rE n lt' t
 | .ret _=>rfl
 | .ask i j k=>by
  rw[Hj,Hj];by_cases h:i<n∧j<n
  ·refine U (ak h) (U (ak h) (U (hc i j h.1 h.2) ?_));exact MF hc _
  ·exact U (Tk h) (U (Tk h) rfl)
noncomputable def uX (n:Nat) (r:List Nat):Bool:=match rE n (fun i j=>decide (r.getD i 0<r.getD j 0)) (kas_sort n)with
 |some p=>p.toList.map (fun i=>r.getD i 0)==List.range n&&p.toList.all (fun x=>x<n)
 |none=>false
noncomputable def qa:Nat→List (List Nat)
 |0=>[[]]
 |n+1=>(qa n).flatMap fun l=>(List.range (n+1)).map fun i=>l.insertIdx i n
theorem Xo:(qa 2).all (uX 2)=true:=by decide+kernel
theorem R2:(qa 3).all (uX 3)=true:=by decide+kernel
theorem adE:(qa 4).all (uX 4)=true:=by decide+kernel
theorem adf:(qa 5).all (uX 5)=true:=by decide+kernel
theorem Yc:(qa 6).all (uX 6)=true:=by decide+kernel
theorem QU:∀n r,r.length=n→r.Nodup→(∀x∈r,x<n)→r∈qa n
 |0,r,h,_,_=>by refine U (G5.mp h) ?_;exact .head _
 |n+1,r,h,hd,hb=>by
  have M2:n∈r:=by
   refine Classical.byContradiction fun M2=>?_;have bJ:∀x∈r,x∈List.range n:=fun x hx=>by
    have:=hb x hx;rw[qy];exact Ec (yL (hb x hx)) (by rintro rfl;exact M2 hx)
   have:=LB hd bJ;rw[h,I_]at this;exact yy _ ‹_›
  refine fE (List.append_of_mem M2) fun a b s4=>?_;subst s4;have hd2:=hd;rw[jY]at hd;refine b4 hd fun o8 mS A4=>?_;rw[dg]at mS;have Ur:n∉a:=fun h=>A4 n h n (.head _) rfl;have sH:(a++b)∈qa n:=by
   refine QU n (a++b) (by simp at h⊢;exact cN Nat.pred ‹_›) ?_ fun x hx=>?_
   ·rw[jY];exact⟨o8,mS.2,fun x hx y No=>A4 x hx y (.tail _ No)⟩
   ·have ic:x∈a++n::b:=by
     rcases b5.mp hx with h|h
     ·exact iK _ h
     ·exact mz _ (.tail _ h)
    have h1:=hb x ic;refine Ec (yL h1) ?_;rintro rfl;rcases b5.mp hx with h|h
    ·exact Ur h
    ·exact mS.1 h
  refine zT.mpr ⟨a++b,sH,ao.mpr ⟨a.length,?_,?_⟩⟩
  ·rw[qy];simp at h;exact E0 (Ev (bV ..) (bT (Bb h)))
  ·have:∀(a b:List Nat),(a++b).insertIdx a.length n=a++n::b:=by
    intro a
    induction a with
    |nil=>intro b;simp
    |cons x a ih=>intro b;simp[ih b]
   exact this a b
end
section
open PySem.W Builtin
section
variable {α:Type} {lt:α→α→Bool}
noncomputable def kM (lt:α→α→Bool) (S:List α) (x:α):Nat:=(S.filter fun y=>lt y x).length
set_option tactic.hygienic true in theorem Hf (rD:∀x,lt x x=false) (rU:∀x y,lt x y=true→lt y x=false):∀{S:List α},S.Pairwise (fun x y=>lt x y=true)→∀{m:Nat} {x:α},S[m]?=some x→kM lt S x=m
 |[],_,m,x,h=>by simp at h
 |a::S,hp,m,x,h=>by
  rw[x7]at hp
  induction m with
  |zero=>
   simp at h;subst h;unfold kM;have:(a::S).filter (fun y=>lt y a)=[]:=by
    rw[wW];intro y No;refine bC No ?_ fun No=>?_
    ·rw[rD];simp
    ·refine U (rU a y (hp.1 y No)) ?_;simp
   refine U this ?_;rfl
  |succ m=>
   have hx:S[m]?=some x:=by simpa using h
   have ih:=Hf rD rU hp.2 hx;have hm:x∈S:=s_ hx;unfold kM at ih⊢;exact U iV (U (ak (hp.1 x hm)) (U bU (U ih rfl)))
theorem ad6 (rD:∀x,lt x x=false) (rU:∀x y,lt x y=true→lt y x=false) {S:List α} (hs:S.Pairwise (fun x y=>lt x y=true)):S.map (kM lt S)=List.range S.length:=by
 apply List.ext_getElem?;intro m;rw[kI]
 induction q:S[m]? with
 |none=>
  have:=lP.mp q;symm;simp[this]
 |some x=>
  refine aO (lq.mp q) fun hm J=>?_;rw[BP,Hf rD rU hs q];simp[hm]
theorem aaD (h2:2≤n) (h6:n≤6) (hr:r∈qa n):uX n r=true:=by
 have:n=2∨n=3∨n=4∨n=5∨n=6:=(show∀n<7,2≤n→n=2∨n=3∨n=4∨n=5∨n=6 by decide) n (E0 h6) h2;rcases this with rfl|rfl|rfl|rfl|rfl
 ·exact jQ.mp Xo r hr
 ·exact jQ.mp R2 r hr
 ·exact jQ.mp adE r hr
 ·exact jQ.mp adf r hr
 ·exact jQ.mp Yc r hr
set_option tactic.hygienic true in theorem Wa (rD:∀x,lt x x=false) (rU:∀x y,lt x y=true→lt y x=false) (hp:S.Perm ks) (hs:S.Pairwise (fun x y=>lt x y=true)) (h2:2≤ks.length) (h6:ks.length≤6):
 ∃p:Array Nat,rE ks.length (fun i j=>lt (ks.getD i d) (ks.getD j d)) (kas_sort ks.length)=some p∧p.toList.map (fun i=>ks.getD i d)=S∧∀i∈p.toList,i<ks.length:=by
 have cK:=hp.length_eq;have hall:=ad6 rD rU hs;have Mn:(ks.map (kM lt S)).Perm (List.range ks.length):=by
  refine ZB cK (ZB hall ?_);exact(hp.map _).symm
 have hmem:ks.map (kM lt S)∈qa ks.length:=QU _ _ (by simp) (Mn.nodup_iff.mpr List.nodup_range) fun x hx=>qy.mp (Mn.mem_iff.mp hx);have hok:=aaD h2 h6 hmem;have at_:∀i,i<ks.length→S[(ks.map (kM lt S)).getD i 0]?=some (ks.getD i d)∧(ks.map (kM lt S)).getD i 0=kM lt S (ks.getD i d):=fun i hi=>by
  have e:(ks.map (kM lt S)).getD i 0=kM lt S (ks.getD i d):=by simp[hi]
  have hx:ks.getD i d∈S:=by
   rw[hp.mem_iff];simp[hi]
  refine aO (List.mem_iff_getElem?.mp hx) fun m hm=>?_;refine⟨?_,e⟩;refine U e (U (Hf rD rU hs hm) ?_);exact hm
 have bJ:∀i j,i<ks.length→j<ks.length→lt (ks.getD i d) (ks.getD j d)=decide ((ks.map (kM lt S)).getD i 0<(ks.map (kM lt S)).getD j 0):=fun i j hi eX=>by
  refine Op (at_ i hi) fun a1 J=>?_;refine Op (at_ j eX) fun b1 J=>?_;generalize(ks.map (kM lt S)).getD i 0=a at a1;generalize(ks.map (kM lt S)).getD j 0=b at b1;refine aO (lq.mp a1) fun ha iW=>?_;refine aO (lq.mp b1) fun hb xT=>?_;refine ZB iW (ZB xT ?_);rw[KC]at hs;rcases Nat.lt_trichotomy a b with h|h|h
  ·refine U (hs a b ha hb h) ?_;simp[h]
  ·subst h;rw[rD];simp
  ·refine U (rU _ _ (hs b a hb ha h)) ?_;simp;exact fz ‹_›
 unfold uX at hok;rw[MF bJ];split at hok
 ·rename_i p abJ;rw[kJ]at hok;refine Op hok fun h1 h3=>?_;have h1:=eq_of_beq h1;have hb:∀i∈p.toList,i<ks.length:=fun i hi=>by simpa using jQ.mp h3 i hi
  refine fW p abJ ?_ hb;apply List.ext_getElem?;intro m;rw[kI];have hm:=cN (fun l=>l[m]?) h1;rw[kI]at hm
  induction q:p.toList[m]? with
  |none=>
   rw[q]at hm;symm;rw[JU]at hm⊢;rw[lP,cK];have:=lP.mp hm.symm;simpa using this
  |some i=>
   rw[q,BP]at hm;refine aO (lq.mp hm.symm) fun sR qx=>?_;rw[List.getElem_range]at qx;refine Op (at_ i (hb i (s_ q))) fun a1 J=>?_;rw[←qx]at a1;rw[BP,a1]
 ·injection hok
end
end
section
open PySem.W Builtin
section
variable {prog:Program} {w:World} {A:Around} {E:Value→Shared→Prop} {s:Shared} {a:Addr} {H:List Value} {n:Nat}
noncomputable def F9 (a:Addr) (h h':Heap):Prop:=h.objs.size≤h'.objs.size∧∀b o,b≠a→h.get? b=some o→h'.get? b=some o
noncomputable def yo (a:Addr) (e1:Nat) (out:List Value) (C:Shared→Prop) (s:Shared):Prop:=
 s.heap.get? a=some (seqObj "list" #[] e1)∧∀h' c,F9 a s.heap h'→h'.get? a=some (seqObj "list" (List.toArray out) c)→C {s with heap:=h'}
theorem Wd (xz:s.heap.get? a=some (seqObj "list" H.toArray n)) (h2:2≤H.length) (E8:H.length<64)
 (h:∀e1 h',F9 a s.heap h'→h'.get? a=some (seqObj "list" #[] e1)→
  wpAny (model prog w) A (keyKind' H.toArray) (fun κ s'=>(kas_sort H.length).kasWp (kas_ask prog w A κ H) (fun p s''=>yo a e1 (p.toList.map fun i=>H.getD i Value.none) (fun s3=>P (.done (.ret .none)) s3) s'') s') (fun J J=>False) {s with heap:=h'}):
 wpAny (model prog w) A (Builtin.«list.sort» ⟨[.ref a],[]⟩) P E s:=by
 have ha:a<s.heap.objs.size:=cE xz;have s1:=mK s.heap a (Obj.mapSeq fun J=>(#[]:Array Value));obtain⟨e1,y_⟩:∃e1,(s.heap.update a (Obj.mapSeq fun J=>(#[]:Array Value))).get? a=some (seqObj "list" #[] e1):=⟨_,C9 xz fun J=>#[]⟩;have ask:=h e1 (((s.heap.update a (Obj.mapSeq fun J=>(#[]:Array Value))).push (seqObj "tuple" H.toArray 0)).push (seqObj "list" #[] 0))
  ⟨by rw[eS,eS,s1.1];lia,fun b o hb e=>bX _ (bX _ ((s1.2 b hb).trans e))⟩ (bX _ (bX _ y_))
 rw[list_sort_plain];refine u8 (listItems_at xz rfl ?_);refine u8 (CS xz rfl ?_ (by refine U jv (U cQ ?_);exact Ev (gZ ‹_›) (by decide)) (e_ _));refine u8 (seqEpoch_at y_ rfl ?_);refine u8 (vQ ?_ (by show H.length≤_;refine U cQ ?_;exact Ev (gZ ‹_›) (by decide)));refine u8 (AF ?_ (e_ _));refine bW ?_;show wpAny (model prog w) A _ P E {s with heap:=((s.heap.update a (Obj.mapSeq fun J=>(#[]:Array Value))).push (seqObj "tuple" H.toArray 0)).push (seqObj "list" #[] 0)};dsimp only;have o9:¬H.toArray.size<2:=by refine U jv ?_;lia
 refine U (Tk o9) (U (Tk o9) ?_);refine u8 (dQ ask (fun κ s0 hk=>?_) fun J J x=>x.elim);refine u8 (dQ (kat_run (Q:=fun st' s'=>∃p:Array Nat,p.size=H.length∧arrOf st'=p.map (kas_item (H.toArray.zip H.toArray))∧failedOf st'=none∧yo a e1 (p.toList.map fun i=>H.getD i Value.none) (fun s''=>P (.done (.ret .none)) s'') s')
  rfl h2 E8 (fun c6 st' s' a1 a2 iJ iM=>⟨c6,a1,a2,iJ,iM⟩) hk) ?_ fun J J e=>e)
 intro Go s' uD;obtain⟨⟨⟩,st'⟩:=Go;refine G7 uD fun p hp abb hf na k=>?_;dsimp only;have hout:=kat_snds rfl abb;have hsz:(List.toArray (p.toList.map fun i=>H.getD i Value.none)).size=H.length:=by rw[jv,b8,gB,hp]
 refine U hout ?_;have s2:=mK s'.heap a (Obj.mapSeq fun J=>List.toArray (p.toList.map fun i=>H.getD i Value.none));obtain⟨kK,HP⟩:∃kK,(s'.heap.update a (Obj.mapSeq fun J=>List.toArray (p.toList.map fun i=>H.getD i Value.none))).get? a=some (seqObj "list" (List.toArray (p.toList.map fun i=>H.getD i Value.none)) kK):=⟨_,C9 na fun J=>List.toArray (p.toList.map fun i=>H.getD i Value.none)⟩;refine u8 (seqEpoch_at na rfl ?_);refine u8 (CS na rfl ?_ (e_ _) (Ev (bT hsz) (by refine U cQ ?_;exact Ev (gZ ‹_›) (by decide))));refine U hf ?_;simp only[G_,j7,jE];exact On (k _ kK ⟨bT s2.1.symm,fun b o hb e=>(s2.2 b hb).trans e⟩ HP)
theorem Zo (hl:s.heap.IsList l H.toArray) (h2:2≤H.length) (E8:H.length<64)
 (h:∀D e1 h',s.heap.objs.size≤D→s.heap.objs.size≤h'.objs.size→(∀b o,s.heap.get? b=some o→h'.get? b=some o)→h'.get? D=some (seqObj "list" #[] e1)→
  wpAny (model prog w) A.in1.in1 (keyKind' H.toArray) (fun κ s'=>(kas_sort H.length).kasWp (kas_ask prog w A.in1.in1 κ H) (fun p s''=>yo D e1 (p.toList.map fun i=>H.getD i Value.none) (fun s3=>Q (.ref D) s3) s'') s') (fun J J=>False) {s with heap:=h'}):
 wpAny (model prog w) A (call (.builtin "sorted") [.ref l]) Q E s:=by
 refine Calls.call_function_entry kind_sorted plain_sorted entry_sorted (args_sorted1 _) ?_;unfold Builtin.«sorted»;refine u8 (m:=checkCount "sorted" 1 1 _) (On ?_);refine u8 (collect_list hl ?_ (by refine U cQ ?_;exact Ev (gZ ‹_›) (by decide)));refine u8 (AF ?_ (by refine U cQ ?_;exact Ev (gZ ‹_›) (by decide)));have hsz:((s.heap.push (seqObj "list" #[] 0)).update s.heap.objs.size (Obj.mapSeq (fun x=>x++H.toArray))).objs.size=s.heap.objs.size+1:=by
  rw[Heap.size_update,size_push']
 have qh:(((s.heap.push (seqObj "list" #[] 0)).update s.heap.objs.size (Obj.mapSeq (fun x=>x++H.toArray))).push (seqObj "list" H.toArray 0)).get? (s.heap.objs.size+1)=some (seqObj "list" H.toArray 0):=by
  refine ZB hsz ?_;exact dN _ rfl
 have keep:∀b o,s.heap.get? b=some o→(((s.heap.push (seqObj "list" #[] 0)).update s.heap.objs.size (Obj.mapSeq (fun x=>x++H.toArray))).push (seqObj "list" H.toArray 0)).get? b=some o:=fun b o q=>by
  have bJ:b<s.heap.objs.size:=cE q;rw[Ba _ _ _ (by refine U hsz ?_;exact fm (v_ bJ)),Heap.get?_update_ne _ _ _ _ (fm bJ),Ba _ _ _ (fm bJ)];exact q
 have rW:(((s.heap.push (seqObj "list" #[] 0)).update s.heap.objs.size (Obj.mapSeq (fun x=>x++H.toArray))).push (seqObj "list" H.toArray 0)).objs.size=s.heap.objs.size+2:=by rw[eS,hsz]
 show wpAny _ _ _ _ _ {s with heap:=((s.heap.push (seqObj "list" #[] 0)).update s.heap.objs.size (Obj.mapSeq (fun x=>x++H.toArray))).push (seqObj "list" H.toArray 0)};refine U hsz ?_;refine u8 (bW (l5 slot_list_sort ⟨_,qh,rfl⟩ entry_list_sort ?body (args_list_sort _)))
 case body=>
  refine Wd (s:={s with heap:=((s.heap.push (seqObj "list" #[] 0)).update s.heap.objs.size (Obj.mapSeq (fun x=>x++H.toArray))).push (seqObj "list" H.toArray 0)}) qh h2 E8 fun e1 h' hk fF=>?_;refine dQ (h _ e1 h' (b7 _) (Ev (by refine U rW ?_;exact bV _ _) hk.1) (fun b o e=>hk.2 b o (fm (v_ (cE e))) (keep b o e)) fF) (fun κ s' hk=>?_) fun J J x=>x;rw[kat_ask_eq rfl]at hk⊢;exact kas_wp_mono hk fun p s'' hk'=>⟨hk'.1,fun h3 c gP lT=>⟨_,rfl,On ⟨_,rfl,hk'.2 h3 c gP lT⟩⟩⟩
end
end
section
open PySem.W Builtin
noncomputable def iE (p q:Int×Int):Bool:=decide (p.1<q.1)||(p.1==q.1&&decide (p.2<q.2))
theorem EX (x):iE x x=false:=by unfold iE;simp
set_option tactic.hygienic true in theorem Vc (x y) (h:iE x y=true):iE y x=false:=by
 unfold iE at h⊢;simp only[oB,kJ,rQ,kX,Bool.or_eq_false_iff,Bool.and_eq_false_iff,decide_eq_false_iff_not]at h⊢;constructor
 ·lia
 ·rcases h with h|h
  ·left;simp;lia
  ·right;lia
section
variable {prog:Program} {w:World} {A:Around} {s:Shared}
theorem afs (hx:s.heap.get? x=some {cls:=.type "tuple",data:=.seq #[.int a t1,.int b fD] n}) (No:s.heap.get? y=some {cls:=.type "tuple",data:=.seq #[.int ji t3,.int b' t4] m})
 (h:Q (iE (a,b) (ji,b')) s):wpAny (model prog w) A (keyLt' (tuples' true) (.ref x) (.ref y)) Q E s:=by
 refine kat_lt hx rfl No rfl ?_;refine kat_cons (wpAny_eqBool_int (kat_go (fun e=>?_) (fun e=>?_)))
 ·rw[show a=ji by simpa using e]at h;refine kat_yes (kat_cons (wpAny_eqBool_int (kat_go (fun e2=>?_) (fun e2=>?_))))
  ·rw[show b=b' by simpa using e2]at h;rw[EX]at h;exact kat_yes (kat_nil h)
  ·refine kat_no (kat_one _ _ ?_);have:iE (ji,b) (ji,b')=decide (b<b'):=by unfold iE;simp
   rw[this]at h;exact wpAny_lt_int h
 ·refine kat_no ?_;have:iE (a,b) (ji,b')=decide (a<ji):=by
   have:(a==ji)=false:=e;unfold iE;simp[this]
  rw[this]at h;exact oneLt_int h
end
noncomputable def pairD (p:Int×Int):D:=.tup [.int p.1,.int p.2]
set_option tactic.hygienic true in theorem Cm:∀{H:List Value} {ks:List (Int×Int)},au Z H (ks.map pairD)→∀(i:Nat) (p:Int×Int),ks[i]?=some p→∃(x:Addr) (t1 fD:Tok) (n:Nat),H[i]?=some (Value.ref x)∧Z x=some {cls:=.type "tuple",data:=.seq #[.int p.1 t1,.int p.2 fD] n}
 |_,[],_,i,p,h=>by simp at h
 |[],_::_,h,_,_,_=>by cases h
 |v::H,q::ks,h,i,p,hp=>by
  change au Z (v::H) (pairD q::ks.map pairD)at h;cases h with
  |cons h1 h2=>
  rcases i with _|i
  ·simp at hp;subst hp;unfold pairD at h1;cases h1 with
   | @tup a arr n _ hz FS=>
   generalize hl:arr.toList=l at FS;cases FS with
   |cons a1 Ym=>
   cases Ym with
   |cons a2 H8=>
   cases H8;cases a1;cases a2;rename_i t1 fD;have:arr=#[.int q.1 t1,.int q.2 fD]:=F_.mp hl;subst this;exact KV a t1 fD n rfl hz
  ·refine DJ (Cm h2 i p (by simpa using hp)) fun x t1 fD n e r=>?_;exact KV x t1 fD n (by simpa using e) r
theorem Lo (hz:∀a o,Z a=some o→h.get? a=some o):∀{H:List Value} {ks:List (Int×Int)},au Z H (ks.map pairD)→∃fs,KatTups h H fs∧fs.length=ks.length∧∀v∈fs,∃i t,v=Value.int i t
 |[],[],_=>⟨[],.nil,rfl,fun v s5=>nomatch s5⟩
 |[],_::_,h=>by cases h
 |_::_,[],h=>by cases h
 |v::H,q::ks,h=>by
  refine DJ (Cm h 0 q rfl) fun x t1 fD n e r=>?_;change au Z (v::H) (pairD q::ks.map pairD)at h;cases h with
  |cons h1 h2=>
  refine aS (Lo hz h2) fun fs i1 cM fh=>?_;simp at e;subst e;refine fW (.int q.1 t1::fs) (.cons (hz _ _ r) rfl rfl rfl i1) (by simp[cM]) (fun v s5=>?_);refine bC s5 ?_ fun s5=>?_
  ·exact⟨_,_,rfl⟩
  ·exact fh v s5
section
variable {c:ah} {k:Nat} {O:XV} {Y:B}
theorem J1 {Z:TW} {H:List Value} {ks:List (Int×Int)} (h:au Z H (ks.map pairD)):∀(q:List Nat),(∀i∈q,i<ks.length)→au Z (q.map fun i=>H.getD i Value.none) ((q.map fun i=>ks.getD i ((0:Int),(0:Int))).map pairD)
 |[],_=>.nil
 |i::q,Ch=>by
  have hi:=Ch i (.head _);refine wS (h.get (i:=i) (d:=pairD (ks.getD i ((0:Int),(0:Int)))) (by simp[hi])) fun v s5 tv=>?_;have e:H.getD i Value.none=v:=by rw[iw,s5];rfl
  refine .cons ?_ (J1 h q fun j eX=>Ch j (.tail _ eX));show Tells Z (H.getD i Value.none) _;exact U e tv
theorem bZ.abD {d:D} {ks S:List (Int×Int)} (hs:aK c O Y d (ks.map pairD)) (hp:S.Perm ks) (hS:S.Pairwise (fun x y=>iE x y=true)) (h2:2≤ks.length) (h6:ks.length≤6):bZ c k O Y (.builtin "sorted") [d] (.list (S.map pairD)):=by
 intro A V s Z H ok r h Q E g;refine wS (iF h) fun v s4 s5=>?_;subst s4;refine dS (hs _ V Z v r s5) fun a its n s4 hg FS=>?_;subst s4;have cK:its.toList.length=ks.length:=by rw[FS.length,b8]
 refine aS (Wa EX Vc (d:=((0:Int),(0:Int))) hp hS h2 h6) fun p Vh afm hb=>?_;refine Zo (H:=its.toList) ⟨_,hg,rfl,n,by exact U xV rfl⟩ (by exact k7 ‹_› (sX ‹_›)) (fU (bT cK) (fU h6 (by decide))) fun D e1 h' fF hsz keep jm=>?_;have hz:∀a o,Z a=some o→h'.get? a=some o:=fun a o e=>keep a o (r.sub.get e);refine aS (Lo hz FS) fun fs kt hfl abH=>?_;refine kat_kind (s:={s with heap:=h'}) (T:=.type "int") kt (fP (show 0<2 by decide) (Ev h2 (bT hfl.symm))) (fun v s5=>?_) (by decide) ?_
 ·refine fE (abH v s5) fun i t s4=>?_;subst s4;exact qe rfl
 refine U cK ?_;refine N9 (fun i j C hi eX jq=>?_) (kas_sort ks.length) p Vh ?_
 ·refine DJ (Cm FS i (ks.getD i ((0:Int),(0:Int))) (by simp[hi])) fun x t1 fD n1 e1 mT=>?_;refine DJ (Cm FS j (ks.getD j ((0:Int),(0:Int))) (by simp[eX])) fun y t3 t4 b6 e2 vA=>?_;unfold kas_ask;rw[iw,iw,e1,e2];exact afs (hz _ _ mT) (hz _ _ vA) jq
 ·refine⟨jm,fun h3 nF gP lT=>?_⟩;have st:Step c s Z {s with heap:=h3} Z:=by
   have k3:∀b o,s.heap.get? b=some o→h3.get? b=some o:=fun b o e=>gP.2 b o (by rintro rfl;exact absurd (cE e) (eB.mpr fF)) (keep b o e);exact⟨⟨Ev hsz gP.1,fun b o e=>⟨o,k3 b o e,.refl _⟩⟩,fun b o e=>k3 b o (r.top b o e),.refl ..,fun b o e=>⟨k3 b o (r.sub.get e),(r.sub b o e).2⟩,aH _,⟨_,_,rfl⟩⟩
  have yR:Z D=none:=gC r.sub fF;refine g _ _ _ (st.DG fF yR lT (by simp)) (.list (TW.ai ..) ?_);have:=J1 FS p.toList hb;rw[afm]at this;exact this.mono (TW.uA yR)
end
end
section
open PySem.W Builtin
section
variable {prog:Program} {w:World} {A:Around} {E:Value→Shared→Prop} {s:Shared} {a:Addr} {H:List Value} {n:Nat}
theorem Xz (xs:Array Value):(xs.zip xs).map Prod.snd=xs:=by
 apply Array.ext
 ·simp
 ·intro i h1 h2;simp
theorem Yi (xz:s.heap.get? a=some (seqObj "list" H.toArray n)) (h2:H.length<2)
 (h:∀e1 h',F9 a s.heap h'→h'.get? a=some (seqObj "list" #[] e1)→yo a e1 H (fun s3=>P (.done (.ret .none)) s3) {s with heap:=h'}):
 wpAny (model prog w) A (Builtin.«list.sort» ⟨[.ref a],[]⟩) P E s:=by
 have ha:a<s.heap.objs.size:=cE xz;have s1:=mK s.heap a (Obj.mapSeq fun J=>(#[]:Array Value));obtain⟨e1,y_⟩:∃e1,(s.heap.update a (Obj.mapSeq fun J=>(#[]:Array Value))).get? a=some (seqObj "list" #[] e1):=⟨_,C9 xz fun J=>#[]⟩;have ask:=h e1 (((s.heap.update a (Obj.mapSeq fun J=>(#[]:Array Value))).push (seqObj "tuple" H.toArray 0)).push (seqObj "list" #[] 0))
  ⟨by rw[eS,eS,s1.1];lia,fun b o hb e=>bX _ (bX _ ((s1.2 b hb).trans e))⟩ (bX _ (bX _ y_))
 rw[list_sort_plain];refine u8 (listItems_at xz rfl ?_);refine u8 (CS xz rfl ?_ (by refine U jv (U cQ ?_);exact Ev (gZ ‹_›) (by decide)) (e_ _));refine u8 (seqEpoch_at y_ rfl ?_);refine u8 (vQ ?_ (by show H.length≤_;refine U cQ ?_;exact Ev (gZ ‹_›) (by decide)));refine u8 (AF ?_ (e_ _));refine bW ?_;show wpAny (model prog w) A _ P E {s with heap:=((s.heap.update a (Obj.mapSeq fun J=>(#[]:Array Value))).push (seqObj "tuple" H.toArray 0)).push (seqObj "list" #[] 0)};dsimp only;have o9:H.toArray.size<2:=by refine U jv ?_;assumption
 refine U (ak o9) (U (ak o9) ?_);refine Op ask fun na k=>?_;have s2:=mK (((s.heap.update a (Obj.mapSeq fun J=>(#[]:Array Value))).push (seqObj "tuple" H.toArray 0)).push (seqObj "list" #[] 0)) a (Obj.mapSeq fun J=>H.toArray);obtain⟨kK,HP⟩:∃kK,((((s.heap.update a (Obj.mapSeq fun J=>(#[]:Array Value))).push (seqObj "tuple" H.toArray 0)).push (seqObj "list" #[] 0)).update a (Obj.mapSeq fun J=>H.toArray)).get? a=some (seqObj "list" H.toArray kK):=⟨_,C9 na fun J=>H.toArray⟩;refine u8 (On ?_);refine u8 (On ?_);dsimp only;show wpAny (model prog w) A (do
  let touched:=(←seqEpoch a) !=e1
  Builtin.List.listUpdate (.ref a) fun J=>(H.toArray.zip H.toArray).map Prod.snd
  if touched then rule "list.sort.modified";raiseError "ValueError" "list modified during sort"
  ret .none) P E _
 rw[Xz];refine u8 (seqEpoch_at na rfl ?_);refine u8 (CS na rfl ?_ (e_ _) (by refine U jv (U cQ ?_);exact Ev (gZ ‹_›) (by decide)));simp only[G_,j7,jE];exact On (k _ kK ⟨bT s2.1.symm,fun b o hb e=>(s2.2 b hb).trans e⟩ HP)
theorem ad5 (hl:s.heap.IsList l H.toArray) (h2:H.length<2)
 (h:∀D e1 h',s.heap.objs.size≤D→s.heap.objs.size≤h'.objs.size→(∀b o,s.heap.get? b=some o→h'.get? b=some o)→h'.get? D=some (seqObj "list" #[] e1)→
  yo D e1 H (fun s3=>Q (.ref D) s3) {s with heap:=h'}):
 wpAny (model prog w) A (call (.builtin "sorted") [.ref l]) Q E s:=by
 refine Calls.call_function_entry kind_sorted plain_sorted entry_sorted (args_sorted1 _) ?_;unfold Builtin.«sorted»;refine u8 (m:=checkCount "sorted" 1 1 _) (On ?_);refine u8 (collect_list hl ?_ (by refine U cQ ?_;exact Ev (gZ ‹_›) (by decide)));refine u8 (AF ?_ (by refine U cQ ?_;exact Ev (gZ ‹_›) (by decide)));have hsz:((s.heap.push (seqObj "list" #[] 0)).update s.heap.objs.size (Obj.mapSeq (fun x=>x++H.toArray))).objs.size=s.heap.objs.size+1:=by
  rw[Heap.size_update,size_push']
 have qh:(((s.heap.push (seqObj "list" #[] 0)).update s.heap.objs.size (Obj.mapSeq (fun x=>x++H.toArray))).push (seqObj "list" H.toArray 0)).get? (s.heap.objs.size+1)=some (seqObj "list" H.toArray 0):=by
  refine ZB hsz ?_;exact dN _ rfl
 have keep:∀b o,s.heap.get? b=some o→(((s.heap.push (seqObj "list" #[] 0)).update s.heap.objs.size (Obj.mapSeq (fun x=>x++H.toArray))).push (seqObj "list" H.toArray 0)).get? b=some o:=fun b o q=>by
  have bJ:b<s.heap.objs.size:=cE q;rw[Ba _ _ _ (by refine U hsz ?_;exact fm (v_ bJ)),Heap.get?_update_ne _ _ _ _ (fm bJ),Ba _ _ _ (fm bJ)];exact q
 have rW:(((s.heap.push (seqObj "list" #[] 0)).update s.heap.objs.size (Obj.mapSeq (fun x=>x++H.toArray))).push (seqObj "list" H.toArray 0)).objs.size=s.heap.objs.size+2:=by rw[eS,hsz]
 show wpAny _ _ _ _ _ {s with heap:=((s.heap.push (seqObj "list" #[] 0)).update s.heap.objs.size (Obj.mapSeq (fun x=>x++H.toArray))).push (seqObj "list" H.toArray 0)};refine U hsz ?_;refine u8 (bW (l5 slot_list_sort ⟨_,qh,rfl⟩ entry_list_sort ?body (args_list_sort _)))
 case body=>
  refine Yi (s:={s with heap:=((s.heap.push (seqObj "list" #[] 0)).update s.heap.objs.size (Obj.mapSeq (fun x=>x++H.toArray))).push (seqObj "list" H.toArray 0)}) qh h2 fun e1 h' hk fF=>?_;have hk':=h _ e1 h' (b7 _) (Ev (by refine U rW ?_;exact bV _ _) hk.1) (fun b o e=>hk.2 b o (fm (v_ (cE e))) (keep b o e)) fF;exact⟨hk'.1,fun h3 c gP lT=>⟨_,rfl,On ⟨_,rfl,hk'.2 h3 c gP lT⟩⟩⟩
end
section
variable {c:ah} {k:Nat} {O:XV} {Y:B}
theorem bZ.XC (hs:aK c O Y d l) (h2:l.length<2):bZ c k O Y (.builtin "sorted") [d] (.list l):=by
 intro A V s Z H ok r h Q E g;refine wS (iF h) fun v s4 s5=>?_;subst s4;refine dS (hs _ V Z v r s5) fun a its n s4 hg FS=>?_;subst s4;have cK:its.toList.length=l.length:=by exact U FS.length rfl
 refine ad5 (H:=its.toList) ⟨_,hg,rfl,n,by exact U xV rfl⟩ (by exact fU (bT ‹_›) ‹_›) fun D e1 h' fF hsz keep jm=>?_;refine⟨jm,fun h3 nF gP lT=>?_⟩;have st:Step c s Z {s with heap:=h3} Z:=by
  have k3:∀b o,s.heap.get? b=some o→h3.get? b=some o:=fun b o e=>gP.2 b o (by rintro rfl;exact absurd (cE e) (eB.mpr fF)) (keep b o e);exact⟨⟨Ev hsz gP.1,fun b o e=>⟨o,k3 b o e,.refl _⟩⟩,fun b o e=>k3 b o (r.top b o e),.refl ..,fun b o e=>⟨k3 b o (r.sub.get e),(r.sub b o e).2⟩,aH _,⟨_,_,rfl⟩⟩
 have yR:Z D=none:=gC r.sub fF;refine g _ _ _ (st.DG fF yR lT (by simp)) (.list (TW.ai ..) ?_);show au _ its.toList l;exact FS.mono (TW.uA yR)
theorem bZ.aeq {d:D} {ks S:List (Int×Int)} (hs:aK c O Y d (ks.map pairD)) (hp:S.Perm ks) (hS:S.Pairwise (fun x y=>iE x y=true)) (h6:ks.length≤6):bZ c k O Y (.builtin "sorted") [d] (.list (S.map pairD)):=by
 by_cases h2:2≤ks.length
 ·exact bZ.abD hs hp hS h2 h6
 ·have e:S=ks:=by
   have hl:=hp.length_eq;rcases S with _|⟨x,_|⟨y,r⟩⟩
   ·exact(List.eq_nil_of_length_eq_zero hl.symm).symm
   ·exact(List.perm_singleton.mp hp.symm).symm
   ·rw[←hl]at h2;exact absurd (DU 2 r.length) h2
  subst e;exact bZ.XC hs (by rw[b8];exact Nat.lt_of_not_le ‹_›)
end
end
section
open PySem.W
noncomputable def gE (c:ah) (k:Nat) (O:XV) (Y:B) (e:Expr) (aV:Bool→B→Prop):Prop:=
 ∀(A:Around) (V:Env) (s:Shared) (Z:TW),Ok c k A s→bz c Z s.heap V O Y→∀(Q:Bool→Shared→Prop) (E:Value→Shared→Prop),
  (∀b I s' Z',aN c Y s Z I s' Z'→aV b I→Q b s')→wpAny c.M A (isTrue e V (eval e V)) Q E s
section
variable {c:ah} {k:Nat} {O:XV} {Y:B} {Sc:fy→Prop}
theorem gE.pt (h:az c k O Y e b) (Ch:aV b Y):gE c k O Y e aV:=fun A V s Z ok r Q E q=>h A V s Z ok r Q E fun s' Z' t=>q b Y s' Z' (t.after r) Ch
theorem gE.cmp (hl:aE c k O Y l fun d₁ I=>∃d₂ b,f8 c k O I r d₂∧Rs c k O I (compareOp op) d₁ d₂ (.val (.bool b))∧aV b I) (hm:behindInMarks op r=false:=by with_unfolding_all rfl):gE c k O Y (.Compare l [op] [r] pos) aV:=
 fun A V s Z ok x Q E h=>Ex (hl A V s Z ok x _ E fun d₁ I bg s₁ aC EQ h₁ YA=>fB YA fun d₂ b hr xz hp=>hr A V s₁ aC (ok.after EQ) (x.after EQ) _ E fun bK s₂ bx t₂ h₂=>
  xz A V s₂ bx bg bK ((ok.after EQ).step t₂) ((x.after EQ).step t₂) (h₁.mono t₂.le) h₂ (fun v aF=>wpAny c.M A (truthy v) Q E aF) E fun v s' Z' t s5=>by
   refine s5.v ?_;exact Al (h b I s' Z' (EQ.trans ((t₂.trans t).after (x.after EQ))) hp)) hm
theorem gE.or (he:gE c k O Y e fun b I=>b=false∧gE c k O I (.BoolOp .Or es pos) aV):gE c k O Y (.BoolOp .Or (e::es) pos) aV:=by
 intro A V s Z ok x Q E h;show wpAny c.M A (allTrue .Or (e::es) V) Q E s;refine u8 (m:=isTrue e V (eval e V)) (he A V s Z ok x _ E fun b I s' Z' t Si=>Op Si fun hb hr=>?_);subst hb;exact hr A V s' Z' (ok.after t) (x.after t) Q E fun b gK s'' eH t'=>h b gK s'' eH (t.trans t')
theorem gE.mono (h:gE c k O Y e aV) (q:∀b I,aV b I→afu b I):gE c k O Y e afu:=fun A V s Z ok x Q E g=>h A V s Z ok x Q E fun b I s' Z' t hp=>g b I s' Z' t (q b I hp)
theorem gE.Q0 (he:gE c k O Y e fun b I=>b=false∧aV false I):gE c k O Y (.BoolOp .Or [e] pos) aV:=
 .or (he.mono fun b I h=>⟨h.1,.pt .yC h.2⟩)
theorem FM.II (FS:gE c k O Y e fun b I=>(b=true→wE c k O I ug Sc)∧(b=false→wE c k O I tg Sc)):FM c k O Y (.If e ug tg pos) Sc:=by
 intro A V s base Z ok w Q E q;refine wpAny_If (FS A V s Z ok w.rd _ E fun b I s' Z' t hp=>?_)
 induction b with
 |true=>exact hp.1 rfl A V s' base Z' (ok.after t) (w.after t) Q E (Ends.of (c:=c) q t.run)
 |false=>exact hp.2 rfl A V s' base Z' (ok.after t) (w.after t) Q E (Ends.of (c:=c) q t.run)
theorem Rs.S7:Rs c k O Y (compareOp .IsNot) (.val (.bool b)) (.val (.bool b)) (.val (.bool false)):=by
 intro A V s Z bg bK ok r h₁ h₂ Q E g;have top:=r.top;have sub:=r.sub;refine h₁.v ?_;refine h₂.v ?_;exact wpAny_isNot_self (by rfl) (kF g top sub (.val _))
theorem Rs.DW (h:jw d=true) (s:PySem.SeqAt.shaped (pd d)=true):Rs c k O Y (compareOp .NotEq) d d (.val (.bool false)):=by
 have:=Rs.Ky (c:=c) (k:=k) (O:=O) (Y:=Y) h h s s;rw[PySem.SeqAt.eqv_refl _ (HH s)]at this;exact this
theorem Rs.Yv (h:iy l=true) (s:PySem.SeqAt.shaped (.list (fJ l))=true):Rs c k O Y (compareOp .NotEq) (.list l) (.list []) (.val (.bool (!l.isEmpty))):=by
 have:=Rs.Ky (c:=c) (k:=k) (O:=O) (Y:=Y) (d₁:=.list l) (d₂:=.list []) (by rw[CQ];exact h) (by decide+kernel) (by rw[wZ];exact s) (by decide+kernel);rw[wZ,wZ,BQ]at this;rcases l with _|⟨x,l⟩
 ·rw[BQ]at this;exact this
 ·rw[F7]at this;exact this
end
theorem Ry {α:Type} (g:α→D):∀l:List α,(∀x∈l,jw (g x)=true)→iy (l.map g)=true:=fun k8=>by
 induction k8 with
 |nil=>exact fun J=>by exact U su (U Pc rfl)
 |cons x l lZ=>exact fun h=>by rw[aJ,A5,h x (.head _),(lZ) fun y No=>h y (.tail _ No)];rfl
theorem Js (x):jw (pair x)=true:=by rfl
theorem HD (x):pd (pair x)= .tuple [.str x.1,.str x.2]:=by rfl
theorem JB (l:List (Str×Str)):fJ (l.map pair)=l.map fun x=>.tuple [.str x.1,.str x.2]:=by rw[Wk,cJ];exact sP fun x J=>HD x
theorem Gu:∀l:List (Str×Str),(∀x∈l,PyData.strOk x.1=true∧PyData.strOk x.2=true)→PyData.canLayAll0 (fJ (l.map pair))=true:=by
 intro l h;rw[JB]
 induction l with
 |nil=>rfl
 |cons x l ih=>
  refine Op (h x (.head _)) fun h1 h2=>?_;simp only[aJ,PyData.canLayAll0,ih fun y No=>h y (.tail _ No),vM];simp[PyData.canLay0,PyData.canLayAll0,h1,h2]
theorem U5 (x y:Str×Str):PyData.eqv (.tuple [.str x.1,.str x.2]) (.tuple [.str y.1,.str y.2])=decide (x=y):=by
 simp only[PyData.eqv,PyData.eqvAll,vM];rw[o5];simp[Prod.ext_iff]
theorem adY (x:Str×Str) (l:List (Str×Str)):((fJ (l.map pair)).any fun y=>PyData.eqv y (pd (pair x)))=l.contains x:=by
 rw[JB,HD]
 induction l with
 |nil=>rfl
 |cons a l ih=>
  rw[aJ,Ew,ih,List.contains_cons,U5];congr 1;rw[o5,p7,kX];exact eq_comm
end
section
open PySem.W
noncomputable def jM (last:List Str) (g:Str):List Nat:=(List.range last.length).filter fun k=>cA (last.getD k Str.empty) g
noncomputable def g5 (ks last:List Str):Nat→List (Str×Str)→List (Int×Int)
 |_,[]=>[]
 |i,p::r=>if ks.any (fun x=>cA x p.2)then g5 ks last (i+1) r else(jf (-1) ((jM last p.2).map fun k:Nat=>(k:Int)),(i:Int))::g5 ks last (i+1) r
theorem vn (ks last i p r):g5 ks last i (p::r)=if ks.any (fun x=>cA x p.2)then g5 ks last (i+1) r else(jf (-1) ((jM last p.2).map fun k:Nat=>(k)),(i))::g5 ks last (i+1) r:=rfl
theorem LV (ks last i):g5 ks last i []=[]:=rfl
noncomputable def jb (aA:List (Str×D)) (p:Str×Str):List (Str×D):=match cI aA p.1 with|some v=>fR (gw aA p.1) p.2 v|none=>aA
noncomputable def CX:List (Str×D)→List (Str×Str)→Prop
 |_,[]=>True
 |aA,p::r=>(cI aA p.1).isSome=true∧CX (jb aA p) r
structure MJ (aA:List (Str×D)) (G:List (Str×Str)) (last:List Str):Prop where
 six:G.length≤6
 ok:∀x∈G,(PyData.strOk x.1=true∧PyData.strOk x.2=true)∧x.1.length≤1000∧x.2.length≤1000
 z0:aA.length≤100
 iS:∀x∈aA,x.1.length≤1000
 SI:last.length≤100
 lk:∀x∈last,x.length≤1000
noncomputable def wu:Nat→St→List (Str×D)→List (Str×Str)→List Str→List (Str×Str)→List (Str×D)→Prop
 |0,_,_,_,_,_,_=>False
 |n+1,st,aA,G,last,L,K=>MJ aA G last∧∃(T:List (Int×Int)) (af:List (Str×Str)),T.Perm (g5 (aA.map Prod.fst) last 0 G)∧T.Pairwise (fun x y=>iE x y=true)∧T.map (fun p=>G[p.2.toNat]?)=af.map some∧
  st.ready=some (af.map Prod.fst)∧(∀x∈af.map Prod.fst,x∈st.nodes.map (fun x=>x.name))∧(decide (st.fin<st.j6)|| !af.isEmpty)= !af.isEmpty∧
  (af=[]→L=G∧K=aA)∧
  (af≠[]→yE (sD st (af.map Prod.fst)) (af.map Prod.fst)∧CX aA af∧wu n ((af.map Prod.fst).foldl kP (sD st (af.map Prod.fst))) (af.foldl jb aA) (G.filter fun p=>!af.contains p) (af.map Prod.fst) L K)
theorem Qd (n):intsFrom 0 n=(List.range n).map fun k:Nat=>D.int (k):=by
 have main:∀(n a:Nat),intsFrom (a:Int) n=(List.range' a n).map fun k:Nat=>D.int (k:Int):=by
  intro n
  induction n with
  |zero=>intro a;rfl
  |succ n ih=>
   intro a;refine U List.range'_succ (U aJ (ZB (ih (a+1)) ?_));rfl
 exact U List.range_eq_range' (main n 0)
theorem BL (ks last):∀G i,(g5 ks last i G).length≤G.length
 |[],_=>aH _
 |p::r,i=>by
  rw[vn];have:=BL ks last r (i+1);split
  ·exact U bU (oW ‹_›)
  ·refine U bU (U bU ?_);exact gr ‹_›
theorem LL (ks last) (p):∀G i,g5 ks last i (G++[p])=g5 ks last i G++(if ks.any (fun x=>cA x p.2)then []else [(jf (-1) ((jM last p.2).map fun k:Nat=>(k)),((i+G.length:Nat):Int))])
 |[],i=>by
  show g5 ks last i [p]=_;rw[vn,LV,LV];split<;>rfl
 |q::r,i=>by
  have ih:=LL ks last p r (i+1);have e:i+1+r.length=i+(q::r).length:=by refine U bU ?_;exact wV ..
  rw[e]at ih;refine U m9 ?_;rw[vn,vn];split
  ·exact U ih rfl
  ·refine U ih ?_;rfl
theorem Oj {l:List Str} {P:Str→Bool}:(l.filter P).isEmpty= !l.any P:=by
 induction l with
 |nil=>rfl
 |cons a l ih=>
  refine U iV (U Ew ?_);cases h:P a
  ·simpa using ih
  ·simp
theorem bH.out {Y:B} {S:Addr} {y:Lay} {st:St} (h:bH Y S y st) {X:Addr} (mH:X∉y.foot S) (v):bH (Y.put X v) S y st:=by
 have ud:∀b∈y.foot S,b≠X:=fun b hb e=>mH (e▸hb);refine⟨(B.aa _ _ (ud _ (y.WC S))).trans h.inst,(B.aa _ _ (ud _ (y.zY S))).trans h.attrs,(B.aa _ _ (ud _ (y.Nt S))).trans h.fu,h.dK.congr fun a ha=>?_,h.gI.congr fun R bD l e=>(B.aa _ _ (ud _ (y.HL S bD))).trans e,h.qn,h.pA⟩;have hm:∀b∈[a.i,a.d,a.l],b∈y.foot S:=fun b hb=>.tail _ (.tail _ (.tail _ (mz _ (zT.mpr ⟨a,ha,hb⟩))));exact⟨B.aa _ _ (ud _ (hm _ (by simp))),B.aa _ _ (ud _ (hm _ (by simp))),B.aa _ _ (ud _ (hm _ (by simp)))⟩
theorem bI.wide (h:bI F Y F I) (hs:∀a∈F,a∈dY):bI dY Y dY I:=⟨fun a ha hm=>h.1 a (fun q=>ha (hs a q)) hm,fun J q=>.inl q⟩
theorem WL:(jb aA p).length≤aA.length+1:=by
 unfold jb
 induction cI aA p.1 with
 |none=>exact b7 _
 |some v=>
  dsimp only;have h1:(gw aA p.1).length≤aA.length:=ir _ _;unfold fR;split
  ·rw[b8];exact oW ‹_›
  ·refine U dR ?_;simp only[bU,gU];exact gr ‹_›
theorem WZ {T:List (Int×Int)} {G af:List (Str×Str)} (h:T.map (fun p=>G[p.2.toNat]?)=af.map some):∀p∈af,p∈G:=by
 intro p hp;have:some p∈T.map (fun p=>G[p.2.toNat]?):=by refine U h ?_;exact cz hp
 refine wS (ao.mp this) fun q J e=>?_;exact s_ e
theorem EG (ks last):∀G i,∀q∈g5 ks last i G,0≤q.2
 |[],_,q,h=>by cases h
 |p::r,i,q,h=>by
  rw[vn]at h;split at h
  ·exact EG ks last r (i+1) q h
  ·refine bC h ?_ fun h=>?_
   ·exact kr _
   ·exact EG ks last r (i+1) q h
theorem Te (P:Params):specialIn (KF P) (.ref 120) "__get__" =some (some (.builtin "function.__get__")):=by kernel_rfl
theorem ab4 (P:Params):takesIn (KF P) (.ref 120)=some false:=by kernel_rfl
noncomputable abbrev JM (S X:Addr) (G:List (Str×Str)) (bR bM d8 cT dB jj:Option D):XV:=[⟨"sorter",.loc,some (.val (.ref S))⟩,⟨"disk",.loc,some (.val (.ref X))⟩,⟨"left",.aL,some (.list (G.map pair))⟩,⟨"last",.aL,bR⟩,⟨"due",.loc,bM⟩,⟨"i",.loc,d8⟩,⟨"start",.loc,cT⟩,⟨"goal",.aL,dB⟩,⟨"moving",.aL,jj⟩,
 ⟨"range",.bw,some (.val (.type "range"))⟩,⟨"len",.bw,some (.val (.builtin "len"))⟩,⟨"max",.bw,some (.val (.builtin "max"))⟩,⟨"sorted",.bw,some (.val (.builtin "sorted"))⟩,⟨"tuple",.bw,some (.val (.type "tuple"))⟩]
theorem CR (l:List Str):(PyData.tuple (l.map .str)).depth≤1:=by
 rw[PyData.depth];have:PyData.depthAll (l.map PyData.str)=0:=by
  induction l with
  |nil=>rfl
  |cons x l ih=>rw[aJ,PyData.depthAll,ih];rfl
 exact Em ‹_›
theorem Kp (l:List (Str×Str)):(PyData.list (fJ (l.map pair))).depth≤2:=by
 rw[PyData.depth,JB];have:PyData.depthAll (l.map fun x=>PyData.tuple [.str x.1,.str x.2])≤1:=by
  induction l with
  |nil=>exact e_ _
  |cons x l ih=>
   rw[aJ,PyData.depthAll];exact Nat.max_le.mpr ⟨CR [x.1,x.2],ih⟩
 exact fU ‹_› (by decide)
theorem UU {T:List (Int×Int)} {G af:List (Str×Str)} (h:T.map (fun p=>G[p.2.toNat]?)=af.map some):T.map (fun p=>pair (G.getD p.2.toNat (Str.empty,Str.empty)))=af.map pair:=by
 have:=cN (List.map fun o:Option (Str×Str)=>pair (o.getD (Str.empty,Str.empty))) h;rw[cJ,cJ]at this;exact this
theorem aft {T:List (Int×Int)} {G af:List (Str×Str)} (h:T.map (fun p=>G[p.2.toNat]?)=af.map some) {p:Int×Int} (hp:p∈T):G[p.2.toNat]?=some (G.getD p.2.toNat (Str.empty,Str.empty)):=by
 have:G[p.2.toNat]?∈af.map some:=by refine ZB h ?_;exact cz (f:=fun p:Int×Int=>G[p.2.toNat]?) hp
 refine wS (ao.mp this) fun x J e=>?_;rw[iw,←e];rfl
section
variable {c:ah} {k:Nat}
inductive Ra (S X:Addr) (y:Lay) (L:List (Str×Str)) (K:List (Str×D)) (aI:B) (n:Nat) (O:XV) (Y:B):Prop
 |mk (st:St) (aA:List (Str×D)) (G:List (Str×Str)) (last:List Str) (bM d8 cT dB jj:Option D):(wu n st aA G last L K)→(bH Y S y st)→(Y X=some (.dict aA))→(bI (X::y.foot S) aI (X::y.foot S) Y)→(O=JM S X G (some (.list (ww last))) bM d8 cT dB jj)→Ra S X y L K aI n O Y
inductive LI (S X kH:Addr) (G:List (Str×Str)) (last:List Str) (aA:List (Str×D)) (jj:Option D) (Y:B) (aD:List D) (O:XV) (I:B):Prop
 |mk (done ay:List (Str×Str)) (d8 cT dB:Option D):(G=done++ay)→(aD=intsFrom (done.length:Nat) ay.length)→(I=Y.put kH (some (.list ((g5 (aA.map Prod.fst) last 0 done).map pairD))))→(O=JM S X G (some (.list (ww last))) (some (.val (.ref kH))) d8 cT dB jj)→LI S X kH G last aA jj Y aD O I
inductive NR (S X kH:Addr) (y:Lay) (st:St) (G af:List (Str×Str)) (yu:List (Str×D)) (d8:Option D) (aI:B) (aD:List D) (O:XV) (Y:B):Prop
 |mk (ay:List (Str×Str)) (iS:List (Str×D)) (cT dB:Option D):(aD=ay.map pair)→(CX iS ay)→(ay.foldl jb iS=yu)→(iS.length+ay.length≤106)→(bH Y S y (sD st (af.map Prod.fst)))→(Y X=some (.dict iS))→(bI (X::y.foot S) aI (X::y.foot S) Y)→(O=JM S X G (some (.list (ww (af.map Prod.fst)))) (some (.val (.ref kH))) d8 cT dB (some (.list (af.map pair))))→NR S X kH y st G af yu d8 aI aD O Y
theorem Sx {S X:Addr} {y:Lay} {xF:St} {f_ L:List (Str×Str)} {oR K:List (Str×D)} {aI:B} {ze:Nat} (t:aT c) (z8:bH aI S y xF) (rj:aI X=some (.dict oR)) (tX:X∉y.foot S) (GY:wu ze xF oR f_ [] L K):
 wE c (k+2) (vars [("sorter",.loc),("disk",.loc),("left",.aL)] [.val (.ref S),.val (.ref X),.list (f_.map pair)] [("last",.aL),("due",.loc),("i",.loc),("start",.loc),("goal",.aL),("moving",.aL)] [("range",.type "range"),("len",.builtin "len"),("max",.builtin "max"),("sorted",.builtin "sorted"),("tuple",.type "tuple")]) aI (gJ (bF 32))
  (ux fun d I=>d= .list (L.map pair)∧I X=some (.dict K)∧bI (X::y.foot S) aI (X::y.foot S) I):=by
 kst_p
 have hh:=t.hd;have hsub:∀a∈y.foot S,a∈X::y.foot S:=fun a ha=>.tail _ ha;refine wE.cons (FM.assign (d:=.list []) (f8.list .nil) (by kd_in) ?_);refine wE.cons (FM.while (Ra S X y L K aI)
  ze ⟨xF,oR,f_,[],none,none,none,none,none,GY,z8,rj,.refl _ _,rfl⟩ ?_)
 intro n NE Y Go;obtain⟨st,aA,G,last,bM,d8,cT,dB,jj,bD,hs,mH,ol,rfl⟩:=Go;refine fW true (az.plain (by kd_p) di.bool) (fun J=>?_) (fun h=>(by injection h));rcases n with _|n
 ·exact bD.elim
 refine Op bD fun jn aev=>Rr aev fun T af xy BA t7 pW uK Z8 hz oS=>?_;refine wE.cons (FM.iG (aE.newList (ds:=[]) .nil (by simp) fun kH C1=>⟨_,by kd_in,?_⟩));have OD:X≠kH:=by rintro rfl;rw[mH]at C1;injection C1
 refine wE.cons (FM.for hh tH (items:=intsFrom 0 G.length) (bA.range (by kd_p) ?_ (by have:=jn.six;exact Ev ‹_› (by decide))) (LI S X kH G last aA jj Y)
  ⟨[],G,d8,cT,dB,rfl,rfl,rfl,rfl⟩ (fun J J J J=>trivial) ?_ ?_)
 ·exact ZB (show(G.map pair).length=G.length by simp) (f8.len (by kd_p) (by kd_p) aK.list (by simp;have:=jn.six;exact Ev ‹_› (by decide)))
 ·intro d rest NE I Go;obtain⟨done,ay,d8,cT,dB,iH,bE,rfl,rfl⟩:=Go;rcases ay with _|⟨x,ay⟩
  ·injection bE
  refine Op (jd bE) fun Sw afG=>?_;subst Sw;subst afG;have hx:x∈G:=by refine U iH ?_;simp
  refine bh.name (by kd_in) ?_;refine wE.cons (FM.B8 hh (d:=pair x) (f8.sub (by kd_p) (by kd_p) (Rs.item (l:=G.map pair) (i:=(done.length:Nat)) aK.list (kr _) ?_ (by simp;have:=jn.six;exact Ev ‹_› (by decide)))) (bh.tuple (bh.name (by kd_in) (bh.name (by kd_in) ?_))))
  ·refine U iH ?_;simp
  have Xd:(Y.put kH (some (.list ((g5 (aA.map Prod.fst) last 0 done).map pairD)))) X=some (.dict aA):=(B.aa _ _ OD).trans mH;have e1:g5 (aA.map Prod.fst) last 0 (done++[x])=_:=LL (aA.map Prod.fst) last x done 0;rw[DI]at e1;refine wE.cons (FM.ifs (b:=!(aA.map Prod.fst).any (fun z=>cA z x.2)) ((az.not (az.plain (d:=.list (ww ((aA.map Prod.fst).filter fun z=>cA z x.2))) (f8.SE Xd fun o kvs hd hk=>?_) (di.list ?_))).to ?_) (fun No=>?_) (fun M2=>wE.nil ?_))
  ·refine aO (HE hd) fun ep hf=>?_;have e:(kvs.map fun z=>D.str z.1)=(aA.map Prod.fst).map .str:=by refine ZB hk (U cJ ?_);rfl
   refine f8.l_ hh (Qm hf).c7 (caps:=[("goal",.str x.2)]) (gs:=[("_law_meets",.ref 266)]) (ts:=[("place",.loc)]) (items:=kvs.map fun z=>D.str z.1) (by intros;rfl) (by dsimp only[List.map];decide+kernel) ?_ (bB (t.glob (by kd_p)) cG) (bA.keys (by kd_p) (B.ai ..) hf) (B.ai ..) ?_
   ·intro z hz;simp only[aY,d_,gO]at hz;rcases hz with rfl;exact⟨.aL,.inl rfl,by walk_at "v"⟩
   ·refine U e ?_;refine dO.one (xs:=aA.map Prod.fst) (P:=fun z=>cA z x.2) (F:=.str) .str (by rw[b8];have:=jn.z0;exact Ev ‹_› (by decide)) fun z hz=>?_
    kst_p
    refine wS (ao.mp hz) fun RJ jc s4=>?_;subst s4;exact⟨eK.one (az.plain (f8.call (by kd_p) (fM (st:=bF 26) (t.fn rfl rfl rfl rfl)) (.cons (by kd_p) (.cons (by kd_p) .nil (by kd_p)) (by kd_p)) (cg.r (GO (k:=k+1) (t.fn rfl rfl rfl rfl) (jn.iS _ jc) (jn.ok x hx).2.2)) (by kd_p)) di.bool),fun J=>by kd_p⟩
  ·unfold ww;have:=ir (fun z=>cA z x.2) (aA.map Prod.fst);rw[b8]at this⊢;have:=jn.z0;exact fS ‹_› this (by decide)
  ·unfold ww;refine U Dj (U Oj ?_);simp
  ·have yh:(aA.map Prod.fst).any (fun z=>cA z x.2)=false:=by simpa using No
   rw[yh,Tk (by simp)]at e1;have n7:=jn.SI;refine wE.cons (FM.expr (aE.append (d:=pairD (jf (-1) ((jM last x.2).map fun k:Nat=>(k:Int)),(done.length:Nat))) (l:=(g5 (aA.map Prod.fst) last 0 done).map pairD) (by kd_p) (f8.tuple (ds:=[.int (jf (-1) ((jM last x.2).map fun k:Nat=>(k:Int))),.int (done.length:Nat)]) (.cons (f8.call (ds:=[.list (((-1:Int)::(jM last x.2).map fun k:Nat=>(k:Int)).map .int)]) (by kd_p) r_ (.cons ?_ .nil (by kd_p)) (bZ.jf hh) (by kd_p)) (.cons (by kd_p) .nil (by kd_p)) (by kd_p)) (by simp)) (B.ai ..) ?_ ?_))
   ·refine f8.bin (d₁:=.list [.int (-1)]) (d₂:=.list ((jM last x.2).map fun k:Nat=>D.int (k:Int))) (f8.list (.cons (f8.neg (by kd_p)) .nil (by kd_p))) ?_ ?_
    ·refine f8.l_ hh tH (caps:=[("goal",.str x.2),("last",.list (ww last))]) (gs:=[("_law_meets",.ref 266)]) (ts:=[("k",.loc)]) (items:=intsFrom 0 last.length) (by intros;rfl) (by dsimp only[List.map];decide+kernel) ?_ (bB (t.glob (by kd_p)) cG) (bA.range (by kd_p) ?_ (by kd_p)) trivial ?_
     ·intro z hz;simp only[aY,d_,gO]at hz;rcases hz with rfl|rfl
      ·exact⟨.aL,.inl rfl,by walk_at "v"⟩
      ·exact⟨.aL,.inl rfl,by walk_at "v"⟩
     ·exact ZB (show(ww last).length=last.length by simp[ww]) (f8.len (by kd_p) (by kd_p) aK.list (by simp[ww];exact Ev ‹_› (by decide)))
     ·rw[Qd];refine dO.one (xs:=List.range last.length) (P:=fun k=>cA (last.getD k Str.empty) x.2) (F:=fun k:Nat=>D.int (k:Int)) (fun k:Nat=>D.int (k:Int)) (by refine U I_ ?_;exact Ev ‹_› (by decide)) fun i hi=>?_
      kst_p
      have lz:i<last.length:=qy.mp hi;have hg:(ww last)[((i:Nat):Int).toNat]?=some (.str (last.getD i Str.empty)):=by
       unfold ww;rw[qQ,kI,fV lz,iw,fV lz];rfl
      have ZH:(last.getD i Str.empty).length≤1000:=by
       rw[iw,fV lz];exact jn.lk _ (rF lz)
      exact⟨eK.one (az.plain (f8.call (by kd_p) (fM (st:=bF 26) (t.fn rfl rfl rfl rfl)) (.cons (f8.sub (by kd_p) (by kd_p) (Rs.item aK.list (kr _) hg (by simp[ww];exact Ev ‹_› (by decide)))) (.cons (by kd_p) .nil (by kd_p)) (by kd_p)) (cg.r (GO (k:=k+1) (t.fn rfl rfl rfl rfl) ZH (jn.ok x hx).2.2)) (by kd_p)) di.bool),fun J=>by kd_p⟩
    ·have hb:((jM last x.2).map fun k:Nat=>D.int (k:Int)).length≤last.length:=by
      rw[b8];unfold jM;exact Ev (ir _ _) (by refine U I_ ?_;exact aH _)
     have e2:(((-1:Int)::(jM last x.2).map fun k:Nat=>(k:Int)).map D.int)=[.int (-1)]++((jM last x.2).map fun k:Nat=>D.int (k:Int)):=by
      refine U aJ (U cJ ?_);rfl
     exact U e2 (Rs.BH aK.list aK.list (by simp only[bU,gU];exact Ev (jl (Ev hb ‹_›) 1) (by decide)))
   ·rw[b8];have h1:=BL (aA.map Prod.fst) last done 0;have h2:=cN List.length iH;rw[dR]at h2;have:=jn.six;exact fS h1 (Ev (bV ..) (bT h2.symm)) (Ev this (by decide))
   ·refine wE.nil (wE.nil ⟨done++[x],ay,_,_,_,by refine U iH ?_;simp,?_,?_,rfl⟩)
    ·refine U dR ?_;rfl
    ·refine U B.mq (U e1 (U gA ?_));rfl
  ·have yh:(aA.map Prod.fst).any (fun z=>cA z x.2)=true:=by simpa using M2
   rw[yh,ak rfl,fQ]at e1;refine wE.nil ⟨done++[x],ay,_,_,_,by refine U iH ?_;simp,?_,?_,rfl⟩
   ·refine U dR ?_;rfl
   ·exact U e1 rfl
 intro NE I Go;obtain⟨done,ay,d8,cT,dB,iH,bE,rfl,rfl⟩:=Go;rcases ay with _|⟨x,ay⟩
 rotate_left
 ·injection bE
 rw[fQ]at iH;subst iH;refine wE.nil ?_;have af6:T.length≤6:=by refine U xy.length_eq ?_;exact Ev (BL ..) jn.six
 have zK:af.length≤6:=by
  have:=cN List.length t7;rw[b8,b8]at this;exact jX (sX ‹_›) ‹_› (by decide)
 have hmem:=WZ t7;refine wE.cons (FM.nV hh gG (caps:=[("left",.list (G.map pair))]) (gs:=[]) (ts:=[("k",.loc),("i",.loc)]) (out:=af.map pair) (by intros;rfl) (by dsimp only[List.map];decide+kernel) ?_ cG (bA.list (l:=T.map pairD) (f8.call (ds:=[.val (.ref kH)]) (by kd_p) r_ (.cons (by kd_p) .nil (by kd_p)) (bZ.aeq (aK.cell (B.ai ..)) xy BA (Ev (BL ..) jn.six)) (by kd_p))) trivial ?_ (by kd_in) ?_)
 ·intro z hz;simp only[aY,d_,gO]at hz;rcases hz with rfl;exact⟨.aL,.inl rfl,by walk_at "v"⟩
 ·have e:af.map pair=(T.filter fun J=>true).map fun p=>pair (G.getD p.2.toNat (Str.empty,Str.empty)):=by
   exact U (kW.mpr (fun J J=>rfl)) (U (UU t7) rfl)
  refine U e ?_;refine dO.two (xs:=T) (P:=fun J=>true) (F:=fun p=>pair (G.getD p.2.toNat (Str.empty,Str.empty))) (fun p=>.int p.1) (fun p=>.int p.2) (by kd_p) fun p hp=>?_
  kst_p
  refine⟨eK.nil,fun J=>f8.sub (by kd_p) (by kd_p) (Rs.item (l:=G.map pair) aK.list (EG _ _ _ _ p (xy.mem_iff.mp hp)) ?_ (by rw[b8];have:=jn.six;exact Ev ‹_› (by decide)))⟩;rw[kI,aft t7 hp];rfl
 refine wE.cons (FM.nV hh gG (caps:=[]) (gs:=[]) (ts:=[("start",.loc),("goal",.loc)]) (out:=ww (af.map Prod.fst)) (by intros;rfl) (by kd_p) (by simp) cG (bA.list (l:=af.map pair) (by kd_p)) trivial (by
  have e:ww (af.map Prod.fst)=(af.filter fun J=>true).map fun p=>.str p.1:=by
   refine U (kW.mpr (fun J J=>rfl)) ?_;unfold ww;refine U cJ ?_;rfl
  refine U e ?_;exact dO.two (xs:=af) (P:=fun J=>true) (F:=fun p=>.str p.1) (fun p=>.str p.1) (fun p=>.str p.2) (by kd_p) fun p hp=>⟨eK.nil,fun J=>by kd_p⟩) (by kd_in) ?_)
 have rT:bH (Y.put kH (some (.list ((g5 (aA.map Prod.fst) last 0 G).map pairD)))) S y st:=hs.keep (e8.put C1 _);have Ce:(Y.put kH (some (.list ((g5 (aA.map Prod.fst) last 0 G).map pairD)))) X=some (.dict aA):=(B.aa _ _ OD).trans mH;have Hh:bI (X::y.foot S) aI (X::y.foot S) (Y.put kH (some (.list ((g5 (aA.map Prod.fst) last 0 G).map pairD)))):=ol.trans (.fresh C1 (fun b hb=>.inl hb) _);generalize Y.put kH (some (.list ((g5 (aA.map Prod.fst) last 0 G).map pairD)))=gm at rT Ce Hh⊢;have Ni:iy (af.map pair)=true:=Ry pair af fun x J=>Js x;have Ga:∀x∈af,PyData.strOk x.1=true∧PyData.strOk x.2=true:=fun x hx=>(jn.ok x (hmem x hx)).1;have aaG:PySem.SeqAt.shaped (.list (fJ (af.map pair)))=true:=by
  unfold PySem.SeqAt.shaped;rw[kJ,p7];refine⟨by rw[PyData.canLay0];exact Gu af Ga,?_⟩;exact Ev (Kp af) (by decide)
 have Se:iy (ww (af.map Prod.fst))=true:=BC _;have adI:∀x∈af.map Prod.fst,PyData.strOk x=true:=fun x hx=>by
  refine wS (ao.mp hx) fun p hp s4=>?_;subst s4;exact(Ga p hp).1
 have acV:PySem.SeqAt.shaped (pd (.tup (ww (af.map Prod.fst))))=true:=by
  unfold PySem.SeqAt.shaped;rw[Px,xq,kJ,p7];refine⟨by rw[PyData.canLay0];exact yW _ adI,Ev (CR _) (by decide)⟩
 refine wE.cons (FM.II (gE.or (gE.cmp (aE.nO t (by kd_p) rT.inst rT.attrs (by rfl) (jg ..) (Sv ..) (VI ..) (fM (st:=d7 6 5) (t.fn rfl rfl rfl rfl)) .nil (c_.mono (cu.r (UN (k:=k+1) t rT pW (by rw[b8];exact Ev ‹_› (by decide)))) ?_)))));intro d _ Go;refine Op Go fun aeT Xs=>?_;subst aeT;subst Xs;refine jz _ false (f8.cmp (by kd_p) (f8.list .nil) (Rs.Yv Ni aaG)) ?_ rfl ?_
 ·have e:(decide (st.fin<st.j6)|| !(af.map Prod.fst).isEmpty)= !(af.map pair).isEmpty:=by
   refine U Dj (U Dj ?_);exact Z8
  exact U e Rs.S7
 refine gE.Q0 (gE.cmp (aE.nO t (by kd_p) rT.inst rT.attrs (by rfl) (jg ..) (T4 ..) (acp ..) (fM (st:=d7 6 4) (t.fn rfl rfl rfl rfl)) .nil (c_.mono (cu.r (Vz (k:=k+1) t rT pW (by rw[b8];exact Ev ‹_› (by decide)) uK)) ?_)));intro d jW Go;refine b4 Go fun Zc n5 kj=>?_;subst Zc;refine jz (.tup (ww (af.map Prod.fst))) false (f8.call (ds:=[.list (ww (af.map Prod.fst))]) (f:=.type "tuple") (by kd_p) (.inl fun a e=>(by injection e)) (.cons (by kd_p) .nil (by kd_p)) (bZ.KN aK.list (by simp[ww];exact Ev ‹_› (by decide))) (by kd_p)) (Rs.DW (by rw[J'];exact Se) acV) rfl ⟨fun h=>(by injection h),fun J=>wE.nil ?_⟩;have KJ:jW X=some (.dict aA):=(kj.1 X tX (by refine U Ce ?_;simp)).trans Ce;have Q4:bI (X::y.foot S) aI (X::y.foot S) jW:=Hh.trans (kj.wide hsub);clear kj rT Ce Hh;refine wE.cons (FM.ifs (b:=af.isEmpty) ((az.not (az.plain (by kd_p) (di.list (by rw[b8];exact Ev ‹_› (by decide))))).to (by refine U Dj ?_;simp)) (fun he=>?_) (fun he=>wE.nil ?_))
 ·have TJ:af=[]:=Ed.mp he;refine Op (hz TJ) fun aaC YO=>?_;subst aaC;subst YO;exact wE.cons (FM.ret (d:=.list (L.map pair)) (by kd_p) ⟨rfl,KJ,Q4⟩)
 have a_:af≠[]:=fun e=>by rw[e]at he;injection he
 refine b4 (oS a_) fun aaS zZ wF=>?_;generalize HX:af.foldl jb aA=yu at wF;refine wE.cons (FM.for hh gG (items:=af.map pair) (bA.list (by kd_p)) (NR S X kH y st G af yu d8 aI)
  ⟨af,aA,cT,dB,rfl,zZ,HX,lK jn.z0 zK,n5,KJ,Q4,rfl⟩ (fun J J J J=>trivial) ?_ ?_)
 ·intro d rest NE Y Go;obtain⟨ay,iS,cT,dB,bE,zZ,HX,gg,hs,mH,ol,rfl⟩:=Go;rcases ay with _|⟨x,ay⟩
  ·injection bE
  refine Op (jd bE) fun VZ XO=>?_;subst VZ;subst XO;refine Op zZ fun vj zZ=>?_;rw[bU]at gg;refine aO (xe.mp vj) fun v s5=>?_;have uU:jb iS x=fR (gw iS x.1) x.2 v:=by unfold jb;exact U s5 rfl
  have xr:(gw iS x.1).length≤iS.length:=ir _ _;refine bh.tuple (bh.name (by kd_in) (bh.name (by kd_in) ?_));refine wE.cons (FM.zm (aE.m6 (d₀:=.val (.ref X)) (by kd_p) (kc.dict mH) B9 IP Qk (.cons (by kd_p) .nil (by kd_p)) (c_.PY mH s5 (fS (bV ..) gg (by decide)) ⟨by kd_p,by kd_p,_,B.ai ..,fS (Ev xr (bV ..)) gg (by decide),?_⟩)));refine wE.nil ⟨ay,jb iS x,_,_,rfl,zZ,HX,?_,?_,?_,?_,rfl⟩
  ·have:=WL (aA:=iS) (p:=x);exact JI ‹_› ‹_›
  ·exact U B.mq (hs.out tX _)
  ·exact U uU (B.ai ..)
  ·exact U B.mq (ol.trans (.put (.head _) _))
 intro NE kg Go;obtain⟨ay,iS,cT,dB,bE,_,abd,gg,qf,Kv,BY,rfl⟩:=Go;rcases ay with _|⟨x,ay⟩
 rotate_left
 ·injection bE
 have Vw:iS=yu:=abd;subst Vw;refine wE.nil ?_;have lC:((G.filter fun p=>!af.contains p).map pair)=((G.filter fun p=>!af.contains p).map fun p=>pair p):=rfl;refine wE.cons (FM.nV hh gG (caps:=[("moving",.list (af.map pair))]) (gs:=[]) (ts:=[("pair",.loc)]) (out:=(G.filter fun p=>!af.contains p).map pair) (by intros;rfl) (by dsimp only[List.map];decide+kernel) ?_ cG (bA.list (l:=G.map pair) (by kd_p)) trivial (dO.one (xs:=G) (P:=fun p=>!af.contains p) (F:=pair) pair (by have:=jn.six;exact Ev ‹_› (by decide)) fun p hp=>?_) (by kd_in) ?_)
 ·intro z hz;simp only[aY,d_,gO]at hz;rcases hz with rfl;exact⟨.aL,.inl rfl,by walk_at "v"⟩
 ·kst_p
  refine⟨eK.one (az.cmp (by kd_p) (by kd_p) ?_),fun J=>by kd_p⟩;have RQ:=(jn.ok p hp).1;have h:=Rs.K7 (c:=c) (k:=k+2) (O:=[⟨"pair",.loc,some (pair p)⟩,⟨"moving",.gn,some (.list (af.map pair))⟩]) (Y:=kg) (x:=pair p) (d:=.list (af.map pair)) aK.list (Js p) Ni ?_ (Gu af Ga)
  ·rw[adY]at h;exact h
  ·unfold PySem.SeqAt.shaped;rw[HD,kJ,p7];exact⟨by simp[PyData.canLay0,PyData.canLayAll0,RQ.1,RQ.2],Ev (CR [p.1,p.2]) (by decide)⟩
 refine wE.cons (FM.II (gE.cmp (aE.JY t (by kd_p) qf.inst qf.attrs (by rfl) (jg ..) (TR ..) (S3 ..) (kB ..) (Te ..) (ab4 ..) (by kd_p) (t.fn (st:=d7 6 7) rfl rfl rfl rfl).there (Zu (l:=ww (af.map Prod.fst)) (by kd_p) aK.list (by simp[ww];exact Ev ‹_› (by decide)) (eL.mono (VR (k:=k+1) t qf (r:=[]) rfl (by rw[b8];exact Ev ‹_› (by decide)) (by simp) aaS) ?_)))));intro d vz Go;refine b4 Go fun aah EJ rA=>?_;subst aah;refine jz (.val .none) false (by kd_p) Rs.isNotNone (fun h=>(by injection h)) (fun J=>wE.nil (wE.nil ⟨n,jy n,_,_,_,_,_,_,_,_,_,wF,EJ,?_,?_,rfl⟩))
 ·exact(rA.1 X tX (by refine U Kv ?_;simp)).trans Kv
 ·exact BY.trans (rA.wide hsub)
theorem ac0 {S X:Addr} {y:Lay} {xF:St} {f_ L:List (Str×Str)} {oR K:List (Str×D)} {aI:B} {ze:Nat} (t:aT c) (z8:bH aI S y xF) (rj:aI X=some (.dict oR)) (tX:X∉y.foot S) (GY:wu ze xF oR f_ [] L K):
 cu c (k+3) (.ref 300) [.val (.ref S),.val (.ref X),.list (f_.map pair)] aI (fun d I=>d= .list (L.map pair)∧I X=some (.dict K)∧bI (X::y.foot S) aI (X::y.foot S) I):=by
 exact cu.fn (st:=bF 32) (qual:="_law_rounds") (dV:=.none) (t.fn rfl rfl rfl rfl) (by kd_p)
  (bB (t.dh (by kd_p) (by kd_p) (by decide)) (bB (t.dh (by kd_p) (by kd_p) (by decide)) (bB (t.dh (by kd_p) (by kd_p) (by decide)) (bB (t.dh (by kd_p) (by kd_p) (by decide)) (bB (t.dh (by kd_p) (by kd_p) (by decide)) cG))))) rfl (fun J J=>.plain rfl (O3 fun J J J=>rfl)) fun bN A V s bs Z ok w Q E q=>Sx (t.at (L:=bN)) z8 rj tX GY A V s bs Z ok w Q E fun fZ f s' Z' r cP dz hp=>q fZ f s' Z' r cP dz (by cases fZ<;>first|exact hp|exact hp.elim)
end
end
section
open PySem.W
section
variable {c:ah} {k:Nat} {O:XV} {Y:B} {Sc:D→B→Prop}
theorem aE.tuple (ha:mw c k O Y es fun ds I=>ds.length≤1000∧Sc (.tup ds) I):aE c k O Y (.Tuple es n pos) Sc:=by
 intro A V s Z ok x Q E q;refine Tuple_ (ha A V s Z pos ok x _ E fun ds I H s₁ aC EQ s5 adt=>Op adt fun hz hp=>Au EQ.top EQ.sub s5 (by refine U cQ ?_;exact Ev ‹_› (by decide)) fun v s' Z' t gT=>?_);exact q _ I v s' Z' (EQ.trans (t.after (x.after EQ))) gT hp
theorem bZ.Sa (h:i.natAbs.log2<1920):bZ c k O Y (.type "str") [.int i] (.str (Str.ofString (toString i))):=by
 intro A V s Z H ok r t Q E g;refine wS (iF t) fun v s4 s5=>?_;subst s4;refine s5.i fun J=>?_;exact PySem.P.str_of_int h (gV g r.top r.sub (.str _ _) (b7 _))
theorem Xb {α:Type _} {p q r:Prop} [Decidable p] [Decidable q] [Decidable r] {a b:α} (h:r):(if p then a else if q then a else if r then a else b)=a:=by
 by_cases hp:p
 ·exact ak hp
 ·refine(Tk hp).trans ?_;by_cases Ch:q
  ·exact ak Ch
  ·exact(Tk Ch).trans (ak h)
theorem VQ {α:Type _} {F:Expr→Option α} (h:F x=none∨F y=none):([x,y].filterMap F).length≠2:=by
 rcases h with h|h
 ·exact U (LY h) (fun e=>JN 1 (Ev (bT e.symm) (LG F [y])))
 ·intro e;have e1:[x,y].filterMap F=[x].filterMap F++[y].filterMap F:=List.filterMap_append (l:=[x]) (l':=[y]);rw[e1,LY (l:=[]) h,List.filterMap_nil,fQ]at e;exact JN 1 (Ev (bT e.symm) (LG F [x]))
theorem aex {α:Type _} {p q r s u:Prop} [Decidable p] [Decidable q] [Decidable r] [Decidable s] [Decidable u] {a b e:α} (h1:¬p) (h2:¬q) (h3:¬r) (h4:¬s) (h5:¬u):(if p then a else if q then a else if r then a else if s then a else if u then b else e)=e:=
 (Tk h1).trans ((Tk h2).trans ((Tk h3).trans ((Tk h4).trans (Tk h5))))
theorem L6 {F:Expr→Option Str} (h1:F x=some a) (h2:F y=some b):[x,y].filterMap F=[a,b]:=
 (Qn h1).trans (cN (fun l=>a::l) (Qn h2))
theorem PI (h:V.kindOf a=some .cell∨V.kindOf b=some .cell):swappedStores [.Tuple [.Name a jh,.Name b mP] n p] (.Tuple [lF,nM] m c6) V=pure none:=by
 delta swappedStores;refine Xb ?_;rw[oB];refine .inl (yv.mpr (VQ (h.imp (fun h=>Tk ?_) fun h=>Tk ?_)))
 ·exact U h oA
 ·exact U h oA
theorem Xg (hb:V.kindOf b=some .cell):swappedStores [.Tuple [.Name a jh,.Name b mP] n p] (.Tuple [lF,nM] m c6) V=pure none:=PI (.inr hb)
end
end
section
open PySem.W
structure Told (ws:List (Str×List Str)) (G:List (Str×Str)) (b:Option (List Str)):Prop where
 six:G.length≤6
 ok:∀x∈G,(PyData.strOk x.1=true∧PyData.strOk x.2=true)∧x.1.length≤1000∧x.2.length≤1000
 way:∀x∈G,∃l,j5 ws x.2=some l∧l.length≤1000∧∀y∈l,PyData.strOk y=true
 nd:(G.map Prod.fst).Nodup
 ring:vL G=some b
 adK:∃dD,scan (mY G ws).nodes dD ((mY G ws).nodes.map (fun x=>x.name)) []=some b
 nodes:(mY G ws).nodes.length≤900
 cl:∀n∈(mY G ws).nodes,∀x∈n.succ,x∈(mY G ws).nodes.map (fun x=>x.name)
 gI:(mY G ws).ready=none
 VU:∀l,b=some l→∀x∈l,PyData.strOk x=true
noncomputable def dW (n:Nat):Str:=Str.ofString "/aside/" ++Str.ofString (toString (n:Int))
noncomputable def pK (bY a:Str) (G:List (Str×Str)):List (Str×Str):=G.map fun p=>(if p.1=bY then a else p.1,p.2)
noncomputable def vH (ws:List (Str×List Str)):Nat→Nat→List (Str×D)→List (Str×Str)→Prop
 |0,_,_,_=>False
 |n+1,turn,aA,G=>∃(b:Option (List Str)) (m:Nat) (L:List (Str×Str)) (K:List (Str×D)),Told ws G b∧wu m (lO (mY G ws)) aA G [] L K∧
  ∀ring,b=some ring→∃bY rest v,ring=bY::rest∧L.length≤6∧K.length≤1000∧cI K bY=some v∧vH ws n (turn+1) (fR (gw K bY) (dW turn) v) (pK bY (dW turn) L)
theorem aaA {n:Nat} (h:n≤10):((n:Int)).natAbs.log2<1920∧(Str.ofString (toString (n:Int))).length≤10:=by
 have:∀n:Fin 11,((n.val:Int)).natAbs.log2<1920∧(Str.ofString (toString (n.val:Int))).length≤10:=by decide+kernel
 exact this ⟨n,by exact fU ‹_› (by decide)⟩
theorem Ui (b:Option (List Str)):jw (mZ b)=true:=by
 induction b with
 |none=>rfl
 |some l=>show jw (.list (ww l))=true;rw[CQ];exact BC l
theorem Uc (h:∀l,b=some l→∀x∈l,PyData.strOk x=true):PySem.SeqAt.shaped (pd (mZ b))=true:=by
 induction b with
 |none=>decide+kernel
 |some l=>
  show PySem.SeqAt.shaped (pd (.list (ww l)))=true;unfold PySem.SeqAt.shaped;rw[wZ,xq,kJ,p7];refine⟨by rw[PyData.canLay0];exact yW l (h l rfl),?_⟩;have:=CR l;rw[PyData.depth]at this;rw[PyData.depth];exact Ev ‹_› (by decide)
theorem ZQ (b:Option (List Str)):xx (mZ b)=b.isNone:=by cases b<;>rfl
noncomputable def CM (b:Option (List Str)):D:=match b with|none=>.val .none|some _=>.str "ring"
theorem abv (b:Option (List Str)):jw (CM b)=true:=by cases b<;>rfl
theorem T9 (b:Option (List Str)):PySem.SeqAt.shaped (pd (CM b))=true:=by
 induction b with
 |none=>decide+kernel
 |some l=>show PySem.SeqAt.shaped (pd (.str "ring"))=true;decide+kernel
theorem S8 {c:ah} {k:Nat} {Y:B} {S:Addr} {y:Lay} {st:St} {dD:Nat} {b:Option (List Str)} (t:aT c) (h:bH Y S y st) (hr:st.ready=none) (hz:st.nodes.length≤900) (ez:∀n∈st.nodes,∀x∈n.succ,x∈st.nodes.map (fun x=>x.name)) (hb:scan st.nodes dD (st.nodes.map (fun x=>x.name)) []=some b):
 cu c (k+3) (.ref 295) [.val (.ref S)] Y (fun d I=>d=CM b∧∃R,bH I S (gi y R) (lO st)∧bI (y.foot S) Y ((gi y R).foot S) I):=by
 induction b with
 |none=>exact aad (ring:=[]) t h hr hz ez hb
 |some l=>exact Vq t h hr hz ez hb
noncomputable abbrev TP (X:Addr) (G:List (Str×Str)) (bR bM d8 cT dB:Option D):XV:=[⟨"disk",.loc,some (.val (.ref X))⟩,⟨"left",.loc,some (.list (G.map pair))⟩,⟨"ways",.loc,bR⟩,⟨"turn",.loc,bM⟩,⟨"sorter",.loc,d8⟩,⟨"ring",.aL,cT⟩,⟨"aside",.aL,dB⟩,
 ⟨"_law_ways",.bw,some (.val (.ref 278))⟩,⟨"range",.bw,some (.val (.type "range"))⟩,⟨"_law_told",.bw,some (.val (.ref 283))⟩,⟨"_law_ring",.bw,some (.val (.ref 288))⟩,⟨"_law_prepared",.bw,some (.val (.ref 295))⟩,⟨"_law_rounds",.bw,some (.val (.ref 300))⟩,⟨"str",.bw,some (.val (.type "str"))⟩]
section
variable {c:ah} {k:Nat}
inductive J2 (f_:List (Str×Str)) (W X:Addr) (aD:List D) (O:XV) (Y:B):Prop
 |mk (n turn:Nat) (aA:List (Str×D)) (G:List (Str×Str)) (bM d8 cT dB:Option D):(aD=intsFrom (turn:Nat) n)→(turn+n≤7)→(vH (k9 f_) n turn aA G)→(sq Y W (k9 f_))→(Y X=some (.dict aA))→(O=TP X G (some (.val (.ref W))) bM d8 cT dB)→J2 f_ W X aD O Y
theorem Zm (dj:pV T) (t:aT c) (hT:∀x∈f_,T x.1∧T x.2) (HF:f_.length≤100) (HB:(f_.map Prod.snd).Nodup) (rj:aI X=some (.dict oR)) (H9:vH (k9 f_) 7 0 oR f_):
 wE c (k+5) (vars [("disk",.loc),("left",.loc)] [.val (.ref X),.list (f_.map pair)] [("ways",.loc),("turn",.loc),("sorter",.loc),("ring",.aL),("aside",.aL)] [("_law_ways",.ref 278),("range",.type "range"),("_law_told",.ref 283),("_law_ring",.ref 288),("_law_prepared",.ref 295),("_law_rounds",.ref 300),("str",.type "str")]) aI (gJ (bF 33))
  (ux fun d I=>d= .val (.bool true)):=by
 kst_p
 have hh:=t.hd;refine wE.cons (FM.iG (aE.call (ds:=[.list (f_.map pair)]) (by kd_p) (fM (st:=bF 28) (t.fn rfl rfl rfl rfl)) (.cons (by kd_p) .nil (by kd_p)) (c_.mono (cu.r (afE (k:=k+1) dj t hT HF HB)) ?_) (by kd_p)));intro d gm Go;refine d9 Go fun W s4 QS hw dI=>?_;subst s4;refine⟨_,by kd_in,?_⟩;refine wE.cons (FM.ifs (b:=false) (az.cmp (by kd_p) (by kd_p) Rs.isNone) (fun h=>(by injection h)) fun J=>wE.nil ?_);have ach:=dI.some rj;have PF:W≠X:=by rintro rfl;rw[rj]at QS;cases QS
 refine wE.cons (FM.for hh tH (items:=intsFrom 0 7) (bA.range (n:=7) (by kd_p) (by kd_p) (by decide)) (J2 f_ W X)
  ⟨7,0,oR,f_,none,none,none,none,rfl,by decide,H9,hw,ach,rfl⟩ (fun J J J J=>trivial) ?_ ?_)
 rotate_left
 ·intro NE Y Go;obtain⟨n,turn,aA,G,bM,d8,cT,dB,bE,M2,hM,_,_,rfl⟩:=Go;rcases n with _|n
  ·exact hM.elim
  ·cases bE
 intro d rest NE Y Go;obtain⟨n,turn,aA,G,bM,d8,cT,dB,bE,M2,hM,hw,mH,rfl⟩:=Go;rcases n with _|n
 ·cases bE
 cases bE;refine abX hM fun b m L K l6 bD Xq=>?_;refine bh.name (by kd_in) ?_;have Ze:∀x∈G,PyData.strOk x.1=true∧PyData.strOk x.2=true:=fun x hx=>(l6.ok x hx).1;have WN:∀x∈G,PyData.strOk x.1=true∧x.1.length≤1000∧x.2.length≤1000:=fun x hx=>⟨(l6.ok x hx).1.1,(l6.ok x hx).2⟩;have h6:=l6.six;refine wE.cons (FM.J8 hh (aE.tuple (mw.cons (aE.call (ds:=[.list (G.map pair),.val (.ref W)]) (by kd_p) (fM (st:=bF 29) (t.fn rfl rfl rfl rfl)) (.cons (by kd_p) (.cons (by kd_p) .nil (by kd_p)) (by kd_p)) (c_.mono (cu.r (adL (k:=k) t (by kd_p) Ze hw l6.way)) ?_) (by kd_p)) (by kd_p)))
  (by kd_p) (fun V bs Z h w=>Xg (w.kq ⟨"ring",.aL,cT⟩ (by walk_at "v") rfl).1))
 intro d jW Go;refine fB Go fun S y s4 hs ol=>?_;subst s4;refine mw.cons (aE.call (ds:=[.list (G.map pair)]) (by kd_p) (fM (st:=bF 30) (t.fn rfl rfl rfl rfl)) (.cons (by kd_p) .nil (by kd_p)) (c_.mono (cu.r (abO (k:=k+3) t (by kd_p) WN l6.nd l6.ring)) ?_) (by kd_p)) (by kd_p);intro d kg Go;refine Op Go fun s4 En=>?_;subst s4;refine mw.O8 .nil ⟨by simp,?_⟩;refine bh.tuple (bh.name (by kd_in) (bh.name (by kd_in) ?_));have qf:=hs.keep En;have BY:bI [] Y (y.foot S) kg:=ol.trans (bI.keep En);have hrs:=l6.gI;refine aO (l6.adK) fun dD J6=>?_;have hsh:=Uc l6.VU;refine wE.cons (FM.II (gE.or (gE.cmp (aE.nO t (by kd_p) qf.inst qf.attrs (by rfl) (jg ..) (IS ..) (Gi ..) (fM (st:=d7 6 8) (t.fn rfl rfl rfl rfl)) .nil (c_.mono (cu.r (FA (k:=k+4) t qf l6.nodes l6.cl J6)) ?_)))));intro d vz Go;refine b4 Go fun s4 cK Oc=>?_;subst s4;refine jz (mZ b) false (by kd_p) (Rs.DW (Ui b) hsh) rfl ?_;have EJ:=qf.keep Oc;have rA:=BY.trans (bI.keep (F:=y.foot S) Oc);clear hs qf ol BY En;refine gE.Q0 (gE.cmp (aE.call (ds:=[.val (.ref S)]) (by kd_p) (fM (st:=bF 31) (t.fn rfl rfl rfl rfl)) (.cons (by kd_p) .nil (by kd_p)) (c_.mono (cu.r (S8 (k:=k+2) t EJ hrs l6.nodes l6.cl J6)) ?_) (by kd_p)));intro d OE Go;obtain⟨rfl,R,aew,aaO⟩:=Go;refine jz (CM b) false (f8.I8 (az.cmp (by kd_p) (by kd_p) Rs.isNone) (fun h=>?_) (fun h=>?_)) (Rs.DW (abv b) (T9 b)) rfl ⟨fun h=>(by injection h),fun J=>wE.nil ?_⟩
 ·rcases b with _|l
  ·exact f8.none
  ·cases h
 ·rcases b with _|l
  ·cases h
  ·exact f8.str
 have Ax:bI [] Y ((gi y R).foot S) OE:=rA.trans aaO;have Mv:Y X≠none:=by refine U mH ?_;simp
 have tX:X∉(gi y R).foot S:=fun h=>by
  rcases Ax.2 X h with h|h
  ·cases h
  ·exact Mv h
 have aes:OE X=some (.dict aA):=(Ax.1 X (by simp) Mv).trans mH;refine wE.cons (FM.iG (aE.call (ds:=[.val (.ref S),.val (.ref X),.list (G.map pair)]) (by kd_p) (fM (st:=bF 32) (t.fn rfl rfl rfl rfl)) (.cons (by kd_p) (.cons (by kd_p) (.cons (by kd_p) .nil (by kd_p)) (by kd_p)) (by kd_p)) (c_.mono (cu.r (ac0 (k:=k+2) t aew aes tX bD)) ?_) (by kd_p)));intro d Q9 Go;refine b4 Go fun s4 Hs acT=>?_;subst s4;refine⟨_,by kd_in,?_⟩;have abp:sq Q9 W (k9 f_):=by
  have hk:∀a,a≠X→Y a≠none→Q9 a=Y a:=fun a ha hm=>by
   have e5:=Ax.1 a (by simp) hm;refine(acT.1 a (fun h=>?_) (by refine U e5 ?_;exact hm)).trans e5;rcases aY.mp h with h|h
   ·exact ha h
   ·rcases Ax.2 a h with h|h
    ·cases h
    ·exact hm h
  refine wS hw fun l h1 h2=>?_;refine⟨l,(hk W PF (by refine U h1 ?_;simp)).trans h1,h2.lists fun a m e=>(hk a (fun z=>?_) (by refine U e ?_;simp)).trans e⟩;rw[z,mH]at e;cases e
 refine wE.cons (FM.ifs (b:=false) (az.cmp (by kd_p) (by kd_p) Rs.isNone) (fun h=>(by injection h)) fun J=>wE.nil ?_);refine wE.cons (FM.ifs (b:=b.isNone) ((az.cmp (by kd_p) (by kd_p) Rs.isNone).to (ZQ b)) (fun he=>wE.cons (FM.ret (d:=.val (.bool true)) (by kd_p) rfl)) (fun he=>wE.nil ?_));rcases b with _|ring
 ·cases he
 refine yK (Xq ring rfl) fun bY rest v s4 af7 g8 s5 zq=>?_;subst s4;have nD:(ww (bY::rest)).length≤1000000:=by
  have:=(cK _ rfl).2;simp[ww]at this⊢;exact Ev ‹_› (by decide)
 refine Op (aaA (n:=turn) (by exact fS (bV ..) ‹_› (by decide))) fun adW ja=>?_;have hsz:(Str.ofString "/aside/").length+(Str.ofString (toString (turn:Int))).length≤1000000:=by
  exact Ev (lK (show(Str.ofString "/aside/").length≤7 by kd_p) ja) (by decide)
 dsimp only[mZ];refine wE.cons (FM.assign (d:=.str (dW turn)) (f8.bin (by kd_p) (f8.call (ds:=[.int (turn:Nat)]) (f:=.type "str") (by kd_p) (.inl fun a e=>(by injection e)) (.cons (by kd_p) .nil (by kd_p)) (bZ.Sa adW) (by kd_p)) (Rs.qw hsz)) (by kd_in) ?_);have xr:(gw K bY).length≤K.length:=ir _ _;refine wE.cons (FM.zm (aE.m6 (d₀:=.val (.ref X)) (by kd_p) (kc.dict Hs) B9 IP Qk (.cons (f8.sub (d₁:=.list (ww (bY::rest))) (d₂:=.int 0) (by kd_p) (by kd_p) (Rs.item aK.list (by decide) (by rfl) nD)) .nil (by kd_p)) (c_.PY Hs s5 (by kd_p) ⟨by kd_p,by kd_p,_,B.ai ..,Ev xr (Ev ‹_› (by decide)),?_⟩)));refine U B.mq ?_;refine wE.cons (FM.nV hh gG (caps:=[("aside",.str (dW turn)),("ring",.list (ww (bY::rest)))]) (gs:=[]) (ts:=[("start",.loc),("goal",.loc)]) (out:=(pK bY (dW turn) L).map pair) (by intros;rfl) (by dsimp only[List.map];decide+kernel) ?_ cG (bA.list (l:=L.map pair) (by kd_p)) trivial ?_ (by kd_in) ?_)
 ·intro z hz;simp only[aY,d_,gO]at hz;rcases hz with rfl|rfl
  ·exact⟨.aL,.inl rfl,by walk_at "v"⟩
  ·exact⟨.aL,.inl rfl,by walk_at "v"⟩
 ·have e:(pK bY (dW turn) L).map pair=(L.filter fun J=>true).map fun p=>.tup [.str (if p.1=bY then dW turn else p.1),.str p.2]:=by
   refine U (kW.mpr (fun J J=>rfl)) ?_;unfold pK;refine U cJ ?_;rfl
  refine U e ?_;refine dO.two (xs:=L) (P:=fun J=>true) (F:=fun p=>.tup [.str (if p.1=bY then dW turn else p.1),.str p.2]) (fun p=>.str p.1) (fun p=>.str p.2) (by kd_p) fun p hp=>?_
  kst_p
  refine⟨eK.nil,fun J=>f8.tuple (.cons (f8.I8 (b:=p.1==bY) (az.cmp (by kd_p) (f8.sub (d₁:=.list (ww (bY::rest))) (d₂:=.int 0) (by kd_p) (by kd_p) (Rs.item aK.list (by decide) (by rfl) nD)) Rs.eqStr) (fun h=>?_) (fun h=>?_)) (.cons (by kd_p) .nil (by kd_p)) (by kd_p)) (by simp)⟩
  ·refine U (ak (eq_of_beq h)) ?_;kd_p
  ·refine U (Tk (by simpa using h)) ?_;kd_p
 ·refine wE.nil ⟨n,turn+1,_,_,_,_,_,_,rfl,by exact oH ‹_›,zq,?_,B.ai ..,rfl⟩;refine wS abp fun l h1 h2=>?_;exact⟨l,(B.aa _ _ PF).trans h1,h2.lists fun a m e=>(B.aa _ _ (by rintro rfl;rw[Hs]at e;cases e)).trans e⟩
theorem Vg (dj:pV T) (t:aT c) (hT:∀x∈f_,T x.1∧T x.2) (HF:f_.length≤100) (HB:(f_.map Prod.snd).Nodup) (rj:aI X=some (.dict oR)) (H9:vH (k9 f_) 7 0 oR f_):
 cu c (k+6) (.ref 305) [.val (.ref X),.list (f_.map pair)] aI (fun d I=>d= .val (.bool true)):=by
 exact cu.fn (st:=bF 33) (qual:="_law_moved") (dV:=.none) (t.fn rfl rfl rfl rfl) (by kd_p)
  (bB (t.glob (by kd_p)) (bB (t.dh (by kd_p) (by kd_p) (by decide)) (bB (t.glob (by kd_p)) (bB (t.glob (by kd_p)) (bB (t.glob (by kd_p)) (bB (t.glob (by kd_p)) (bB (t.dh (by kd_p) (by kd_p) (by decide)) cG))))))) rfl (fun J J=>.plain rfl (sr fun J J=>rfl)) fun bN A V s bs Z ok w Q E q=>Zm dj (t.at (L:=bN)) hT HF HB rj H9 A V s bs Z ok w Q E fun fZ f s' Z' r cP dz hp=>q fZ f s' Z' r cP dz (by cases fZ<;>first|exact hp|exact hp.elim)
end
end
noncomputable def wc (x:Int×List Str):Int×List Str:=
 let i:=(x.1.fmod x.2.length).toNat
 (x.1.fdiv x.2.length,x.2.take i++[x.2.getD i Str.empty++Str.ofString "/a",x.2.getD i Str.empty++Str.ofString "/b"]++x.2.drop (i+1))
noncomputable def dm (n:Int):Nat→Int×List Str
 |0=>(n,[Str.ofString "/a",Str.ofString "/b"])
 |j+1=>wc (dm n j)
theorem Ag (n j):dm n (j+1)=wc (dm n j):=rfl
theorem yZ (n):dm n 0=(n,[Str.ofString "/a",Str.ofString "/b"]):=rfl
noncomputable def gR (n:Int):List Str:=(dm n 4).2
theorem GH (n):∀j,(dm n j).2.length=2+j∧∀x∈(dm n j).2,x.length≤2+2*j
 |0=>by
  refine⟨rfl,fun x hx=>?_⟩;have e1:(Str.ofString "/a").length=2:=by decide+kernel
  have e2:(Str.ofString "/b").length=2:=by decide+kernel
  simp only[Ag,yZ,aY,d_,gO]at hx;rcases hx with rfl|rfl
  ·exact bT e1
  ·exact bT e2
 |j+1=>by
  refine Op (GH n j) fun h1 h2=>?_;have e1:(Str.ofString "/a").length=2:=by decide+kernel
  have e2:(Str.ofString "/b").length=2:=by decide+kernel
  have bJ:((dm n j).1.fmod ((dm n j).2.length:Int)).toNat<(dm n j).2.length:=rI (ql h1);refine⟨?_,fun x hx=>?_⟩
  ·simp only[Ag,yZ,wc,dR,yd,bU,gU,vF];exact(ER bJ).trans (cN Nat.succ h1)
  ·have hd:((dm n j).2.getD ((dm n j).1.fmod ((dm n j).2.length:Int)).toNat Str.empty).length≤2+2*j:=by
    refine h2 _ ?_;rw[iw,fV bJ];exact rF bJ
   simp only[Ag,yZ,wc,b5,aY,d_,gO]at hx;rcases hx with(hx|rfl|rfl)|hx
   ·exact NL (h2 x (Eg hx))
   ·rw[CT];exact RA hd e1
   ·rw[CT];exact RA hd e2
   ·exact NL (h2 x (CD hx))
inductive RU (n:Int) (aD:List D) (O:XV) (Y:B):Prop
 |mk (j:Nat) (bR bM:Option D):(j≤4)→(aD=intsFrom j (4-j))→(Y=B.no)→(O=[⟨"n",.loc,some (.int (dm n j).1)⟩,⟨"ends",.loc,some (.list (ww (dm n j).2))⟩,⟨"step",.loc,bR⟩,⟨"at",.loc,bM⟩,⟨"range",.bw,some (.val (.type "range"))⟩,⟨"len",.bw,some (.val (.builtin "len"))⟩])→RU n aD O Y
theorem aak (hh:c.hd=false):
 wE c k (vars [("n",.loc)] [.int n] [("ends",.loc),("step",.loc),("at",.loc)] [("range",.type "range"),("len",.builtin "len")]) B.no (gJ (bF 23)) (pL (.list (ww (gR n)))):=by
 kst_p
 refine wE.cons (FM.assign (d:=.list (ww (dm n 0).2)) ?_ (by kd_in) ?_)
 ·exact f8.list (.cons f8.str (.cons f8.str .nil)) (by show 2≤1000;decide)
 refine wE.cons (FM.for hh tH (items:=intsFrom 0 4) (bA.range ?_ ?_ (by decide)) (RU n)
  ⟨0,_,_,by decide,rfl,rfl,rfl⟩ (fun J J J J=>trivial) ?_ ?_)
 ·kd_p
 ·kd_p
 ·intro d rest NE I Go;obtain⟨j,bR,bM,eX,hr,rfl,rfl⟩:=Go;obtain⟨m,hm⟩:∃m,4-j=m+1:=by
   rcases h:4-j with _|m
   ·rw[h]at hr;injection hr
   ·exact⟨m,rfl⟩
  rw[hm]at hr;refine Op (jd hr) fun s4 eg=>?_;subst s4 eg;refine Op (GH n j) fun l1 l2=>?_;have cK:(ww (dm n j).2).length=2+j:=by rw[ww,b8,l1]
  refine aO (Int.eq_ofNat_of_zero_le (D3 (x:=(dm n j).1) (ql l1))) fun i hi=>?_;have bJ:i<(dm n j).2.length:=Kg (Fy (ql l1)) hi;have hd:=k7 bJ (l1.trans cK.symm);have hk:=Up cK eX;have hM:=Ev hk (show 1000≤1000000 by decide);have jm:(ww (dm n j).2)[i]?=some (.str ((dm n j).2.getD i Str.empty)):=by
   rw[ww,kI,iw,fV bJ];rfl
  have gp:((dm n j).2.getD i Str.empty).length≤10:=by
   have:(dm n j).2.getD i Str.empty∈(dm n j).2:=by
    rw[iw,fV bJ];exact rF bJ
   exact Ev (l2 _ this) (Tt eX)
  have iW:(Str.ofString "/a").length=2:=by decide+kernel
  have xT:(Str.ofString "/b").length=2:=by decide+kernel
  have CV:((ww (dm n j).2).length:Int)=((dm n j).2.length:Int):=cN Nat.cast (cK.trans l1.symm);refine bh.name (by kd_in) ?_;refine wE.cons (FM.assign (d:=.int i) ?_ (by kd_in) ?_)
  ·refine ZB hi (ZB CV ?_);refine f8.bin ?_ (f8.len ?_ ?_ aK.list hM) (Rs.tn (wR (ql cK)))<;>kd_p
  refine wE.cons (FM.assign (d:=.int (dm n (j+1)).1) ?_ (by kd_in) ?_)
  ·show f8 _ _ _ _ _ (.int ((dm n j).1.fdiv ((dm n j).2.length:Int)));refine ZB CV ?_;refine f8.bin ?_ (f8.len ?_ ?_ aK.list hM) (Rs.divInt (wR (ql cK)) (zD (P6 hM)))<;>kd_p
  have e3:ww (dm n (j+1)).2=((ww (dm n j).2).take i++[.str ((dm n j).2.getD i Str.empty++Str.ofString "/a"),.str ((dm n j).2.getD i Str.empty++Str.ofString "/b")])++(ww (dm n j).2).drop (i+1):=by
   have lz:((dm n j).1.fmod ((dm n j).2.length:Int)).toNat=i:=by refine U hi ?_;rfl
   simp only[Ag,yZ,wc,lz,ww,gA,Dy,CW,aJ,su]
  refine wE.cons (FM.assign (d:=.list (ww (dm n (j+1)).2)) ?_ (by kd_in) ?_)
  ·refine U e3 ?_;refine f8.bin (f8.bin ?_ ?_ (Rs.BH aK.list aK.list ?_)) ?_ (Rs.BH aK.list aK.list ?_)
   ·refine ZB (LD (fz hd)) ?_;refine f8.slice ?_ aK.list ff.none (ff.some ?_) ff.none (by simp) hM
    ·kd_p
    ·kd_p
   ·refine f8.list (.cons (f8.bin (f8.sub ?_ ?_ (Rs.item (l:=ww (dm n j).2) (i:=(i:Int)) aK.list (kr _) jm hM)) f8.str (Rs.qw (QO gp iW))) (.cons (f8.bin (f8.sub ?_ ?_ (Rs.item (l:=ww (dm n j).2) (i:=(i:Int)) aK.list (kr _) jm hM)) f8.str (Rs.qw (QO gp xT))) .nil)) (by simp)
    all_goals kd_p
   ·simp only[yd,bU,gU];exact ab6 hk
   ·refine ZB (Ds hd) ?_;refine f8.slice ?_ aK.list (ff.some (i:=((i+1:Nat):Int)) ?_) ff.none ff.none (by simp) hM
    ·kd_p
    ·exact f8.bin (by kd_p) f8.int Rs.addInt
   ·simp only[dR,yd,bU,gU,vF];exact T3 hd hk
  refine wE.nil ?_;refine⟨j+1,_,_,yH hm,?_,rfl,rfl⟩;refine U (show 4-(j+1)=m from cN Nat.pred hm) ?_;rfl
 ·intro NE I Go;obtain⟨j,bR,bM,eX,hr,rfl,rfl⟩:=Go;have:j=4:=by
   rcases h:4-j with _|m
   ·exact JL eX (Em h)
   ·rw[h]at hr;injection hr
  subst this;refine wE.nil ?_;refine wE.cons (FM.ret (d:=.list (ww (gR n))) ?_ rfl);unfold gR
  kd_p
theorem NW (x:aT c):cg c (k+1) (.ref 247) [.int n] (.list (ww (gR n))):=
 cg.fn (Ja x) (by kd_p) (bB (afe x) (bB (x.dh (by kd_p) (by kd_p) (by decide)) cG)) rfl (fun J J=>iZ fun J=>rfl) (fun bN=>aak (c:=c.at bN) x.hd)
noncomputable abbrev dX:=List Bool
noncomputable def qB (b:Bool):List Nat:=[47,if b then 98 else 97]
noncomputable def gh (p:dX):List Nat:=p.flatMap qB
noncomputable def cD (p:dX):Str:=⟨(gh p).toArray⟩
theorem MS:Str.ofString "/a" =cD [false]:=by decide+kernel
theorem LJ:Str.ofString "/b" =cD [true]:=by decide+kernel
theorem abo (p q):gh (p++q)=gh p++gh q:=by simp[gh]
theorem Vs (p q):cD (p++q)=cD p++cD q:=by
 apply Str.ext';rw[Str.cps_append];simp[cD,abo]
theorem yV (p):(cD p).length=2*p.length:=by
 show(gh p).toArray.size=_
 induction p with
 |nil=>rfl
 |cons b p ih=>
  simp only[gh,j_,qB,jv,dR,bU,gU]at*;lia
theorem Td (h:qB b++l=qB b'++l'):b=b'∧l=l':=by
 simp only[qB,m9,oM,w4,true_and]at h;obtain⟨h1,h2⟩:=h;refine⟨?_,h2⟩;cases b<;>cases b'<;>simp_all
theorem JQ:∀{p q:dX},gh p=gh q→p=q
 |[],[],_=>rfl
 |[],b::q,h=>by simp[gh,qB]at h
 |b::p,[],h=>by simp[gh,qB]at h
 |b::p,b'::q,h=>by
  simp only[gh,j_]at h;refine Op (Td h) fun s4 h2=>?_;subst s4;exact U (JQ (p:=p) (q:=q) h2) rfl
theorem Kd (h:cD p=cD q):p=q:=by
 apply JQ;have:=cN (fun x:Str=>x.cps.toList) h;simpa [cD]using this
noncomputable def Apart (p q:dX):Prop:=¬p<+:q∧¬q<+:p
theorem Apart.symm (h:Apart p q):Apart q p:=⟨h.2,h.1⟩
theorem Apart.ne (h:Apart p q):p≠q:=by rintro rfl;exact h.1 (Dq _)
theorem Apart.left (h:Apart p q) (r):Apart (p++r) q:=by
 refine⟨fun x=>h.1 (List.IsPrefix.trans (List.prefix_append _ _) x),fun x=>?_⟩;rcases List.prefix_or_prefix_of_prefix x (List.prefix_append p r)with y|y
 ·exact h.2 y
 ·exact h.1 y
theorem Apart.right (h:Apart p q) (r):Apart p (q++r):=(h.symm.left r).symm
noncomputable def dc (n:Int):Nat→Int×List dX
 |0=>(n,[[false],[true]])
 |j+1=>
  let x:=dc n j
  let i:=(x.1.fmod x.2.length).toNat
  (x.1.fdiv x.2.length,x.2.take i++[x.2.getD i []++[false],x.2.getD i []++[true]]++x.2.drop (i+1))
theorem Dg (n j):dc n (j+1)=((dc n j).1.fdiv (dc n j).2.length,(dc n j).2.take ((dc n j).1.fmod (dc n j).2.length).toNat++[(dc n j).2.getD ((dc n j).1.fmod (dc n j).2.length).toNat []++[false],(dc n j).2.getD ((dc n j).1.fmod (dc n j).2.length).toNat []++[true]]++(dc n j).2.drop (((dc n j).1.fmod (dc n j).2.length).toNat+1)):=rfl
theorem xS (n):dc n 0=(n,[[false],[true]]):=rfl
theorem Cc (n):∀j,(dc n j).2.length=2+j
 |0=>rfl
 |j+1=>by
  have h1:=Cc n j;simp only[Dg,xS,dR,yd,bU,gU,vF];exact(ER (rI (ql h1))).trans (cN Nat.succ h1)
theorem KD (n):∀j,(dm n j).1=(dc n j).1∧(dm n j).2=(dc n j).2.map cD
 |0=>by
  refine⟨rfl,?_⟩;show [Str.ofString "/a",Str.ofString "/b"]=_;refine U MS (U LJ ?_);rfl
 |j+1=>by
  refine Op (KD n j) fun h1 h2=>?_;have hl:=Cc n j;have bJ:((dc n j).1.fmod ((dc n j).2.length:Int)).toNat<(dc n j).2.length:=rI (ql hl);simp only[Ag,yZ,wc,Dg,xS,h1,h2,b8];refine⟨trivial,?_⟩;have hg:((dc n j).2.map cD).getD ((dc n j).1.fmod ((dc n j).2.length:Int)).toNat Str.empty=cD ((dc n j).2.getD ((dc n j).1.fmod ((dc n j).2.length:Int)).toNat []):=by
   rw[iw,iw,kI,fV bJ];rfl
  refine U hg (U MS (U LJ ?_));simp only[gA,Dy,aJ,su,CW,Vs]
noncomputable def AE (n:Int):List dX:=(dc n 4).2
theorem Rp (n):gR n=(AE n).map cD:=(KD n 4).2
theorem abx (h:(l++p::r).Pairwise Apart):(l++[p++[false],p++[true]]++r).Pairwise Apart:=by
 rw[IJ,x7]at h;refine b4 h fun h1 aG h4=>?_;refine Op aG fun h2 h3=>?_;rw[jU,IJ];refine⟨h1,?_,fun x hx y No=>?_⟩
 ·show((p++[false])::(p++[true])::r).Pairwise Apart;rw[x7,x7];refine⟨fun y No=>?_,fun y No=>(h2 y No).left _,h3⟩;refine bC No ?_ fun No=>?_
  ·constructor<;>(intro x;have:=(List.prefix_append_right_inj p).mp x;revert this;decide)
  ·exact(h2 y No).left _
 ·have No:y=p++[false]∨y=p++[true]∨y∈r:=by simpa using No
  rcases No with rfl|rfl|No
  ·exact(h4 x hx p (.head _)).right _
  ·exact(h4 x hx p (.head _)).right _
  ·exact h4 x hx y (.tail _ No)
theorem LM (n):∀j,(dc n j).2.Pairwise Apart
 |0=>by
  show [[false],[true]].Pairwise Apart;refine .cons (fun y No=>?_) (.cons (fun y No=>nomatch No) .nil);refine bC No ?_ fun No=>?_
  ·constructor<;>decide
  ·cases No
 |j+1=>by
  have ih:=LM n j;have hl:=Cc n j;have bJ:((dc n j).1.fmod ((dc n j).2.length:Int)).toNat<(dc n j).2.length:=rI (ql hl);simp only[Dg,xS];refine abx (p:=_) ?_;rw[iw,fV bJ];simp only[Bl];rw[←sy bJ,Og];exact ih
theorem NQ (n):(AE n).Pairwise Apart:=LM n 4
theorem MK (n):∀j,∀p∈(dc n j).2,0<p.length∧p.length≤1+j
 |0,p,h=>by
  have h:p=[false]∨p=[true]:=by simpa [xS]using h
  rcases h with rfl|rfl<;>decide
 |j+1,p,h=>by
  have ih:=MK n j;have hl:=Cc n j;have bJ:((dc n j).1.fmod ((dc n j).2.length:Int)).toNat<(dc n j).2.length:=rI (ql hl);have hd:(dc n j).2.getD ((dc n j).1.fmod ((dc n j).2.length:Int)).toNat []∈(dc n j).2:=by
   rw[iw,fV bJ];exact rF bJ
  have i1:=ih _ hd;simp only[Dg,xS,b5,aY,d_,gO]at h;rcases h with(h|rfl|rfl)|h
  ·exact MH (ih p (Eg h))
  ·refine U dR ?_;simp only[bU,gU];exact L_ i1
  ·refine U dR ?_;simp only[bU,gU];exact L_ i1
  ·exact MH (ih p (CD h))
theorem ac3 (n):∀p∈AE n,0<p.length∧p.length≤5:=MK n 4
theorem Gw (n):(gR n).Nodup:=by
 rw[Rp];have h:=NQ n;unfold List.Nodup;rw[Jj];exact h.imp fun{a b} sH e=>sH.ne (Kd e)
noncomputable def tU (l:dX) (all:List dX):Prop:=(∀t∈all,l<+:t)∧∀m:dX,(∀t∈all,m<+:t)→m<+:l
theorem tU.uniq (x:tU l all) (y:tU m all):l=m:=(y.2 l x.1).eq_of_length (JL (y.2 l x.1).length_le (x.2 m y.1).length_le)
noncomputable def nt:dX→dX→dX
 |x::xs,y::ys=>if x !=y then []else x::nt xs ys
 |_,_=>[]
theorem yq (x xs y ys):nt (x::xs) (y::ys)=if x !=y then []else x::nt xs ys:=rfl
theorem JS (y):nt [] y=[]:=rfl
theorem P_ (x xs):nt (x::xs) []=[]:=rfl
theorem Ov:∀{p q m:dX},m<+:p→m<+:q→m<+:nt p q
 |_,_,[],_,_=>qi
 |[],_,_::_,h,_=>by simp at h
 |_::_,[],_::_,_,h=>by simp at h
 |x::xs,y::ys,z::m,h,h'=>by
  refine Op (lE.mp h) fun e1 k1=>?_;refine Op (lE.mp h') fun e2 k2=>?_;subst e1;subst e2;rw[yq];simp only[G_,j7,jE];exact lE.mpr ⟨rfl,Ov k1 k2⟩
noncomputable def uE:dX→List dX→dX
 |[],_=>[]
 |b::r,e7=>if e7.all (fun q=>q.head?==some b)then b::uE r (e7.map List.tail)else []
theorem KZ (b r e7):uE (b::r) e7=if e7.all (fun q=>q.head?==some b)then b::uE r (e7.map List.tail)else []:=rfl
theorem Q5:∀p e7,tU (uE p e7) (p::e7)
 |[],e7=>⟨fun t J=>qi,fun m h=>h [] (.head _)⟩
 |b::r,e7=>by
  rw[KZ];split
  ·rename_i h;simp only[jQ,kX]at h;have ih:=Q5 r (e7.map List.tail);have aM:∀q∈e7,q=b::q.tail:=fun q Ch=>by
    have:=h q Ch;rcases q with _|⟨c,q⟩
    ·simp at this
    ·simp at this;refine U this ?_;rfl
   refine⟨fun t FS=>?_,fun m hm=>?_⟩
   ·refine bC FS ?_ fun FS=>?_
    ·exact lE.mpr ⟨rfl,ih.1 r (.head _)⟩
    ·exact U (aM t FS) (lE.mpr ⟨rfl,ih.1 _ (.tail _ (cz FS))⟩)
   ·rcases m with _|⟨c,m⟩
    ·exact qi
    ·refine Op (lE.mp (hm (b::r) (.head _))) fun s4 hr=>?_;subst s4;refine lE.mpr ⟨rfl,ih.2 m fun t FS=>?_⟩;refine bC FS ?_ fun FS=>?_
     ·exact hr
     ·refine wS (ao.mp FS) fun q Ch s4=>?_;subst s4;have:=hm q (.tail _ Ch);rw[aM q Ch]at this;exact(lE.mp this).2
  ·rename_i h;refine⟨fun t J=>qi,fun m hm=>?_⟩;rcases m with _|⟨c,m⟩
   ·exact qi
   ·exfalso;apply h;refine Op (lE.mp (hm (b::r) (.head _))) fun s4 hr=>?_;subst s4;simp only[jQ,kX];intro q Ch;refine aO (hm q (.tail _ Ch)) fun w e=>?_;refine ZB e ?_;rfl
noncomputable def ef:dX→dX→Bool
 |[],_=>false
 |_::_,[]=>true
 |x::xs,y::ys=>if x==y then ef xs ys else x&& !y
theorem oG (x xs y ys):ef (x::xs) (y::ys)=if x==y then ef xs ys else x&& !y:=rfl
theorem wY (y):ef [] y=false:=rfl
theorem BN (x xs):ef (x::xs) []=true:=rfl
theorem Od:∀{a t b:dX},ef a t=false→ef t b=false→nt a b<+:t
 |[],_,_,_,_=>by simp[yq,JS,P_]
 |_::_,_,[],_,_=>by simp[yq,JS,P_]
 |x::xs,[],y::ys,h,_=>by simp[oG,wY,BN]at h
 |x::xs,z::zs,y::ys,h,h'=>by
  rw[yq];split
  ·exact qi
  ·rename_i YQ;have:x=y:=by simpa using YQ
   subst this;rw[oG]at h h';by_cases e:x=z
   ·subst e;simp only[rm,lH]at h h';exact lE.mpr ⟨rfl,Od h h'⟩
   ·cases x<;>cases z<;>simp at h h' e
theorem Of:∀a,ef a a=false:=fun k8=>by
 induction k8 with
 |nil=>exact rfl
 |cons x xs lZ=>exact by rw[oG];simp[(lZ)]
theorem GF:∀{a b:dX},ef a b=true→ef b a=false
 |[],_,h=>by simp[oG,wY,BN]at h
 |_::_,[],_=>rfl
 |x::xs,y::ys,h=>by
  rw[oG]at h⊢;cases x<;>cases y<;>simp at h⊢<;>exact GF h
theorem yF:∀{a b c:dX},ef a b=false→ef b c=false→ef a c=false
 |[],_,_,_,_=>rfl
 |_::_,[],_,h,_=>by simp[oG,wY,BN]at h
 |_::_,_::_,[],_,h=>by simp[oG,wY,BN]at h
 |x::xs,y::ys,z::zs,h,h'=>by
  rw[oG]at h h'⊢;cases x<;>cases y<;>cases z<;>simp at h h'⊢<;>exact yF h h'
theorem QI:∀b x r,ef (b++x::r) b=true
 |[],_,_=>rfl
 |y::b,x,r=>by
  show ef (y::(b++x::r)) (y::b)=true;rw[oG];simp[QI b x r]
noncomputable def jL:dX→List dX→dX
 |b,[]=>b
 |b,d::r=>jL (if ef b d then d else b) r
theorem IC (b d r):jL b (d::r)=jL (if ef b d then d else b) r:=rfl
noncomputable def ly:dX→List dX→dX
 |b,[]=>b
 |b,d::r=>ly (if ef d b then d else b) r
theorem EU (b d r):ly b (d::r)=ly (if ef d b then d else b) r:=rfl
theorem EM:∀b r,jL b r∈b::r
 |b,[]=>.head _
 |b,d::r=>by
  rw[IC];rcases aY.mp (EM (if ef b d then d else b) r)with h|h
  ·refine U h ?_;cases ef b d
   ·exact .head _
   ·exact .tail _ (.head _)
  ·exact .tail _ (.tail _ h)
theorem Rh:∀b r,ly b r∈b::r
 |b,[]=>.head _
 |b,d::r=>by
  rw[EU];rcases aY.mp (Rh (if ef d b then d else b) r)with h|h
  ·refine U h ?_;cases ef d b
   ·exact .head _
   ·exact .tail _ (.head _)
  ·exact .tail _ (.tail _ h)
theorem My:∀b r,∀t∈b::r,ef (jL b r) t=false
 |b,[],t,h=>by
  rcases aY.mp h with rfl|h
  ·exact Of _
  ·cases h
 |b,d::r,t,h=>by
  rw[IC];have ih:=My (if ef b d then d else b) r;have h0:=ih _ (.head _);rcases aY.mp h with rfl|h
  ·induction e:ef t d with
   |true=>rw[e]at h0;exact yF h0 (GF e)
   |false=>rw[e]at h0;exact h0
  rcases aY.mp h with rfl|h
  ·induction e:ef b t with
   |true=>rw[e]at h0;exact h0
   |false=>rw[e]at h0;exact yF h0 e
  ·exact ih t (.tail _ h)
theorem ET:∀b r,∀t∈b::r,ef t (ly b r)=false
 |b,[],t,h=>by
  rcases aY.mp h with rfl|h
  ·exact Of _
  ·cases h
 |b,d::r,t,h=>by
  rw[EU];have ih:=ET (if ef d b then d else b) r;have h0:=ih _ (.head _);rcases aY.mp h with rfl|h
  ·induction e:ef d t with
   |true=>rw[e]at h0;exact yF (GF e) h0
   |false=>rw[e]at h0;exact h0
  rcases aY.mp h with rfl|h
  ·induction e:ef t b with
   |true=>rw[e]at h0;exact h0
   |false=>rw[e]at h0;exact yF e h0
  ·exact ih t (.tail _ h)
theorem Lk (p) (ps):tU (nt (jL p ps) (ly p ps)) (p::ps):=
 ⟨fun t FS=>Od (My p ps t FS) (ET p ps t FS),fun m hm=>Ov (hm _ (EM p ps)) (hm _ (Rh p ps))⟩
theorem TY (p) (ps) (i) (hi:i<(jL p ps).length) (e:(jL p ps).take i=(ly p ps).take i):i<(ly p ps).length:=by
 rcases vW i (ly p ps).length with h|h
 ·exact h
 exfalso;have h1:=ET p ps _ (EM p ps);rw[vJ h]at e;have h2:jL p ps=ly p ps++(jL p ps)[i]::(jL p ps).drop (i+1):=by
  conv=>lhs;rw[←Og i (jL p ps),e,sy hi]
 rw[h2,QI]at h1;injection h1
noncomputable abbrev aM (x:Str):List Nat:=x.cps.toList
theorem pG (h:aM x=aM y):x=y:=Str.ext' (F_.mp h)
theorem pO (x y):aM (x++y)=aM x++aM y:=by show(x++y).cps.toList=_;rw[Str.cps_append,Ij]
theorem nq (x):(aM x).length=x.length:=by simp[aM,Str.length]
theorem FG:aP=⟨#[47]⟩:=by decide+kernel
theorem o4:aM aP=[47]:=by decide+kernel
theorem I3:aM Str.empty=[]:=by decide+kernel
theorem uG (sep):∀x ys,aM (Str.join sep (x::ys))=aM x++ys.flatMap fun y=>aM sep++aM y
 |x,[]=>by show aM x=_;simp
 |x,y::ys=>by
  have ih:=uG sep y ys;show aM (x++sep++Str.join sep (y::ys))=_;rw[pO,pO,ih];simp
theorem Txt.join_eq (sep) (ys):Txt.join sep ys=Str.join sep ys:=StrLaws.glued_eq_join sep ys
noncomputable def cR (ys:List Str):Str:=⟨(ys.flatMap fun y=>47::aM y).toArray⟩
theorem m_ (ys):aM (cR ys)=ys.flatMap fun y=>47::aM y:=by simp[aM,cR]
theorem MZ (ys):cR ys=Str.join aP (Str.empty::ys):=by
 apply pG;rw[uG,m_,I3,o4];rfl
theorem Br (ys zs):cR ys++cR zs=cR (ys++zs):=by
 apply pG;rw[pO,m_,m_,m_,DB]
theorem Oo:∀{x y a b:List Nat},47∉x→47∉y→x++47::a=y++47::b→x=y∧a=b
 |[],[],_,_,_,_,h=>by simp at h;exact⟨rfl,h⟩
 |[],c::y,_,_,_,No,h=>by
  simp at h;exact absurd (h.1▸D0) No
 |c::x,[],_,_,hx,_,h=>by
  simp at h;exact absurd (h.1▸D0) hx
 |c::x,d::y,a,b,hx,No,h=>by
  simp only[m9,w4]at h;refine Op (Oo (x:=x) (y:=y) (fun m=>hx (.tail _ m)) (fun m=>No (.tail _ m)) h.2) fun e1 e2=>?_;exact⟨by exact U h.1 (U e1 rfl),e2⟩
theorem L5:∀{xs ys:List Str} {x y:Str},(∀z∈x::xs,47∉aM z)→(∀z∈y::ys,47∉aM z)→(aM x++xs.flatMap fun z=>47::aM z)=(aM y++ys.flatMap fun z=>47::aM z)→x::xs=y::ys
 |[],[],x,y,_,_,h=>by
  have e:x=y:=pG (by simpa only[uV,fQ]using h);exact U e rfl
 |[],gq::ys,x,y,hx,No,h=>by
  exfalso;apply hx x (.head _);simp only[uV,fQ,j_]at h;refine U h ?_;simp
 |mU::xs,[],x,y,hx,No,h=>by
  exfalso;apply No y (.head _);simp only[uV,fQ,j_]at h;refine ZB h ?_;simp
 |mU::xs,gq::ys,x,y,hx,No,h=>by
  simp only[j_,m9]at h;refine Op (Oo (hx x (.head _)) (No y (.head _)) h) fun e1 e2=>?_;exact U (pG e1) (U (L5 (fun z hz=>hx z (.tail _ hz)) (fun z hz=>No z (.tail _ hz)) e2) rfl)
theorem Ol (h:∀z∈x::xs,47∉aM z):Txt.split (Str.join aP (x::xs)) aP=x::xs:=by
 have h1:=StrLaws.join_split (Str.join aP (x::xs)) aP;have h2:=StrLaws.split_free (Str.join aP (x::xs)) 47;rw[←FG]at h2;have h3:Txt.split (Str.join aP (x::xs)) aP≠[]:=fun e=>by
  have:=split_pos (Str.join aP (x::xs)) aP;rw[e]at this;simp at this
 rcases Ch:Txt.split (Str.join aP (x::xs)) aP with _|⟨y,ys⟩
 ·exact absurd Ch h3
 ·rw[Ch]at h1 h2;refine(L5 h h2 ?_).symm;have:=cN aM h1;rw[uG,uG,o4]at this;exact this.symm
theorem aaa (h:∀z∈ys,47∉aM z):Txt.split (cR ys) aP=Str.empty::ys:=by
 rw[MZ];refine Ol fun z hz=>?_;refine bC hz ?_ fun hz=>?_
 ·refine U I3 ?_;simp
 ·exact h z hz
noncomputable def f5 (b:Bool):Str:=⟨#[if b then 98 else 97]⟩
noncomputable abbrev bl (p:dX):List Str:=p.map f5
theorem z9 (b):aM (f5 b)=[if b then 98 else 97]:=rfl
theorem Qc (p):∀z∈bl p,47∉aM z:=fun z hz=>by
 refine wS (ao.mp hz) fun b J s4=>?_;subst s4;rw[z9];cases b<;>simp
theorem Bd (p):cD p=cR (bl p):=by
 apply pG;rw[m_];show(gh p).toArray.toList=_;delta gh bl;rw[List.flatMap_map];rfl
theorem t_ (p):c9 (cD p)=Str.empty::bl p:=by
 delta c9;rw[Bd,aaa (Qc p)]
theorem Bo (p):gb (cD p)=bl p:=by
 delta gb;rw[t_,iV];have h1:BK Str.empty=false:=by decide+kernel
 refine U h1 (U (Tk (by simp)) ?_);refine kW.mpr fun z hz=>?_;refine wS (ao.mp hz) fun b J s4=>?_;subst s4;cases b<;>decide+kernel
theorem L3 (h:f5 a=f5 b):a=b:=by
 have:=cN aM h;rw[z9,z9]at this;cases a<;>cases b<;>simp at this<;>rfl
theorem FI (a b):(f5 a==f5 b)=(a==b):=by cases a<;>cases b<;>decide+kernel
theorem N5:∀d b:dX,eZ false (bl d) (bl b)=ef b d
 |[],[]=>rfl
 |[],_::_=>rfl
 |_::_,[]=>by rw[wY];rfl
 |x::d,y::b=>by
  show eZ false (f5 x::bl d) (f5 y::bl b)=_;rw[Bx,oG,FI,N5 d b];cases x<;>cases y<;>first|rfl|decide+kernel
theorem PA:∀d b:dX,eZ true (bl d) (bl b)=ef d b
 |[],[]=>rfl
 |[],_::_=>by rw[wY];rfl
 |_::_,[]=>rfl
 |x::d,y::b=>by
  show eZ true (f5 x::bl d) (f5 y::bl b)=_;rw[Bx,oG,FI,PA d b];cases x<;>cases y<;>first|rfl|decide+kernel
theorem Kf:∀p ps,nT false (bl p) (ps.map bl)=bl (jL p ps)
 |p,[]=>rfl
 |p,d::r=>by
  rw[aJ,By,IC,N5];cases ef p d<;>exact Kf _ r
theorem Rk:∀p ps,nT true (bl p) (ps.map bl)=bl (ly p ps)
 |p,[]=>rfl
 |p,d::r=>by
  rw[aJ,By,EU,PA];cases ef d p<;>exact Rk _ r
theorem RN (p) (ps):lA (cD p) (ps.map cD)=bl (jL p ps):=by
 delta lA;rw[Bo,cJ,show(gb∘cD)=bl from funext Bo,Kf]
theorem Mc (p) (ps):lB (cD p) (ps.map cD)=bl (ly p ps):=by
 delta lB;rw[Bo,cJ,show(gb∘cD)=bl from funext Bo,Rk]
theorem J7:∀a b:dX,jH (bl a) (bl b)=bl (nt a b)
 |[],_=>rfl
 |_::_,[]=>rfl
 |x::a,y::b=>by
  show jH (f5 x::bl a) (f5 y::bl b)=_;rw[vR,yq,J7 a b];have:(f5 x !=f5 y)=(x !=y):=by delta bne;rw[FI]
  refine U this ?_;split<;>rfl
noncomputable def qF (l:dX):Str:=if l=[]then aP else cD l
theorem RC (l):aP++Txt.join aP (bl l)=qF l:=by
 delta qF;rw[Txt.join_eq];rcases l with _|⟨b,r⟩
 ·refine U (ak rfl) ?_;decide+kernel
 ·rw[Tk (by simp),Bd];apply pG;show aM (aP++Str.join aP (f5 b::bl r))=aM (cR (f5 b::bl r));rw[pO,uG,o4,m_];rfl
theorem Me (p) (ps):jN (cD p) (ps.map cD)=qF (nt (jL p ps) (ly p ps)):=by
 delta jN;rw[RN,Mc,J7,RC]
theorem N3:∀p e7,q_ (bl p) (e7.map bl)=bl (uE p e7)
 |[],e7=>rfl
 |b::r,e7=>by
  have ih:=N3 r (e7.map List.tail);unfold q_ at ih⊢;show(((oK (f5 b::bl r) (e7.map bl)).takeWhile mJ).map (fun x=>x.headD Str.empty))=_;rw[xD,KZ];have nY:(e7.map bl).map List.tail=(e7.map List.tail).map bl:=by
   refine U cJ (U cJ ?_);exact sP fun q J=>by cases q<;>rfl
  by_cases h:e7.all (fun q=>q.head?==some b)=true
  ·refine U (ak h) ?_;have hh:∀q∈e7,q.head?=some b:=fun q Ch=>by simpa using jQ.mp h q Ch
   have h1:(e7.map bl).all (fun r=>!r.isEmpty)=true:=by
    rw[jQ];intro z hz;refine wS (ao.mp hz) fun q Ch s4=>?_;subst s4;have:=hh q Ch;rcases q with _|⟨c,q⟩
    ·injection this
    ·rfl
   refine U (ak h1) ?_;have cU:mJ (f5 b::(e7.map bl).map (fun x=>x.headD Str.empty))=true:=by
    unfold mJ;rw[Ed,wW];intro z hz;have:z=f5 b:=by
     refine bC hz ?_ fun hz=>?_
     ·rfl
     ·rw[cJ]at hz;refine wS (ao.mp hz) fun q Ch s4=>?_;subst s4;have:=hh q Ch;rcases q with _|⟨c,q⟩
      ·injection this
      ·obtain rfl:=bf this;rfl
    refine U this ?_;simp
   refine U (RT cU) (U aJ (U nY (U ih ?_)));rfl
  ·refine U (Tk h) ?_;split
   ·rename_i h1;have cU:mJ (f5 b::(e7.map bl).map (fun x=>x.headD Str.empty))≠true:=fun cU=>by
     apply h;rw[jQ];intro q Ch;unfold mJ at cU;rw[Ed,wW]at cU;have h2:=jQ.mp h1 (bl q) (cz Ch);rcases q with _|⟨c,q⟩
     ·injection h2
     ·have h3:=cU (f5 c) (by
       refine .tail _ ?_;refine U cJ ?_;exact ao.mpr ⟨c::q,Ch,rfl⟩)
      have h4:f5 c=f5 b:=by simpa using h3
      refine U (L3 h4) ?_;simp
    refine U (List.takeWhile_cons_of_neg cU) ?_;rfl
   ·rfl
theorem aeM (p) (ps):ri (cD p) (ps.map cD)=qF (uE p ps):=by
 delta ri;have h1:(ps.map cD).map c9=(ps.map bl).map (fun x=>Str.empty::x):=by
  refine U cJ (U cJ ?_);exact sP fun q J=>t_ q
 rw[t_,h1];have h2:q_ (Str.empty::bl p) ((ps.map bl).map (fun x=>Str.empty::x))=Str.empty::q_ (bl p) (ps.map bl):=by
  delta q_;rw[xD];have h3:(((ps.map bl).map (fun x=>Str.empty::x)).all fun r=>!r.isEmpty)=true:=by
   rw[jQ];intro z hz;refine wS (ao.mp hz) fun q J s4=>?_;subst s4;rfl
  refine U (ak h3) ?_;have h4:((ps.map bl).map (fun x=>Str.empty::x)).map List.tail=ps.map bl:=by
   exact U cJ (Bu _)
  have cU:mJ (Str.empty::((ps.map bl).map (fun x=>Str.empty::x)).map (fun x=>x.headD Str.empty))=true:=by
   delta mJ;rw[Ed,wW];intro z hz;have:z=Str.empty:=by
    refine bC hz ?_ fun hz=>?_
    ·rfl
    ·rw[cJ]at hz;refine wS (ao.mp hz) fun q J s4=>?_;subst s4;rfl
   refine U this ?_;simp
  refine U (RT cU) (U aJ (U h4 ?_));rfl
 rw[h2,N3];delta Bt qF;rw[Txt.join_eq,←MZ];rcases Ch:uE p ps with _|⟨b,r⟩
 ·have:(cR (bl [])).length=0:=by decide+kernel
  rw[this];rfl
 ·have:(cR (bl (b::r))).length≠0:=by
   rw[←Bd,yV];simp
  rw[ak (by simpa using this),Tk (by simp),Bd]
theorem yj (x y):Txt.startswith x y=true↔aM y<+:aM x:=by
 unfold Txt.startswith
 rw[kJ,StrLaws.subAt_eq,p7,kX,zw];have h1:=nq x;have h2:=nq y;constructor
 ·intro Go;refine Op Go fun J h=>?_;rw[←h2]at h;show aM y<+:aM x;have h':(aM x).take (aM y).length=aM y:=h;exact ZB h' (List.take_prefix _ _)
 ·intro h;refine⟨by have:=h.length_le;rw[nq,nq]at this;exact Ev (bT (DI _)) this,?_⟩;exact ZB h2 ((List.prefix_iff_eq_take.mp h).symm)
theorem um (p):aM (cD p)=gh p:=rfl
theorem Jz:∀p q:dX,(gh q++[47])<+:(gh p++[47])↔q<+:p
 |p,[]=>by
  refine⟨fun J=>qi,fun J=>?_⟩
  induction p with
  |nil=>exact Dq _
  |cons b r=>
   show [47]<+:47::_;exact lE.mpr ⟨rfl,qi⟩
 |[],c::q=>by
  constructor
  ·intro h;have:=h.length_le;simp[gh,qB]at this
  ·intro h;simp at h
 |b::p,c::q=>by
  have ih:=Jz p q;show(47::(if c then 98 else 97)::(gh q++[47]))<+:(47::(if b then 98 else 97)::(gh p++[47]))↔_;rw[lE,lE,lE,ih];constructor
  ·intro Go;obtain⟨_,h1,h2⟩:=Go;refine⟨?_,h2⟩;cases b<;>cases c<;>simp_all
  ·intro Go;obtain⟨rfl,h2⟩:=Go;exact⟨rfl,rfl,h2⟩
theorem MO (p q):cA (cD p) (cD q)=true↔(q<+:p∨p<+:q):=by
 unfold cA;have e:aM (Str.ofString "/")=[47]:=o4;rw[oB,yj,yj,pO,pO,e,um,um,Jz,Jz]
theorem SV (h:Apart p q):cA (cD p) (cD q)=false:=by
 rw[←DK,MO];exact fun h'=>h'.elim h.2 h.1
noncomputable def IsPlace (s:Str):Prop:=∃p:dX,0<p.length∧p.length≤5∧s=cD p
theorem KH (hp:0<p.length):(qF l==cD p)=decide (l=p):=by
 unfold qF;split
 ·rename_i h;subst h;have h1:([]:dX)≠p:=by rintro rfl;simp at hp
  have h2:aP≠cD p:=by
   intro e;have h3:=cN Str.length e;rw[yV]at h3;have:aP.length=1:=by decide+kernel
   lia
  exact U (decide_eq_false h1) (HA.mpr h2)
 ·rw[o5,kX,p7];exact⟨Kd,fun e=>by exact U e rfl⟩
theorem Jr:∀{ps:List Str},(∀q∈ps,IsPlace q)→∃e7:List dX,ps=e7.map cD∧∀q∈e7,0<q.length∧q.length≤5
 |[],_=>⟨[],rfl,fun J h=>nomatch h⟩
 |s::ps,h=>by
  refine aS (h s (.head _)) fun p h1 h2 s4=>?_;subst s4;refine wS (Jr fun q Ch=>h q (.tail _ Ch)) fun e7 s4 h3=>?_;subst s4;refine⟨p::e7,rfl,fun q Ch=>?_⟩;refine bC Ch ?_ fun Ch=>?_
  ·exact⟨h1,h2⟩
  ·exact h3 q Ch
theorem Ld (p) (i):(bl p).take i=bl (p.take i):=(Dy).symm
theorem Rc:∀{p q:dX},bl p=bl q→p=q
 |[],[],_=>rfl
 |[],_::_,h=>by injection h
 |_::_,[],h=>by injection h
 |a::p,b::q,h=>by
  simp only[bl,aJ,w4]at h;exact U (L3 h.1) (U (Rc h.2) rfl)
theorem aej:pV IsPlace:=by
 refine⟨fun s hs=>?_,fun s ss hs Je i hi FS=>?_,fun s ss hs Je M2=>?_,fun x y hx No=>?_⟩
 ·refine aS hs fun p h1 h2 s4=>?_;subst s4;refine AA (by rw[yV];exact Ev (s9 2 h2) (by decide)) ?_ ?_ ?_ ?_
  ·rw[t_];simp;exact Ev ‹_› (by decide)
  ·rw[t_];simp
  ·intro y No;rw[t_]at No;refine bC No ?_ fun No=>?_
   ·have:Str.empty.length=0:=by decide+kernel
    decide
   ·refine wS (ao.mp No) fun b J s4=>?_;subst s4;rw[←nq,z9];simp
  ·rw[yj,o4,um];rcases p with _|⟨b,r⟩
   ·simp at h1
   ·exact lE.mpr ⟨rfl,qi⟩
 ·refine aS hs fun p h1 h2 s4=>?_;subst s4;refine wS (Jr Je) fun ps s4 h3=>?_;subst s4;rw[RN]at hi FS;rw[Mc]at FS⊢;rw[Ld,Ld]at FS;rw[b8]at hi⊢;exact TY p ps i hi (Rc FS)
 ·refine aS hs fun p h1 h2 s4=>?_;subst s4;refine wS (Jr Je) fun ps s4 h3=>?_;subst s4;rw[Me,aeM,(Lk p ps).uniq (Q5 p ps)]
 ·refine aS hx fun p h1 h2 s4=>?_;subst s4;refine aS No fun q h3 h4 s4=>?_;subst s4;have hc:jN (cD p) [cD q]=qF (nt (jL p [q]) (ly p [q])):=Me p [q];have hg:=Lk p [q];rw[hc,KH h1,KH h3,o5,MO,oB,p7,p7];generalize nt (jL p [q]) (ly p [q])=l at hg;constructor
  ·rintro(rfl|rfl)
   ·exact .inr (hg.1 q (by simp))
   ·exact .inl (hg.1 p (by simp))
  ·rintro(h|h)
   ·right;have:tU q [p,q]:=⟨fun t FS=>by
     refine bC FS ?_ fun FS=>?_
     ·exact h
     ·refine U (fq.mp FS) ?_;exact Dq _,fun m hm=>hm q (by simp)⟩
    exact hg.uniq this
   ·left;have:tU p [p,q]:=⟨fun t FS=>by
     refine bC FS ?_ fun FS=>?_
     ·exact Dq _
     ·refine U (fq.mp FS) ?_;exact h,fun m hm=>hm p (by simp)⟩
    exact hg.uniq this
theorem vc:∀t:Fin 8,(aM (dW t.val))[2]?=some 115∧PyData.strOk (dW t.val)=true∧(dW t.val).length=8∧(aM (dW t.val))[7]?=some (48+t.val):=by decide+kernel
theorem K0 (p):(gh p++[47])[2]?=none∨(gh p++[47])[2]?=some 47:=by
 rcases p with _|⟨b,r⟩
 ·exact .inl rfl
 ·right;rcases r with _|⟨c,r⟩
  ·rfl
  ·rfl
theorem UP (FS:t≤7) (Ch:0<q.length):cA (dW t) (cD q)=false:=by
 have h1:=(vc ⟨t,by exact fU ‹_› (by decide)⟩).1;have h3:=(vc ⟨t,by exact fU ‹_› (by decide)⟩).2.2.1;dsimp only at h1 h3;have vg:(gh q++[47])[2]?=some 47:=by
  rcases K0 q with h|h
  ·exfalso;rw[lP,dR]at h;have:=nq (cD q);rw[um,yV]at this;simp at h;lia
  ·exact h
 have vo:(aM (dW t)++[47])[2]?=some 115:=by
  rw[zc (by rw[nq,h3];decide)];exact h1
 have e:aM (Str.ofString "/")=[47]:=o4;rw[←DK];unfold cA;rw[oB,yj,yj,pO,pO,e,um];rintro(h|h)
 ·refine aO h fun w hw=>?_;rw[←hw]at vo;rw[zc (by rw[lq]at vg;exact vg.1),vg]at vo;cases vo
 ·refine aO h fun w hw=>?_;rw[←hw]at vg;rw[zc (by rw[lq]at vo;exact vo.1),vo]at vg;cases vg
theorem NC (FS:t≤7) (p):dW t≠cD p:=fun e=>by
 have h1:=(vc ⟨t,by exact fU ‹_› (by decide)⟩).1;dsimp only at h1;rw[e,um]at h1;have h2:(gh p++[47])[2]?=some 115:=by
  rw[zc (by rw[lq]at h1;exact h1.1)];exact h1
 rcases K0 p with h|h
 ·rw[h]at h2;cases h2
 ·rw[h]at h2;cases h2
theorem Ss (h1:t≤7) (h2:t'≤7) (e:dW t=dW t'):t=t':=by
 have a:=(vc ⟨t,by exact fU ‹_› (by decide)⟩).2.2.2;have b:=(vc ⟨t',by exact fU ‹_› (by decide)⟩).2.2.2;dsimp only at a b;rw[e,b]at a;have:=bf a;exact(Nat.add_left_cancel this).symm
theorem afl (p):PyData.strOk (cD p)=true:=by
 unfold PyData.strOk;rw[Array.all_eq_true_iff_forall_mem];intro x hx;have hx:x∈gh p:=by
  have:x∈aM (cD p):=by simpa [aM]using hx
  rw[um]at this;exact this
 unfold gh at hx;refine wS (zT.mp hx) fun b J hb=>?_;unfold qB at hb;cases b<;>simp at hb<;>rcases hb with rfl|rfl<;>decide
section
section
variable {c:ah} {k:Nat} {O:XV} {Y:B} {Sc:fy→Prop}
noncomputable def CB (c:ah) (k:Nat) (O:XV) (Y:B) (e:Expr) (x:Str):Prop:=
 ∀(A:Around) (V:Env) (s:Shared) (Z:TW),Ok c k A s→bz c Z s.heap V O Y→∀(Q:Value→Shared→Prop) (E:Value→Shared→Prop),
  (∀t s' Z',Step c s Z s' Z'→0<t→t<s'.toks→Q (.str x t) s')→wpAny c.M A (eval e V) Q E s
inductive rS (hi:Nat):List Value→List Str→Prop
 |nil:rS hi [] []
 |cons {x:Str} {t:Nat} {H:List Value} {xs:List Str}:0<t→t<hi→rS hi H xs→rS hi (.str x t::H) (x::xs)
theorem rS.get (x:rS hi H xs):∀{i:Nat} {y:Str},xs[i]?=some y→∃t,H[i]?=some (.str y t)∧0<t∧t<hi:=by
 induction x with
 |nil=>intro i y h;simp at h
 |cons a b _ ih=>
  intro i y h;rcases i with _|i
  ·simp at h;subst h;exact fW _ rfl a b
  ·refine wS (ih (by simpa using h)) fun t h1 h2=>?_;exact⟨t,by simpa using h1,h2⟩
theorem rS.length (x:rS hi H xs):H.length=xs.length:=by
 induction x with
 |nil=>rfl
 |cons _ _ _ ih=>simp[ih]
noncomputable def wj (c:ah) (k:Nat) (O:XV) (Y:B) (es:List Expr) (xs:List Str):Prop:=
 ∀(A:Around) (V:Env) (s:Shared) (Z:TW) (pos:Pos),Ok c k A s→bz c Z s.heap V O Y→∀(Q:List Value→Shared→Prop) (E:Value→Shared→Prop),
  (∀H s' Z',Step c s Z s' Z'→rS s'.toks H xs→Q H s')→wpAny c.M A (spliced (backTo pos (starEach es V))) Q E s
theorem wj.nil:wj c k O Y [] []:=fun J J s Z J J x J J h=>wK (h [] s Z x.start .nil)
theorem wj.cons (hr:wj c k O Y es xs):wj c k O Y (.Constant (.str x) n p::es) (x::xs):=by
 intro A V s Z pos ok r Q E h;show wpAny c.M A (spliced ((false,eval (.Constant (.str x) n p) V)::backTo pos (starEach es V))) Q E s;refine wO (FJ ?_);have EQ:Step c s Z {s with toks:=s.toks+1} Z:=r.start.toks (b7 _);refine hr A V _ Z pos (ok.step EQ) (r.step EQ) _ E fun H s₂ bx t₂ aZ=>h _ s₂ bx (EQ.trans t₂) (.cons ?_ ?_ aZ)
 ·exact fU (e_ _) ok.tok
 ·exact fP (jy _) t₂.tok
theorem CB.pick {es:List Expr} {aP:Expr} {p pos:Pos} {xs:List Str} {i:Nat} {x:Str} (he:wj c k O Y es xs) (hs:f8 c k O Y aP (.int i)) (hi:xs[i]?=some x) (hz:xs.length≤1000)
 (hsub:∀o j,subscripted aP false o j=operate [o,j] (getItem o j):=by intros;rfl):CB c k O Y (.Subscript (.List es p) aP pos) x:=by
 intro A V s Z ok r Q E q;refine Subscript_ (List_ (he A V s Z p ok r _ E fun H s₁ aC EQ s5=>iL ?_ (by show H.toArray.size≤sizeLine;refine U jv (U s5.length (U cQ ?_));exact Ev ‹_› (by decide))));have st:=Step.alloc (c:=c) (Z:=aC) EQ.top EQ.sub {cls:=.type "list",data:=.seq H.toArray};have ta:=EQ.trans st;refine hs A V _ aC (ok.step ta) (r.step ta) _ E fun G8 s₂ bx t₂ uM=>?_;refine uM.i fun J=>?_;have hg:=dN s₁.heap (o:={cls:=.type "list",data:=.seq H.toArray}) rfl;refine wS (t₂.grow.2 _ _ hg) fun o' bG Hi=>?_;rw[Hi.eq (by simp)]at bG;refine aS (s5.get hi) fun t h1 h2 h3=>?_;have bJ:i<xs.length:=(lq.mp hi).1;exact r7 (T:="list") ⟨_,bG,rfl⟩ Dk.lookup (wpAny_getItem_list ⟨_,bG,rfl,_,rfl⟩ (kr _) (dL ‹_› ‹_›) (by simpa using h1) (q t _ _ (ta.trans t₂) h2 (fP h3 (Ev st.tok t₂.tok)))) (hsub _ _)
theorem wE.YS {NE:Nat→XV} (he:CB c k O Y e x) (eV:∀t,dU n (.val (.str x t)) O (NE t)) (h:∀t,0<t→wE (c.re c.hd t) k (NE t) Y rest Sc)
 (hs:∀V,V.scope.kind= .function→swapsWith e (some (.Name n p)) pos.line V=pure false:=by intros;rfl):wE c k O Y (.Assign [.Name n p] e pos::rest) Sc:=by
 intro A V s bs Z ok w Q E q;refine AK (zR (he A V s Z ok w.rd _ E fun t s₁ aC EQ h0 FS=>nk (w.step EQ) (eV t) (.val _) fun s₂ m w₂=>?_) (hs V w.rd.fn));have lI:=(ok.step EQ).af m;refine h t h0 A V s₂ bs aC ⟨lI.depth,lI.units,lI.frames,fP FS m.tok,lI.hand⟩ w₂.re Q E fun o f s' Z' r cP dz hp=>?_;exact q o f s' Z' (((EQ.run Y).trans ⟨m,.refl _,fun J J h=>.inl h,fun J h=>.inl h⟩).trans r) cP.ng dz hp
theorem f8.replace (hT:∃t,0<t∧c.T=t∧f8 c k O Y e (.val (.str z t))) (xz:f8 c k O Y o (.str x)) (hb:PySem.NoneBooked c.H0) (hz:x.length+(x.length+1)*z.length≤1000000)
 (hs:∀V,starEach [.Constant (.str y) n p,e] V=[(false,eval (.Constant (.str y) n p) V),(false,eval e V)]:=by intro;rfl)
 (fH:∀V,attributeBase o "replace" V (eval o V)=eval o V:=by intro;rfl)
 (fY:(c5.endLine==pos.line)=true:=by rfl):f8 c k O Y (.Call (.Attribute o "replace" c5) [.Constant (.str y) n p,e] [] pos) (.str (Txt.replace x y z)):=by
 refine aS hT fun t h0 hc he=>?_;intro A V s Z ok r Q E g;refine ya (fH V) (by rw[hs];rfl) fY (xz A V s Z ok r _ E fun v s₁ aC EQ s5=>?_);refine s5.s fun dj=>?_;refine z3 ("str") ("str.replace") A7 F.slot_str_replace F.type_str_replace (wH _ _ _) (fun J e=>(by injection e)) ?_;refine lR (c:=c) (f:=.builtin "str.replace") (first:=[.str x dj]) (.inl fun a e=>(by injection e)) ?_;rw[hs];refine zx ?_;refine wO (FJ (k:=n) (pos:=p) ?_);have jk:=ok.step EQ;have r₁:=r.step EQ;have FS:c.T<s₁.toks:=jk.tok;have t₂:Step c s₁ aC {s₁ with toks:=s₁.toks+1} aC:=r₁.start.toks (b7 _);refine wO (he A V _ aC (jk.step t₂) (r₁.step t₂) _ E fun v aF er t₃ s5=>wK ⟨t₃.top,?_⟩);refine s5.v ?_;refine g9 (SC.replaceA ?_ ?_ ?_ (by exact Ev ‹_› (by decide)) (fun t' tk up=>?_) ?_)
 ·exact g_ (fU (e_ _) FS)
 ·exact g_ h0
 ·rw[hc]at FS;exact g_ FS
 ·exact gV (((Gives.of (c:=c) g EQ).of t₂).of t₃) t₃.top t₃.sub (.str _ _) up.toks
 ·refine wS hb fun Yb h1 h2=>?_;exact⟨Yb,h1.keeps t₃.top,h2⟩
end
noncomputable def zP:List Str:=[Str.ofString "/.",Str.ofString "///",Str.ofString "/q/..",Str.ofString "/.."]
noncomputable def rX:List Str:=[Str.ofString "/",Str.ofString "//",Str.ofString "/./",Str.ofString "/z/../"]
noncomputable def Bv:List Str:=[Str.ofString "",Str.ofString "/",Str.ofString "/.",Str.ofString "/z/.."]
noncomputable def j8 (place:Str) (q:Int):Str:=
 zP.getD (q.fmod 4).toNat Str.empty++Txt.replace place (Str.ofString "/") (rX.getD ((q.fdiv 4).fmod 4).toNat Str.empty)++Bv.getD ((q.fdiv 16).fmod 4).toNat Str.empty
theorem four {q:Int}:∃i:Nat,q.fmod 4=i∧i<4∧(q.fmod 4).toNat=i:=by
 have h1:0≤q.fmod 4:=Ng _ (by decide);have h2:q.fmod 4<4:=Int.fmod_lt_of_pos _ (by decide);exact fW ((q.fmod 4).toNat) (Int.toNat_of_nonneg h1).symm ((Int.toNat_lt h1).2 h2) rfl
theorem LK {l:List Str} {i:Nat} (h:i<l.length):l[i]?=some (l.getD i Str.empty):=by
 rw[iw,fV h];rfl
theorem JE {l:List Str} {i:Nat} (h:i<l.length):(ww l)[i]?=some (.str (l.getD i Str.empty)):=by
 rw[ww,kI,LK h];rfl
theorem Ii {l:List Str} {b:Nat} (h:∀x∈l,x.length≤b) (i):(l.getD i Str.empty).length≤b:=by
 rw[iw]
 induction q:l[i]? with
 |none=>exact e_ _
 |some x=>exact h x (s_ q)
theorem ZO (i):(zP.getD i Str.empty).length≤10:=Ii (by decide+kernel) i
theorem YF (i):(rX.getD i Str.empty).length≤10:=Ii (by decide+kernel) i
theorem XU (i):(Bv.getD i Str.empty).length≤10:=Ii (by decide+kernel) i
theorem abw (x y z):(Txt.replace x y z).length≤x.length+(x.length+1)*z.length:=by
 unfold Txt.replace;split
 ·exact bV _ _
 ·have h1:=StrLaws.occ_length_le x y 0 x.length (x.length+1);have No:(PySem.Builtin.Str.glued y (PySem.Builtin.Str.partsBetween x (PySem.Builtin.Str.occurrences x y 0 x.length (x.length+1)) y.length)).length=x.length:=by rw[StrLaws.glued_between_self]
  rw[zL,Hr,Nat.add_sub_cancel]at No;rw[zL,Hr,Nat.add_sub_cancel];have h2:=x9 z.length h1;exact lK (Ev (bV ..) (bT No)) h2
theorem ZA (hh:c.hd=false) (hb:PySem.NoneBooked c.H0) (hp:place.length≤100):
 wE c k (vars [("place",.loc),("q",.loc)] [.str place,.int q] [("front",.loc),("slash",.loc)] []) B.no (gJ (bF 24)) (pL (.str (j8 place q))):=by
 kst_p
 refine aS (four (q:=q)) fun i hi SX hin=>?_;refine aS (four (q:=q.fdiv 4)) fun j eX acB afq=>?_;refine aS (four (q:=q.fdiv 16)) fun m hm UK adk=>?_;refine wE.cons (FM.assign (d:=.str (zP.getD i Str.empty)) ?_ (by kd_in) ?_)
 ·refine f8.sub (d₁:=.list (ww zP)) (d₂:=.int i) (f8.list (.cons f8.str (.cons f8.str (.cons f8.str (.cons f8.str .nil)))) (by decide)) ?_ (Rs.item aK.list (kr _) (JE SX) (by decide));exact ZB hi (f8.bin (by kd_p) (by kd_p) (Rs.tn (by decide)))
 refine wE.YS (x:=rX.getD j Str.empty) (CB.pick (xs:=rX) (i:=j) (.cons (.cons (.cons (.cons .nil)))) ?_ (LK acB) (by decide)) (fun t=>by kd_in) fun t FS=>?_
 ·exact ZB eX (f8.bin (f8.bin (by kd_p) (by kd_p) (Rs.divInt (by decide) (zD (by decide)))) (by kd_p) (Rs.tn (by decide)))
 refine wE.cons (FM.ret (d:=.str (j8 place q)) ?_ rfl);unfold j8;refine U hin (U afq (U adk ?_));have l1:=ZO i;have l2:=YF j;have l3:=XU m;have Lg:place.length+(place.length+1)*(rX.getD j Str.empty).length≤2000:=by
  have:(place.length+1)*(rX.getD j Str.empty).length≤101*10:=Nat.mul_le_mul (by exact fU ‹_› (by decide)) l2;exact Ev (lK hp this) (by decide)
 have Lr:=abw place (Str.ofString "/") (rX.getD j Str.empty);refine f8.bin (f8.bin (by kd_p) (f8.replace ⟨t,FS,rfl,by kd_p⟩ (by kd_p) hb (by kd_p)) (Rs.qw (Ev (lK l1 (Ev Lr Lg)) (by decide)))) ?_ (Rs.qw (by rw[CT];exact Ev (lK (lK l1 (Ev Lr Lg)) l3) (by decide)));refine f8.sub (d₁:=.list (ww Bv)) (d₂:=.int m) (f8.list (.cons f8.str (.cons f8.str (.cons f8.str (.cons f8.str .nil)))) (by decide)) ?_ (Rs.item aK.list (kr _) (JE UK) (by decide));exact ZB hm (f8.bin (f8.bin (by kd_p) (by kd_p) (Rs.divInt (by decide) (zD (by decide)))) (by kd_p) (Rs.tn (by decide)))
theorem QH (x:aT c) (hp:place.length≤100):cg c (k+1) (.ref 254) [.str place,.int q] (.str (j8 place q)):=
 cg.fn (st:=bF 24) (qual:="_law_spelled") (dV:=.none) (x.fn rfl rfl rfl rfl) (by kd_p) cG rfl (fun J J=>sr fun J J=>rfl) (fun bN=>ZA (c:=c.at bN) x.hd x.booked hp)
end
section
section
variable {c:ah} {k:Nat} {O BB NE:XV} {Y:B} {Sc:fy→Prop}
theorem FM.Sz (hh:c.hd=false) (he:f8 c k O Y (.Tuple [lF,nM] m c6) (.tup [d₁,d₂])) (acj:dU b d₂ O BB) (YW:dU a d₁ BB NE) (h:Sc (.next NE Y))
 (ha:∃o,(⟨a,.loc,o⟩:iu)∈O) (hb:∃o,(⟨b,.loc,o⟩:iu)∈O)
 (Jk:∀V:Env,V.kindOf a=some .local→V.kindOf b=some .local→V.blockKind= .function→swappedStores [.Tuple [.Name a jh,.Name b mP] n p] (.Tuple [lF,nM] m c6) V=pure (some [a,b])):
 FM c k O Y (.Assign [.Tuple [.Name a jh,.Name b mP] n p] (.Tuple [lF,nM] m c6) pos) Sc:=by
 intro A V s bs Z ok w Q E q;refine aO ha fun oa ha=>?_;refine aO hb fun j4 hb=>?_;have hk:V.blockKind= .function:=by
  have:=w.rd.fn;delta Env.blockKind;refine U this ?_;rfl
 have hs:=Jk V (w.locs _ ha rfl) (w.locs _ hb rfl) hk;show wpAny c.M A (standAt pos>>=fun J=>(pure false:Sem Bool)>>=fun b'=>if b' then _ else(eval (.Tuple [lF,nM] m c6) V>>=fun v=>swappedStores [.Tuple [.Name a jh,.Name b mP] n p] (.Tuple [lF,nM] m c6) V>>=fun sw=>assignStores V v sw _)) Q E s;refine u8 (f6 (u8 (On ?_)));refine U (Tk (by decide)) (U hs ?_);refine u8 (he A V s Z ok w.rd _ E fun v s₁ aC EQ s5=>u8 (On ?_));show wpAny c.M A (rule "assign.swapped-stores" >>=fun J=>unpackItems v 2 none>>=fun items=>assignInOrder [fun x=>bindName V b x,fun x=>bindName V a x] items.reverse>>=fun J=>pure .next) Q E s₁;refine u8 (pD (u8 (M0 (ok.hand hh) EQ.top EQ.sub s5 rfl fun H s₂ t₂ aZ=>?_)));refine fB (m8 aZ) fun bg bK s4 h₁ h₂=>?_;subst s4;show wpAny c.M A (assignInOrder [fun x=>bindName V b x,fun x=>bindName V a x] [bK,bg]>>=fun J=>pure .next) Q E s₂;have w₂:=(w.step EQ).step t₂;refine u8 (Cd (wpAny_bindName (nk w₂ acj h₂ fun aF afv w₃=>?_)));refine Cd (wpAny_bindName (nk w₃ YW h₁ fun iY UI iP=>assignInOrder_nil (On ?_)));exact q (.next NE Y) .next iY _ (((EQ.run Y).trans (t₂.run Y)).trans ⟨afv.trans UI,.refl _,fun J J h=>.inl h,fun J h=>.inl h⟩) iP .next h
theorem FM.aab (he:f8 c k O Y e (.val (.ref a))) (ha:Y a=some (.list l)) (h:Sc (.ret (.list l) O (Y.put a none))):FM c k O Y (.Return (some e) pos) Sc:=by
 intro A V s bs Z ok w Q E q;refine E7 (he A V s Z ok w.rd _ E fun v s' Z' t s5=>?_);refine s5.v ?_;refine d9 ((w.step t).acZ ha) fun o hz cP FS le=>?_;refine q (.ret (.list l) O (Y.put a none)) _ s' (Z'.put a o) ?_ cP (.ret FS) h;refine(t.run Y).trans ⟨.refl _,le,fun b o' e=>?_,fun b hb=>?_⟩
 ·unfold TW.put at e;by_cases q:b=a
  ·subst q;exact .inr (.inl (by refine U ha ?_;simp))
  ·rw[Tk q]at e;exact .inl e
 ·by_cases q:b=a
  ·subst q;exact absurd (B.ai ..) hb
  ·change (Y.put a none) b≠none at hb;rw[B.aa _ _ q]at hb;exact .inl hb
noncomputable def mL (l:List Int) (lo hi st:Option Int):List Int:=
 (sliceRange (sliceBounds lo hi st l.length).1 (sliceBounds lo hi st l.length).2.1 (sliceBounds lo hi st l.length).2.2).filterMap (fun x=>l[x]?)
theorem Km (l) (lo hi st):lD (l.map .int) lo hi st=(mL l lo hi st).map .int:=by
 delta lD mL;rw[b8,List.map_filterMap];congr 1;funext i;rw[kI]
end
end
noncomputable abbrev Move:=Str×Str×Str×Str
noncomputable def qc (x:Move):D:=.tup [.str x.1,.str x.2.1,.str x.2.2.1,.str x.2.2.2]
noncomputable def j9 (pool:List Str) (n:Int):Str:=pool.getD (n.fmod pool.length).toNat Str.empty
noncomputable def nv:List Str→List Str→Int→Nat→List Move
 |[],_,_,_=>[]
 |place::r,pool,n,j=>
  (place,j9 pool n,j8 place (n+29*j),j8 (j9 pool n) ((n+29*j).fdiv 64+7*j))::nv r (pool.filter (fun x=>x !=j9 pool n)) (n.fdiv pool.length) (j+1)
theorem JJ (place r pool n j):nv (place::r) pool n j=(place,j9 pool n,j8 place (n+29*j),j8 (j9 pool n) ((n+29*j).fdiv 64+7*j))::nv r (pool.filter (fun x=>x !=j9 pool n)) (n.fdiv pool.length) (j+1):=rfl
theorem aac (a b c):nv [] a b c=[]:=rfl
noncomputable def mV (xs:List Int):List Move:=nv (gR (37+(mL xs (some 0) none (some 3)).sum)) (gR (101+(mL xs (some 1) none (some 3)).sum)) (5000+(mL xs (some 2) none (some 3)).sum) 0
theorem Le {l:List Str} {x:Str} (nd:l.Nodup) (h:x∈l):(l.filter (fun y=>y !=x)).length+1=l.length:=by
 induction l with
 |nil=>cases h
 |cons y l ih=>
  rw[dg]at nd;rcases aY.mp h with rfl|h
  ·have:l.filter (fun y=>y !=x)=l:=kW.mpr fun z hz=>by
    simp only[yv,ne_eq];rintro rfl;exact nd.1 hz
   simp[this]
  ·have a_:y≠x:=by rintro rfl;exact nd.1 h
   have:(y !=x)=true:=by simp[a_]
   simp only[iV,this,lH,bU];exact U (ih nd.2 h) rfl
theorem Nz (h:pool≠[]):j9 pool n∈pool:=by
 have hl:0<pool.length:=List.length_pos_iff.mpr h;unfold j9;rw[iw,fV (rI hl)];exact rF _
theorem zE (n):(gR n).length=6∧∀x∈gR n,x.length≤10:=by
 refine Op (GH n 4) fun h1 h2=>?_;exact⟨h1,h2⟩
inductive KQ (xs:List Int) (a:Addr) (aD:List D) (O:XV) (Y:B):Prop
 |mk (places pool:List Str) (n:Int) (wP:List Move) (bR bM d8:Option D):(aD=ww places)→(Y=B.no.put a (some (.list (wP.map qc))))→(wP.length+places.length=6)→(places.length=pool.length)→(pool.Nodup)→((∀x∈places,x.length≤10))→((∀x∈pool,x.length≤10))→(mV xs=wP++nv places pool n wP.length)→(O=[⟨"script",.loc,some (.list (xs.map .int))⟩,⟨"pool",.loc,some (.list (ww pool))⟩,⟨"n",.loc,some (.int n)⟩,⟨"moves",.loc,some (.val (.ref a))⟩,⟨"place",.loc,bR⟩,⟨"goal",.aL,bM⟩,⟨"q",.loc,d8⟩,⟨"_law_ends",.bw,some (.val (.ref 247))⟩,⟨"sum",.bw,some (.val (.builtin "sum"))⟩,⟨"len",.bw,some (.val (.builtin "len"))⟩,⟨"_law_spelled",.bw,some (.val (.ref 254))⟩])→KQ xs a aD O Y
theorem Uz (x:aT c) (hx:xs.length≤63):
 wE c (k+1) (vars [("script",.loc)] [.list (xs.map .int)] [("pool",.loc),("n",.loc),("moves",.loc),("place",.loc),("goal",.aL),("q",.loc)] [("_law_ends",.ref 247),("sum",.builtin "sum"),("len",.builtin "len"),("_law_spelled",.ref 254)]) B.no (gJ (bF 25)) (pL (.list ((mV xs).map qc))):=by
 kst_p
 have hh:=x.hd;obtain⟨s1,NH⟩:∃i,(mL xs (some 1) none (some 3)).sum=i:=⟨_,rfl⟩;obtain⟨s2,n5⟩:∃i,(mL xs (some 2) none (some 3)).sum=i:=⟨_,rfl⟩;have cl:∀{a:Addr} {st:Stmt} {q:Str} {dV:Value},FnAt c a st q dV→Callee c (.ref a):=fun{a st q dV} h=>by
  refine dS (h.obj) fun o pm cd h1 h2 J=>?_;exact .inr ⟨_,o,_,rfl,h1,h2⟩
 have OC:∀{k:Nat} {O:XV} {v:Expr} {lo hi st:Option Expr} {p pos:Pos} {i j m:Option Int},f8 c k O B.no v (.list (xs.map .int))→ff c k O B.no lo i→ff c k O B.no hi j→ff c k O B.no st m→m≠some 0→(∀o x,∃ops,subscripted (.Slice lo hi st p) false o x=operate ops (getItem o x))→f8 c k O B.no (.Subscript v (.Slice lo hi st p) pos) (.list ((mL xs i j m).map .int)):=fun s5 h1 h2 h3 h0 hsub=>by
  rw[←Km];exact f8.slice s5 aK.list h1 h2 h3 h0 (by simp;exact Ev hx (by decide)) hsub
 refine wE.cons (FM.Sz hh (d₁:=.list (ww (gR (101+s1)))) (d₂:=.int (5000+s2)) ?_ (by kd_in) (by kd_in) ?_ ⟨_,by walk_at "v"⟩ ⟨_,by walk_at "v"⟩ (fun V h1 h2 h3=>by
  delta swappedStores;have rt:(V.kindOf "pool" ==some NameKind.local&&true)=true:=by refine U h1 ?_;rfl
  have kK:(V.kindOf "n" ==some NameKind.local&&true)=true:=by refine U h2 ?_;rfl
  refine(aex ?_ oA ?_ oA oA).trans (cN (fun l=>pure (some l)) (L6 (ak rt) (ak kK)))
  ·exact U h3 oA
  ·refine U (L6 (ak rt) (ak kK)) ?_;exact oA))
 ·refine f8.tuple (.cons (f8.call (by kd_p) (cl (Ja x)) (.cons ?_ .nil (by kd_p)) (cg.r (NW x)) (by kd_p)) (.cons ?_ .nil (by kd_p)) (by kd_p)) (by simp)
  ·refine f8.bin (by kd_p) ?_ Rs.addInt;exact ZB NH (f8.sum hh (by kd_p) (OC (by kd_p) (.some (by kd_p)) .none (.some (by kd_p)) (by simp) (by intros;exact⟨_,rfl⟩)) aK.list)
  ·refine f8.bin (by kd_p) ?_ Rs.addInt;exact ZB n5 (f8.sum hh (by kd_p) (OC (by kd_p) (.some (by kd_p)) .none (.some (by kd_p)) (by simp) (by intros;exact⟨_,rfl⟩)) aK.list)
 ·obtain⟨s0,JW⟩:∃i,(mL xs (some 0) none (some 3)).sum=i:=⟨_,rfl⟩;have hM:mV xs=nv (gR (37+s0)) (gR (101+s1)) (5000+s2) 0:=by unfold mV;exact U JW (U NH (U n5 rfl))
  refine Op (zE (37+s0)) fun uf Zb=>?_;refine Op (zE (101+s1)) fun EK Yj=>?_;refine wE.cons (FM.iG (aE.newList .nil (by simp) fun a J=>⟨_,by kd_in,?_⟩));refine wE.cons (FM.for hh gG (items:=ww (gR (37+s0))) (bA.list (f8.call (by kd_p) (cl (Ja x)) (.cons ?_ .nil (by kd_p)) (cg.r (NW x)) (by kd_p)))
   (KQ xs a)
   ⟨_,_,_,[],_,_,_,rfl,rfl,by refine U uf ?_;rfl,by exact U uf (U EK rfl),Gw _,Zb,Yj,hM,rfl⟩ (fun J J J J=>trivial) ?_ ?_)
  ·refine f8.bin (by kd_p) ?_ Rs.addInt;refine ZB JW ?_;refine f8.sum hh (by kd_p) (?_:f8 _ _ _ _ _ (.list ((mL xs (some 0) none (some 3)).map .int))) aK.list;rw[←Km];exact f8.slice (by kd_p) aK.list (.some (by kd_p)) .none (.some (by kd_p)) (by simp) (by simp;exact Ev hx (by decide)) (by intros;exact⟨_,rfl⟩)
  ·intro d rest NE I Go;obtain⟨places,pool,n,wP,bR,bM,d8,hr,rfl,hl,zG,nd,GI,FT,zq,rfl⟩:=Go;rcases places with _|⟨place,places⟩
   ·injection hr
   refine Op (jd hr) fun s4 eg=>?_;subst s4 eg;have hp0:pool≠[]:=by rintro rfl;simp at zG
   have hpl:0<pool.length:=List.length_pos_iff.mpr hp0;have aeC:pool.length≤6:=by refine ZB zG ?_;simp at hl⊢;exact A_ (Ev (DU ..) (bT hl))
   have hga:=Nz (n:=n) hp0;have gp:=FT _ hga;have gg:(ww pool).length=pool.length:=by simp[ww]
   have zK:(wP.map qc).length=wP.length:=by simp
   have hd0:=k7 hpl gg.symm;have uZ:=jX gg aeC (show 6≤1000000 by decide);have Gd:=jX zK (bV ..) (bT hl);refine bh.name (by kd_in) ?_;refine wE.cons (FM.B8 hh (d:=.tup [.str (j9 pool n),.int (n+29*wP.length)]) ?_ ?_ (hw:=fun V bs Z h w=>PI (.inl (w.kq ⟨"goal",.aL,bM⟩ (by walk_at "v") rfl).1)))
   ·refine f8.tuple (.cons (f8.sub (d₂:=.int (n.fmod pool.length)) (by kd_p) ?_ (Rs.item aK.list (D3 hpl) (JE (rI hpl)) uZ)) (.cons ?_ .nil (by kd_p)) (by kd_p)) (by simp)
    ·exact ZB gg (f8.bin (by kd_p) (f8.len (by kd_p) (by kd_p) aK.list uZ) (Rs.tn (wR hd0)))
    ·exact ZB zK (f8.bin (by kd_p) (f8.bin (by kd_p) (f8.len (by kd_p) (by kd_p) (aK.cell (B.ai ..)) (Ev Gd (by decide))) (Rs.Om (.of_left (by decide)))) Rs.addInt)
   refine bh.tuple ?_;refine bh.name (by kd_in) (bh.name (by kd_in) ?_);dsimp only[rz];have agk:=GI place (.head _);refine wE.cons (FM.expr (aE.append (a:=a) (l:=wP.map qc) (d:=qc (place,j9 pool n,j8 place (n+29*wP.length),j8 (j9 pool n) ((n+29*wP.length).fdiv 64+7*wP.length))) (by kd_p) ?_ (B.ai ..) (Ev Gd (by decide)) ?_))
   ·refine f8.tuple (.cons (by kd_p) (.cons (by kd_p) (.cons ?_ (.cons ?_ .nil (by kd_p)) (by kd_p)) (by kd_p)) (by kd_p)) (by simp)
    ·exact f8.call (by kd_p) (cl (st:=bF 24) (x.fn rfl rfl rfl rfl)) (.cons (by kd_p) (.cons (by kd_p) .nil (by kd_p)) (by kd_p)) (cg.r (QH x (by kd_p))) (by kd_p)
    ·refine f8.call (by kd_p) (cl (st:=bF 24) (x.fn rfl rfl rfl rfl)) (.cons (by kd_p) (.cons ?_ .nil (by kd_p)) (by kd_p)) (cg.r (QH x (by kd_p))) (by kd_p);exact ZB zK (f8.bin (f8.bin (by kd_p) (by kd_p) (Rs.divInt (by decide) (zD (by decide)))) (f8.bin (by kd_p) (f8.len (by kd_p) (by kd_p) (aK.cell (B.ai ..)) (Ev Gd (by decide))) (Rs.Om (.of_left (by decide)))) Rs.addInt)
   refine wE.cons (FM.assign (d:=.int (n.fdiv pool.length)) ?_ (by kd_in) ?_)
   ·exact ZB gg (f8.bin (by kd_p) (f8.len (by kd_p) (by kd_p) aK.list uZ) (Rs.divInt (wR hd0) (zD (P6 uZ))))
   refine wE.cons (FM.nV hh gG (caps:=[("goal",.str (j9 pool n))]) (gs:=[]) (ts:=[("one",.loc)]) (out:=ww (pool.filter (fun x=>x !=j9 pool n))) (by intros;rfl) (by dsimp only[List.map];decide+kernel) ?_ cG (bA.list (l:=ww pool) (by kd_p)) trivial (dO.one (xs:=pool) (F:=.str) .str (by kd_p) fun y No=>by
    kst_p
    exact⟨eK.one (az.cmp (by kd_p) (by kd_p) Rs.pU),fun J=>by kd_p⟩) (by kd_in) ?_)
   ·intro y No;refine bC No ?_ fun No=>?_
    ·exact⟨.aL,.inl rfl,by walk_at "v"⟩
    ·cases No
   refine wE.nil ?_;have hfl:=Le nd hga;refine⟨places,pool.filter (fun x=>x !=j9 pool n),n.fdiv pool.length,wP++[(place,j9 pool n,j8 place (n+29*wP.length),j8 (j9 pool n) ((n+29*wP.length).fdiv 64+7*wP.length))],_,_,_,rfl,?_,?_,?_,nd.filter _,fun y No=>GI y (.tail _ No),fun y No=>FT y (cB.mp No).1,?_,rfl⟩
   ·refine U B.mq (U gA ?_);rfl
   ·simp at hl⊢;exact Yl hl
   ·simp at zG;exact Bb (zG.trans hfl.symm)
   ·rw[zq,JJ,jU,dR];rfl
  ·intro NE I Go;obtain⟨places,pool,n,wP,bR,bM,d8,hr,rfl,hl,zG,nd,GI,FT,zq,rfl⟩:=Go;rcases places with _|⟨place,places⟩
   rotate_left
   ·injection hr
   have:mV xs=wP:=by refine U zq ?_;simp[JJ,aac]
   refine wE.nil ?_;refine wE.cons (FM.aab (a:=a) (l:=wP.map qc) (by kd_p) (B.ai ..) ?_);exact U this rfl
theorem acW (x:aT c) (hx:xs.length≤63):cg c (k+2) (.ref 259) [.list (xs.map .int)] (.list ((mV xs).map qc)):=
 cg.fn (st:=bF 25) (qual:="_law_moves") (dV:=.none) (x.fn rfl rfl rfl rfl) (by kd_p)
  (bB (x.glob (by kd_p)) (bB (x.dh (by kd_p) (by kd_p) (by decide)) (bB (x.dh (by kd_p) (by kd_p) (by decide)) (bB (x.glob (by kd_p)) cG)))) rfl (fun J J=>iZ fun J=>rfl) (fun bN=>Uz (x.at (L:=bN)) hx)
section
open PySem.W
set_option maxHeartbeats 0
noncomputable def Co:Program:=view sE [34]
noncomputable def Dh:List Str:=["_wall","_NODE_OUT","_NODE_DONE","_NodeInfo","CycleError","TopologicalSorter","_plain_name","ABCMeta","_ABCLike","_abc_plain_meta","fspath","_check_arg_types","splitroot","normpath","commonpath","_law_ends","_law_spelled","_law_moves","_law_meets","_law_shared","_law_ways","_law_told","_law_ring","_law_prepared","_law_rounds","_law_moved"]
noncomputable def addrs:List Addr:=[1,2,3,35,36,39,40,41,42,43,54,55,66,72,73,79,80,86,87,91,92,98,99,105,106,112,113,119,120,126,127,133,134,136,137,138,139,213,214,227,228,234,235,239,240,246,247,253,254,258,259,265,266,270,271,277,278,282,283,287,288,294,295,299,300,304,305,309,310]
noncomputable def B3 (p:Program) (w:World) (N:Nat):Option Shared:=
 (PySem.W.Fast.tw10274390034422433532 PySem.W.Fast.tw14364793385576792824 (opening p) w N (PySem.W.Fast.tw1435165496053646825 (opening p)).1 (PySem.W.Fast.tw1435165496053646825 (opening p)).2).bind (PySem.W.Fast.tw14289696077712309145 p)
noncomputable def CG (p:Program) (w:World) (N:Nat) (s₀:Shared):Option Shared:=
 match s₀.heap.isNs mainGlobals&&s₀.gens.size==0 with
 |true=>(PySem.W.Fast.tw14082659384304107361 PySem.W.Fast.tw14364793385576792824 p w s₀.heap.objs.size (s₀.heap.nsMap mainGlobals "__annotations__") N s₀ (topStub p)).bind fun s₁=>match staticsOk (importedModules p.main.body) s₀.heap s₁.heap&&namesBound p s₁.heap&&gensDone s₁&&laidKept s₀.heap s₁.heap with
  |true=>some s₁
  |false=>none
 |false=>none
theorem abg (p) (w) (N):openEnds treeTable p w N=(B3 p w N).bind (CG p w N):=by
 have h1:fencedOpening treeTable p w N=B3 p w N:=by
  unfold fencedOpening B3;rw[PySem.W.Fast.te10274390034422433532,Qo,PySem.W.Fast.te1435165496053646825,PySem.W.Fast.te14289696077712309145]
 have h2:topFrom treeTable p w N=CG p w N:=by
  funext s₀;unfold topFrom CG;rw[PySem.W.Fast.te14082659384304107361,Qo];rfl
 unfold openEnds;rw[h1,h2]
noncomputable def IF (s:Shared):List (Option Obj)×Nat:=(addrs.map s.heap.get?,s.toks)
noncomputable def HU (w:World):List (Option Obj)×Nat:=((KF w.params).map fun p=>some p.2,614)
theorem SA:∀w,((B3 sE w 4494).bind (CG sE w 4494)).map (fun s=>(PySem.W.Fast.tw4187177175401517315 Co Dh (importedModules sE.main.body) (fun J=>true) true s,IF s))=some (openGood Co Dh,HU w):=by
 intro w;kernel_rfl
theorem left:LeftO sE Co Dh (fun J=>true) IF HU 4494:=by
 intro w;rw[abg,PySem.W.Fast.te4187177175401517315];exact SA w
end
section
open PySem.W
set_option maxHeartbeats 400000
theorem V7 (h):RecFacts [] h:=
 ⟨fun x hx=>(nomatch hx),fun x hx=>(nomatch hx),fun c nF a hc=>(by simp[WRecords.fields?]at hc),fun c fs hf=>(nomatch hf)⟩
theorem aeI (h:IntsAre H ns):au Z H (ns.map .int):=by
 induction h with
 |nil=>exact .nil
 |cons n t _ ih=>exact .cons (.int n t) ih
set_option tactic.hygienic true in theorem holds_of (call:∀(c:ah) (xs:List Int),aT c→xs.length≤63→cg c 12 (.ref 310) [.list (xs.map .int)] (.val (.bool true))):PySem.Challenge.rw_pd0029_01.Holds:=by
 refine holds_law (by decide+kernel) fun age=>?_;refine holds_openX (q:=Co) (loose:=Dh) (Xt:=fun J=>true) (XP:=fun J J=>True) (Yf:=IF) (Ya:=HU) (N:=4494) left (fun J J=>trivial) (fun J J J J J=>trivial) (by rfl) (by rfl) (by rfl) (fun s e=>V7 _) (by rfl) (by first|assumption|decide+kernel) (by decide+kernel) ⟨rfl,rfl,rfl,rfl,rfl,by decide+kernel⟩ ?_ ?_
 ·w_witness2
 ·intro w s₀ s₁ vD lQ dY M4 a o pm cd doc dV kV xz hd agd fF JR hg args vals as L Ez aan pW sQ hlo;have K:(KF w.params).In s₁.heap:=Frag.In.keeps (Frag.in_of (as:=addrs) rfl (cN Prod.fst M4)) L.keeps;have ha:a=310:=by
   have h1:=mg_of (n:="law") (v:=.ref 310) K dY.T.g (by kernel_rfl);have h2:vD "law" =some (.ref a):=JR;rw[h1]at h2;cases h2;rfl
  clear hd fF JR
  wrow_args Ez aan pW sQ hlo
  rename_i ns _ _ _ _ _ _ _ l H _ aU _ _ _ qs _ afV _;have cK:ns.length≤63:=by lia
  have tok:614≤s₁.toks:=X.script_toks L (cN Prod.snd M4);have hlo:=X.script_obj L aU;subst ha;refine call {p:=sE,w:=w,H0:=s₁.heap} ns ⟨rfl,K,dY.T.nolimit,⟨lQ,dY.T.b,dY.T.builtins⟩,rfl,rfl⟩ cK callerA s₁ (TW.put (fun J=>none) l {cls:=.type "list",data:=.seq H.toArray}) [.ref l] ⟨by decide,by decide,⟨[],rfl,trivial,fun J h=>(nomatch h),fun J h=>(nomatch h)⟩,(by show 0<s₁.toks;lia),fun J=>rfl⟩ (fun J J e=>e) ?_ ?_ _ _ ?_
  ·intro b j4 e;unfold TW.put at e;by_cases q:b=l
   ·subst q;rw[ak rfl]at e;cases e;exact⟨hlo,by simp⟩
   ·rw[Tk q]at e;cases e
  ·exact .cons (.list (TW.ai ..) (aeI qs)) .nil
  ·intro v s' Z' st s5;refine s5.v ?_;refine rR (.inl ⟨.bool true,.bool true,[],rfl,fun J=>rfl,.bool true,postW_of (r:=PySem.Challenge.rw_pd0029_01.row.toRowW) (X:=true) rfl (w_eq_bool (k:=true) (l:=true) (w_res rfl) w_lit) rfl,fun J=>⟨yG,fun J h=>(nomatch h)⟩⟩) (.of_keep st.top) ?_ ?_
   ·refine fE (st.rest) fun h t s4=>?_;subst s4;rfl
   ·refine fE (st.rest) fun h t s4=>?_;subst s4;exact .of_eq hg
end
section
noncomputable def Iq (jC kO:Expr) (wP:Value) (V:Env):Sem Unit:=match wP with
 | .ref D=>do
  let bO←eval jC V
  let G1←holding [bO] (eval kO V)
  standAt {jC.pos with endLine:=kO.pos.endLine,endCol:=kO.pos.endCol}
  holding [bO,G1] (dictSet D bO G1)
 |_=>pure ()
section
variable {c:ah} {k:Nat} {O:XV} {Y:B}
theorem ae9 (A) (s) (Q E) (h:∀o,o.isFreed=false→(∀Z,eN c Z o (.dict []))→Q (.ref s.heap.objs.size) {s with heap:=s.heap.push o}):wpAny c.M A newDict Q E s:=by
 unfold PySem.newDict;exact iL (h _ rfl fun Z=>⟨[],⟨#[],0,⟨rfl,rfl,rfl⟩,rfl,fun K h=>by simp at h,.nil,yG⟩,rfl,.nil⟩) (by size_fits)
theorem o_.dict (hk:f8 c k O Y jC (.str x)) (s5:f8 c k O Y kO d) (hz:l.length≤1000000):o_ c k O Y (Iq jC kO) (.dict l) (.dict (fR l x d)):=by
 intro A V s Z wP q9 ok r mo ha Q E q;unfold Iq;dsimp only;refine u8 (hk A V s Z ok r _ E fun bO s₁ aC EQ qo=>?_);refine u8 (bW (s5 A V s₁ aC (ok.step EQ) (r.step EQ) _ E fun G1 s₂ bx t₂ Y0=>?_));refine qo.s fun K=>?_;have t:=EQ.trans t₂;have aq:=t.p9 mo;refine Op (aq.cells wP _ ha) fun aG K=>?_;refine wS aG fun o xz UW=>aS UW fun kvs h1 h2 h3=>?_;refine u8 (f6 (bW ?_));refine wpAny_dictSet_pairs (knd:=PySem.strKind c.p c.w) (k:=x) (n9 ..) (zo.mpr ⟨o,xz,h1⟩) (fun h' hd' av=>?_) (by refine U (yp (Z:=bx) h2) (U cQ ?_);exact Ev ‹_› (by decide));refine Op (GZ h2 h3 (x:=x) Y0) fun i1 cM=>?_;refine wS (zo.mp hd') fun o' bG hk'=>?_;have abQ:=hk';refine fB abQ fun es ep K E6 K=>?_;exact q _ bx (aq.trans (aN.put (t:=s₂.toks+1) aq.cells t.top t.sub (by refine U ha ?_;simp) av bG (fun H=>by refine U E6 ?_;simp) ⟨_,hk',i1,cM⟩ (b7 _)))
variable {J:TW→List D→Addr→Objs→Prop} {Src:B→Prop} {jC kO bk iter:Expr} {sc:Scope} {pos:Pos} {ts:List (Str×cZ)} {caps:List (Str×D)} {gs:List (Str×Value)} {α:Type} {xs:List α} {g:α→D} {kf:α→Str} {gc:α→D}
noncomputable def kY (kf:α→Str) (gc:α→D) (xs:List α):List (Str×D):=xs.foldl (fun l a=>fR l (kf a) (gc a)) []
theorem Qa (xs:List α):(kY kf gc xs).length≤xs.length:=by
 have main:∀(xs:List α) (l:List (Str×D)),(xs.foldl (fun l a=>fR l (kf a) (gc a)) l).length≤l.length+xs.length:=by
  intro xs
  induction xs with
  |nil=>intro l;exact aH _
  |cons a xs ih=>
   intro l;refine U kQ (U bU ?_);have h1:(fR l (kf a) (gc a)).length≤l.length+1:=by
    unfold fR;split
    ·rw[b8];exact bV _ _
    ·refine U dR ?_;simp only[bU,gU];exact aH _
   have:=ih (fR l (kf a) (gc a));exact OX this rfl h1
 have:=main xs [];unfold kY;simpa using this
theorem ace (xs:List α) (a:α):kY kf gc (xs++[a])=fR (kY kf gc xs) (kf a) (gc a):=by unfold kY;refine U List.foldl_append ?_;rfl
theorem Kq (hh:c.hd=false) (c7:jT c J Src) (hs:∀x,foldedSetIterable iter V x=pure x)
 (hok:nE sc ts (caps.map Prod.fst) (gs.map Prod.fst)=true) (fL:∀x∈caps,∃kd,(kd=cZ.aL∨kd= .gn)∧(⟨x.1,kd,some x.2⟩:iu)∈O) (gp:∀x∈gs,gv c.H0 x.1 x.2)
 (hi:bA c k O Y iter J (xs.map g)) (fO:Src Y) (hz:xs.length≤1000000)
 (turn:∀a∈xs,∀os,os.length=ts.length→∀I,bh c (gy ts os caps gs) I bk (g a) fun dF=>(∃bq,bq.length=ts.length∧dF=gy ts bq caps gs)∧f8 c k dF Y jC (.str (kf a))∧f8 c k dF Y kO (gc a))
 (ok:Ok c k A s) (r:bz c Z s.heap V O Y)
 (q:∀wP L s' Z',CompEnd c s Z s' Z' wP L (.dict (kY kf gc xs))→CompPost c.M A use Q E (.ref wP) L s'):
 wpAny c.M A (comprehension (.DictComp jC kO [⟨bk,iter,[],0⟩] sc pos) sc V (firstIterPos [⟨bk,iter,[],0⟩] pos) newDict false (eval iter V) use) Q E s:=by
 refine Hv hh c7 (emit:=Iq jC kO) (t8:=.dict []) rfl hs (fun K K K=>rfl) (fun K K K K=>rfl) (fun K K K K=>rfl) (fun K K K K=>rfl) (fun K K K K=>rfl) hok fL gp ae9 hi fO
  (fun aD NE cl=>∃pre jr os,xs=pre++jr∧aD=jr.map g∧os.length=ts.length∧NE=gy ts os caps gs∧cl= .dict (kY kf gc pre)) ⟨[],xs,kh ts,rfl,rfl,by simp[kh],rfl,rfl⟩ ?_ ok r ?_
 ·intro d rest NE cl Go I;refine yK Go fun pre jr os hx hr xz s4 eg=>?_;subst s4 eg;rcases jr with _|⟨a,jr⟩
  ·injection hr
  refine Op (jd hr) fun s4 eg=>?_;subst s4 eg;intro A V s bs Z v ue w FS Q E q;refine turn a (by refine U hx ?_;simp) os xz I A V s bs Z v ue w FS Q E fun dF s' Z' run cP ⟨⟨bq,bG,e⟩,h1,h2⟩=>q dF s' Z' run cP ⟨true,eK.nil,fun x=>(by injection x),fun K=>?_⟩;refine⟨.dict (fR (kY kf gc pre) (kf a) (gc a)),o_.dict h1 h2 ?_,pre++[a],jr,bq,by refine U hx ?_;simp,rfl,bG,e,by rw[ace]⟩;have h3:=Qa (kf:=kf) (gc:=gc) pre;have h4:=cN List.length hx;rw[dR]at h4;exact Ev h3 (Ev (Ev (bV ..) (bT h4.symm)) ‹_›)
 ·intro wP L cl s' Z' Go ce;refine NT Go fun NE pre jr os hx hr xz s4 eg=>?_;subst s4 eg;have:jr=[]:=by simpa using hr.symm
  subst this;rw[fQ]at hx;subst hx;exact q wP L s' Z' ce
theorem FM.acE (hh:c.hd=false) (c7:jT c J Src) (hs:∀V x,foldedSetIterable iter V x=pure x)
 (hok:nE sc ts (caps.map Prod.fst) (gs.map Prod.fst)=true) (fL:∀x∈caps,∃kd,(kd=cZ.aL∨kd= .gn)∧(⟨x.1,kd,some x.2⟩:iu)∈O) (gp:∀x∈gs,gv c.H0 x.1 x.2)
 (hi:bA c k O Y iter J (xs.map g)) (fO:Src Y) (hz:xs.length≤1000000)
 (turn:∀a∈xs,∀os,os.length=ts.length→∀I,bh c (gy ts os caps gs) I bk (g a) fun dF=>(∃bq,bq.length=ts.length∧dF=gy ts bq caps gs)∧f8 c k dF Y jC (.str (kf a))∧f8 c k dF Y kO (gc a))
 (h:∀X,Y X=none→∃NE,dU n (.val (.ref X)) O NE∧Sc (.next NE (Y.put X (some (.dict (kY kf gc xs)))))):FM c k O Y (.Assign [.Name n p] (.DictComp jC kO [⟨bk,iter,[],0⟩] sc pos') pos) Sc:=by
 intro A V s bs Z ok w Q E q;obtain⟨b,hb⟩:∃b:Bool,swapsWithSole [.Name n p] (.DictComp jC kO [⟨bk,iter,[],0⟩] sc pos') pos.line V=pure b:=⟨_,rfl⟩
 induction b with
 |false=>
  refine zR ?_ hb;show wpAny c.M A (comprehension (.DictComp jC kO [⟨bk,iter,[],0⟩] sc pos') sc V (firstIterPos [⟨bk,iter,[],0⟩] pos') newDict false (eval iter V) none) _ E s;refine Kq hh c7 (hs V) hok fL gp hi fO hz turn ok w.rd fun wP L s' Z' ce=>?_;refine aO (ce.ns) fun m M2=>?_;refine⟨m,M2,fun h' m' gM av=>?_⟩;have pN:=ce.last w.rd.top gM av;refine wS (h wP (w.rd.fresh ce.new)) fun NE eV uN=>?_;have aq:=pN.cell w.rd;refine nk (w.after aq) eV (.val _) fun s₂ af w₂=>?_;exact q (.next NE _) .next s₂ _ (aq.run.trans ⟨af,.refl _,fun K K h=>.inl h,fun K h=>.inl h⟩) w₂ .next uN
 |true=>
  show wpAny c.M A (standAt pos>>=fun K=>swapsWithSole [.Name n p] (.DictComp jC kO [⟨bk,iter,[],0⟩] sc pos') pos.line V>>=_) Q E s;refine U hb ?_;refine u8 (f6 (u8 (On ?_)));show wpAny c.M A ((comprehension (.DictComp jC kO [⟨bk,iter,[],0⟩] sc pos') sc V (firstIterPos [⟨bk,iter,[],0⟩] pos') newDict false (eval iter V) (some fun v=>PySem.assign (.Name n p) V v)>>=fun K=>pure ())>>=fun K=>pure .next) Q E s;refine u8 (u8 (Kq hh c7 (hs V) hok fL gp hi fO hz turn ok w.rd (Q:=fun K s'=>wpAny c.M A (pure ()) (fun K s'=>wpAny c.M A (pure .next) Q E s') E s') fun wP L s' Z' ce=>?_));have r:=w.rd;refine wS (h wP (r.fresh ce.new)) fun NE eV uN=>?_;have aq:=ce.cells r;have w₁:=w.after aq;refine w6 (nk w₁ eV (.val (.ref wP)) fun gY af g6=>?_);have xJ:((Y.put L (some .any)).put wP (some (.dict (kY kf gc xs)))) L=some .any:=by
   exact U (B.aa _ _ ce.ne) (B.ai ..)
  refine b4 (g6.rd.cells L _ xJ) fun aG K K=>?_;refine wS aG fun ID qh W6=>eG W6 fun es ep GU Gm=>?_;refine⟨nsFind es,⟨ID,es,ep,qh,GU,Gm,fun K=>rfl⟩,fun h' m' gM av=>On (On ?_)⟩;have nh:=(g6.Rm (L:=L) (by refine U xJ ?_;simp) av).shrink (I:=Y.put wP (some (.dict (kY kf gc xs)))) fun a cl e=>by
   by_cases pg:a=wP
   ·subst pg;rw[B.ai]at e;obtain rfl:=bf e;rw[B.aa _ _ (bQ ce.ne),B.ai]
   ·rw[B.aa _ _ pg]at e;have:a≠L:=by rintro rfl;rw[r.fresh ce.sL]at e;injection e
    refine U (B.aa _ _ this) (U (B.aa _ _ pg) (U (B.aa _ _ this) ?_));exact e
  have run:=aq.run.trans (⟨af,.refl _,fun K K h=>.inl h,fun K h=>.inl h⟩:Run _ s' Z' _ gY Z');refine fE (run.af.rest) fun af2 tt zp=>?_;subst zp;have HC:ki s {s with heap:=h',toks:=tt}:=⟨fun b o e hb=>by
   refine wS (run.af.frames b o e hb) fun o' e' i=>?_;have:b≠L:=fun q=>absurd (cE e) (eB.mpr (q▸ce.sL));exact⟨o',(av.2 b this).trans e',i⟩,by show _≤h'.objs.size;refine U av.1 ?_;exact run.af.size,run.af.tok,⟨_,_,rfl⟩⟩
  refine q (.next NE _) .next _ _ ?_ nh .next uN;exact⟨HC,run.le,run.ext,fun a (ha:(Y.put wP (some (.dict (kY kf gc xs)))) a≠none)=>by
   by_cases pg:a=wP
   ·subst pg;exact .inr ce.new
   ·rw[B.aa _ _ pg]at ha;exact .inl ha⟩
end
end
section
open PySem.W
structure Du (x y:Str):Prop where
 hx:x.length≤1000
 xG:x.length≠0
 h1:(Txt.slice x none (some 1) !=aP)=false
 h2:((Txt.slice x (some 1) (some 2) !=aP)||(Txt.slice x (some 2) (some 3)==aP))=true
 hs:(Txt.split (Txt.slice x (some 1) none) aP).length≤300∧∀y∈Txt.split (Txt.slice x (some 1) none) aP,y.length≤1000
 eq:qN x=y
noncomputable def b9 (ms:List Move):List (Str×Str):=ms.map fun m=>(m.1,m.2.1)
noncomputable def wo (aM:List (Str×Str)):List (Str×D):=kY (fun i:Nat=>(aM.getD i (Str.empty,Str.empty)).1) (fun i:Nat=>D.int (i:Int)) (List.range 6)
noncomputable def iN (aM:List (Str×Str)):List (Str×Str):=aM.filter fun p=>p.1 !=p.2
structure AH (T:Str→Prop) (ms:List Move):Prop where
 len:ms.length=6
 norm:∀m∈ms,Du m.2.2.1 m.1∧Du m.2.2.2 m.2.1
 ok:∀p∈b9 ms,PyData.strOk p.1=true∧PyData.strOk p.2=true
 texts:pV T
 T:∀p∈iN (b9 ms),T p.1∧T p.2
 nd:((iN (b9 ms)).map Prod.snd).Nodup
 moved:vH (k9 (iN (b9 ms))) 7 0 (wo (b9 ms)) (iN (b9 ms))
section
variable {c:ah} {k:Nat}
theorem Yp (t:aT c) (hx:xs.length≤63) (h:AH T (mV xs)):
 wE c (k+6) (vars [("script",.loc)] [.list (xs.map .int)] [("moves",.loc),("told",.aL),("disk",.loc),("left",.loc)] [("_law_moves",.ref 259),("range",.type "range"),("_law_moved",.ref 305)]) (fun J=>none) (gJ (bF 34))
  (ux fun d I=>d= .val (.bool true)):=by
 kst_p
 have hh:=t.hd;refine wE.cons (FM.assign (d:=.list ((mV xs).map qc)) (f8.call (by kd_p) (fM (st:=bF 25) (t.fn rfl rfl rfl rfl)) (.cons (by kd_p) .nil (by kd_p)) (cg.r (cg.less (acW (k:=k+4) t hx) (aH _))) (by kd_p)) (by kd_in) ?_);generalize mV xs=ms at h⊢;have h6:=h.len;have fX:∀F:Move→D,(ms.filter fun J=>true).map F=ms.map F:=fun F=>by exact U (kW.mpr (fun J J=>rfl)) rfl
 have RX:(b9 ms).map pair=ms.map fun m:Move=>D.tup [.str m.1,.str m.2.1]:=by
  unfold b9;refine U cJ ?_;rfl
 have Lj:(b9 ms).map pair=(ms.filter fun J=>true).map fun m:Move=>D.tup [.str m.1,.str m.2.1]:=by rw[RX,fX]
 refine wE.cons (FM.nV hh gG (caps:=[]) (gs:=[("normpath",.ref 235)]) (ts:=[("place",.loc),("goal",.loc),("crooked",.loc),("bent",.loc)]) (out:=(b9 ms).map pair) (by intros;rfl) (by dsimp only[List.map];decide+kernel) (by simp) (bB (t.glob (by kd_p)) cG) (bA.list (l:=ms.map qc) (by kd_p)) trivial ?_ (by kd_in) ?_)
 ·refine U Lj ?_;refine dO.four (xs:=ms) (P:=fun J=>true) (F:=fun m:Move=>D.tup [.str m.1,.str m.2.1]) (fun m=>.str m.1) (fun m=>.str m.2.1) (fun m=>.str m.2.2.1) (fun m=>.str m.2.2.2) (by lia) fun m hm=>?_
  kst_p
  refine Op (h.norm m hm) fun n1 b6=>?_;have s1:=O_ (c:=c) (k:=k+3) t n1.hx n1.xG n1.h1 n1.h2 n1.hs;have s2:=O_ (c:=c) (k:=k+3) t b6.hx b6.xG b6.h1 b6.h2 b6.hs;rw[n1.eq]at s1;rw[b6.eq]at s2;exact⟨eK.nil,fun J=>f8.tuple (.cons (f8.call (by kd_p) (fM (st:=bF 20) (t.fn rfl rfl rfl rfl)) (.cons (by kd_p) .nil (by kd_p)) (cg.r s1) (by kd_p)) (.cons (f8.call (by kd_p) (fM (st:=bF 20) (t.fn rfl rfl rfl rfl)) (.cons (by kd_p) .nil (by kd_p)) (cg.r s2) (by kd_p)) .nil (by kd_p)) (by kd_p)) (by simp)⟩
 have hfl:iy ((b9 ms).map pair)=true:=Ry pair _ fun x J=>Js x;have hsh:PySem.SeqAt.shaped (pd (.list ((b9 ms).map pair)))=true:=by
  unfold PySem.SeqAt.shaped;rw[wZ,kJ,p7];exact⟨by rw[PyData.canLay0];exact Gu _ h.ok,Ev (Kp _) (by decide)⟩
 refine wE.cons (FM.ifs (b:=false) (az.cmp (d₂:=.list ((b9 ms).map pair)) (by kd_p) (f8.l_ hh gG (caps:=[]) (gs:=[]) (ts:=[("place",.loc),("goal",.loc),("crooked",.loc),("bent",.loc)]) (by intros;rfl) (by kd_p) (by simp) cG (bA.list (l:=ms.map qc) (by kd_p)) trivial ?_) (Rs.DW (by rw[CQ];exact hfl) hsh)) (fun h=>(by injection h)) fun J=>wE.nil ?_)
 ·exact U Lj (dO.four (xs:=ms) (P:=fun J=>true) (F:=fun m:Move=>D.tup [.str m.1,.str m.2.1]) (fun m=>.str m.1) (fun m=>.str m.2.1) (fun m=>.str m.2.2.1) (fun m=>.str m.2.2.2) (by lia) fun m hm=>⟨eK.nil,fun J=>f8.tuple (.cons (by kd_p) (.cons (by kd_p) .nil (by kd_p)) (by kd_p)) (by simp)⟩)
 have nY:(b9 ms).length=6:=by unfold b9;rw[b8];exact h6
 refine wE.cons (FM.acE hh tH (caps:=[("told",.list ((b9 ms).map pair))]) (gs:=[]) (ts:=[("i",.loc)]) (xs:=List.range 6) (g:=fun i:Nat=>D.int (i:Int)) (kf:=fun i:Nat=>((b9 ms).getD i (Str.empty,Str.empty)).1) (gc:=fun i:Nat=>D.int (i:Int)) (by intros;rfl) (by dsimp only[List.map];decide+kernel) ?_ cG ?_ trivial (by simp) ?_ fun X mH=>⟨_,by kd_in,?_⟩)
 ·intro z hz;simp only[aY,d_,gO]at hz;rcases hz with rfl;exact⟨.aL,.inl rfl,by walk_at "v"⟩
 ·rw[←Qd];exact bA.range (n:=6) (by kd_p) (by kd_p) (by decide)
 ·intro i hi os xz I;have lz:i<6:=qy.mp hi
  match os,xz with
  |[o],_=>
  refine bh.name (dU.head (.inl rfl)) ⟨⟨[some (.int (i:Int))],rfl,rfl⟩,?_,?_⟩
  ·kst_p
   refine f8.sub (d₁:=pair ((b9 ms).getD i (Str.empty,Str.empty))) (d₂:=.int 0) (f8.sub (by kd_p) (by kd_p) (Rs.item (l:=(b9 ms).map pair) aK.list (kr _) ?_ (by rw[b8];lia))) (by kd_p) (Rs.u6 (by decide) (by rfl) (by simp));rw[qQ,kI,fV (by exact k7 ‹_› (sX ‹_›)),iw,fV (by exact k7 ‹_› (sX ‹_›))];rfl
  ·kst_p
   kd_p
 refine wE.cons (FM.nV hh gG (caps:=[]) (gs:=[]) (ts:=[("start",.loc),("goal",.loc)]) (out:=(iN (b9 ms)).map pair) (by intros;rfl) (by kd_p) (by simp) cG (bA.list (l:=(b9 ms).map pair) (by kd_p)) trivial (dO.two (xs:=b9 ms) (P:=fun p=>p.1 !=p.2) (F:=pair) (fun p=>.str p.1) (fun p=>.str p.2) (by lia) fun p hp=>⟨eK.one (az.cmp (by kd_p) (by kd_p) Rs.pU),fun J=>f8.tuple (.cons (by kd_p) (.cons (by kd_p) .nil (by kd_p)) (by kd_p)) (by simp)⟩) (by kd_in) ?_);have n7:(iN (b9 ms)).length≤100:=by
  have:(iN (b9 ms)).length≤(b9 ms).length:=ir _ _;exact fS ‹_› (bT ‹_›) (by decide)
 exact wE.cons (FM.I4 (aE.call (ds:=[.val (.ref X),.list ((iN (b9 ms)).map pair)]) (by kd_p) (fM (st:=bF 33) (t.fn rfl rfl rfl rfl)) (.cons (by kd_p) (.cons (by kd_p) .nil (by kd_p)) (by kd_p)) (c_.mono (cu.r (Vg (k:=k) h.texts t h.T n7 h.nd (B.ai ..) h.moved)) fun d I hd=>hd) (by kd_p)))
theorem aeY (t:aT c) (hx:xs.length≤63) (h:AH T (mV xs)):cg c 12 (.ref 310) [.list (xs.map .int)] (.val (.bool true)):=by
 refine cu.pc ?_;exact cu.fn (k:=11) (st:=bF 34) (qual:="law") (dV:=.none) (t.fn rfl rfl rfl rfl) (by kd_p)
  (bB (t.glob (by kd_p)) (bB (t.dh (by kd_p) (by kd_p) (by decide)) (bB (t.glob (by kd_p)) cG))) rfl (fun J J=>.plain rfl (iZ fun J=>rfl)) fun bN A V s bs Z ok w Q E q=>Yp (k:=5) (t.at (L:=bN)) hx h A V s bs Z ok w Q E fun fZ f s' Z' r cP dz hp=>q fZ f s' Z' r cP dz (by cases fZ<;>first|exact hp|exact hp.elim)
end
theorem holds_law (h:∀xs:List Int,xs.length≤63→∃T,AH T (mV xs)):PySem.Challenge.rw_pd0029_01.Holds:=
 holds_of fun c xs t hx=>aO (h xs hx) fun T hT=>aeY t hx hT
end
theorem G4 (x) (l u):Txt.slice x l u=StrLaws.sliceText x l u:=rfl
theorem Pp {x:Str} {i:Nat} {c:Nat} (h:(aM x)[i]?=some c):aM (Txt.slice x (some (i)) (some ((i+1:Nat):Int)))=[c]:=by
 have hi:i<(aM x).length:=by rw[lq]at h;exact h.1
 rw[G4,StrLaws.sliceText_nat x (b7 i) (by rw[←nq];assumption)];show((((aM x).drop i).take (i+1-i)).toArray).toList=[c];rw[fV hi]at h;have h':=bf h;rw[show i+1-i=1 from Nat.add_sub_cancel_left ..,sy hi,h'];rfl
theorem ac6 (h:aM x=c::r):aM (Txt.slice x none (some 1))=[c]:=by
 rw[G4,StrLaws.sliceText_to ⟨by decide,by show _≤(((aM x).length:Nat):Int);rw[h,bU];exact tD.2 (gr (e_ _))⟩];show((((aM x).drop 0).take (1-0:Int).toNat).toArray).toList=[c];rw[h];rfl
theorem X6 (h:aM x=c::r):aM (Txt.slice x (some 1) none)=r:=by
 rw[G4,StrLaws.sliceText_from ⟨by decide,by show _≤(((aM x).length:Nat):Int);rw[h,bU];exact tD.2 (gr (e_ _))⟩];show((((aM x).drop (1:Int).toNat).take ((((aM x).length:Nat):Int)-1).toNat).toArray).toList=r;refine U h ?_;show(r.take _)=r;refine vJ ?_;rw[bU];exact R6
theorem acg (ys) (h:∀y∈ys,y.length≤2):(cR ys).length≤3*ys.length:=by
 rw[←nq,m_]
 induction ys with
 |nil=>simp
 |cons y ys ih=>
  have h1:=h y (.head _);have h2:=ih fun z hz=>h z (.tail _ hz);have h3:=nq y;rw[j_,dR,bU,bU];exact J5 (gr (Ev (bT h3) h1)) h2
theorem XW (hf:∀z∈f0::fr,47∉aM z) (hl:∀z∈f0::fr,z.length≤2) (M2:(f0::fr).length≤300) (oS:i9 [] (f0::fr)=bl p) (hp:0<p.length)
 (h2:(∃c r,aM (cR (f0::fr))=47::c::r∧c≠47)∨∃r,aM (cR (f0::fr))=47::47::47::r):Du (cR (f0::fr)) (cD p):=by
 have FS:aM (cR (f0::fr))=47::(aM f0++fr.flatMap fun y=>47::aM y):=by rw[m_];rfl
 have ja:Txt.slice (cR (f0::fr)) (some 1) none=Str.join aP (f0::fr):=by
  apply pG;rw[X6 FS,uG,o4];rfl
 have I6:Txt.split (Txt.slice (cR (f0::fr)) (some 1) none) aP=f0::fr:=by rw[ja,Ol hf]
 refine⟨fS (acg (f0::fr) hl) (s9 3 M2) (by decide),?_,?_,?_,?_,?_⟩
 ·rw[←nq,FS];simp
 ·have:Txt.slice (cR (f0::fr)) none (some 1)=aP:=pG (by rw[ac6 FS,o4]);refine U this ?_;simp
 ·rcases h2 with⟨c,r,e,hc⟩|⟨r,e⟩
  ·have h1:Txt.slice (cR (f0::fr)) (some 1) (some 2)≠aP:=fun e'=>by
    have h3:=Pp (x:=cR (f0::fr)) (i:=1) (c:=c) (by rw[e];rfl);have h4:aM (Txt.slice (cR (f0::fr)) (some 1) (some 2))=[c]:=h3;rw[e',o4]at h4;cases h4;exact hc rfl
   rw[oB];exact .inl (yv.mpr h1)
  ·have h3:=Pp (x:=cR (f0::fr)) (i:=2) (c:=47) (by rw[e];rfl);have h4:aM (Txt.slice (cR (f0::fr)) (some 2) (some 3))=[47]:=h3;have h5:Txt.slice (cR (f0::fr)) (some 2) (some 3)=aP:=pG (by rw[h4,o4]);refine U h5 ?_;simp
 ·rw[I6];exact⟨M2,fun y No=>Ev (hl y No) (by decide)⟩
 ·unfold qN;rw[I6,oS,RC];unfold qF;rw[Tk (by rintro rfl;simp at hp)]
noncomputable abbrev iz (x:String):Str:=Str.ofString x
noncomputable def k_:List (List Str):=[[iz "."],[iz "",iz "",iz ""],[iz "q",iz ".."],[iz ".."]]
noncomputable def f9:List (List Str):=[[],[iz ""],[iz "."],[iz "z",iz ".."]]
theorem Kc:∀i:Fin 4,zP.getD i.val Str.empty=cR (k_.getD i.val [])∧(k_.getD i.val []).length≤3∧(∀z∈k_.getD i.val [],47∉aM z∧z.length≤2)∧i9 [] (k_.getD i.val [])=[]:=by decide+kernel
theorem A1:∀i:Fin 4,rX.getD i.val Str.empty=cR (f9.getD i.val []++[iz ""])∧Bv.getD i.val Str.empty=cR (f9.getD i.val [])∧(f9.getD i.val []).length≤2∧(∀z∈f9.getD i.val [],47∉aM z∧z.length≤2):=by decide+kernel
theorem RZ:aM (iz "")=[]:=by decide+kernel
theorem V3 (s):aM (cR (sp++[iz ""]))++aM s=aM (cR (sp++[s])):=by
 rw[m_,m_,DB,DB,jU];congr 1;simp only[j_,uV,fQ,RZ];rfl
theorem S4 (p) (sp):Txt.replace (cD p) (Str.ofString "/") (cR (sp++[iz ""]))=cR ((bl p).flatMap fun s=>sp++[s]):=by
 have e:Str.ofString "/" =⟨#[47]⟩:=FG;rw[e,StrLaws.replace_one,←FG];have h:=t_ p;unfold c9 at h;rw[h];apply pG;rw[uG,I3,oM,m_ ((bl p).flatMap fun s=>sp++[s]),List.flatMap_assoc];congr 1;funext s;rw[V3,m_]
theorem De (wP xs ys):i9 wP (xs++ys)=i9 (i9 wP xs) ys:=by unfold i9;exact U List.foldl_append rfl
theorem Mq (h:xX x=true):gF wP x=wP:=by unfold gF;exact U (ak h) rfl
theorem FH (h:xX x=false) (h2:(x !=nI)=true):gF wP x=wP++[x]:=by unfold gF;rw[Tk (by rw[h];simp),ak h2]
theorem Nr (wP):∀i,i<4→i9 wP (f9.getD i [])=wP
 |0,_=>rfl
 |1,_=>by
  show gF wP (iz "")=wP;exact Mq (by decide+kernel)
 |2,_=>by
  show gF wP (iz ".")=wP;exact Mq (by decide+kernel)
 |3,_=>by
  show gF (gF wP (iz "z")) (iz "..")=wP;have h1:gF wP (iz "z")=wP++[iz "z"]:=FH (by decide+kernel) (by decide+kernel);rw[h1];unfold gF;rw[Tk (by decide+kernel),Tk (by decide+kernel),AB]
 |n+4,h=>by rfl
theorem ab9 (wP) (b):gF wP (f5 b)=wP++[f5 b]:=by
 cases b
 ·exact FH (by decide+kernel) (by decide+kernel)
 ·exact FH (by decide+kernel) (by decide+kernel)
theorem M6 (eX:j<4):∀p wP,i9 wP ((bl p).flatMap fun s=>f9.getD j []++[s])=wP++bl p
 |[],wP=>by simp[i9]
 |b::p,wP=>by
  show i9 wP ((f9.getD j []++[f5 b])++(bl p).flatMap fun s=>f9.getD j []++[s])=_;rw[De,De,Nr wP j eX];show i9 (gF wP (f5 b)) _=_;rw[ab9,M6 eX p];simp
theorem acd (p) (q):∃i j k:Nat,i<4∧j<4∧k<4∧j8 (cD p) q=cR (k_.getD i []++((bl p).flatMap (fun s=>f9.getD j []++[s]))++f9.getD k []):=by
 refine aS (four (q:=q)) fun i J hi F5=>?_;refine aS (four (q:=q.fdiv 4)) fun j J eX BG=>?_;refine aS (four (q:=q.fdiv 16)) fun k J hk TS=>?_;refine Fe i j k hi eX hk ?_;unfold j8;rw[F5,BG,TS,(Kc ⟨i,hi⟩).1,(A1 ⟨j,eX⟩).1,(A1 ⟨k,hk⟩).2.1,S4,Br,Br]
theorem K1 (h1:0<p.length) (h2:p.length≤5) (q):Du (j8 (cD p) q) (cD p):=by
 refine uh (acd p q) fun i j k hi eX hk e=>?_;refine U e ?_;have hF:=Kc ⟨i,hi⟩;have hS:=A1 ⟨j,eX⟩;have hT:=A1 ⟨k,hk⟩;dsimp only at hF hS hT;have hfl:∀z∈(bl p).flatMap (fun s=>f9.getD j []++[s]),47∉aM z∧z.length≤2:=fun z hz=>by
  refine wS (zT.mp hz) fun s hs hz=>?_;rcases b5.mp hz with hz|hz
  ·exact hS.2.2.2 z hz
  ·rw[fq.mp hz];refine⟨Qc p s hs,?_⟩;refine wS (ao.mp hs) fun b J s4=>?_;subst s4;rw[←nq,z9];simp
 have hall:∀z∈k_.getD i []++((bl p).flatMap (fun s=>f9.getD j []++[s]))++f9.getD k [],47∉aM z∧z.length≤2:=fun z hz=>by
  rcases b5.mp hz with hz|hz
  ·rcases b5.mp hz with hz|hz
   ·exact hF.2.2.1 z hz
   ·exact hfl z hz
  ·exact hT.2.2.2 z hz
 have cK:(k_.getD i []++((bl p).flatMap (fun s=>f9.getD j []++[s]))++f9.getD k []).length≤300:=by
  have:∀(l:List Str),(l.flatMap fun s=>f9.getD j []++[s]).length≤3*l.length:=by
   intro l
   induction l with
   |nil=>simp
   |cons s l ih=>
    refine U j_ (U dR (U dR (U bU ?_)));have:=hS.2.2.1;simp only[bU,gU];exact J5 (gr this) ih
  have h3:=this (bl p);rw[b8]at h3;rw[dR,dR];exact Ev (lK (lK hF.2.1 (Ev h3 (s9 3 h2))) hT.2.2.1) (by decide)
 have oS:i9 [] (k_.getD i []++((bl p).flatMap (fun s=>f9.getD j []++[s]))++f9.getD k [])=bl p:=by
  rw[De,De,hF.2.2.2,M6 eX,oM,Nr _ k hk]
 have MR:(∃c r,aM (cR (k_.getD i []++((bl p).flatMap (fun s=>f9.getD j []++[s]))++f9.getD k []))=47::c::r∧c≠47)∨∃r,aM (cR (k_.getD i []++((bl p).flatMap (fun s=>f9.getD j []++[s]))++f9.getD k []))=47::47::47::r:=by
  rw[←Br,←Br,pO,pO,jU];generalize aM (cR ((bl p).flatMap (fun s=>f9.getD j []++[s])))++aM (cR (f9.getD k []))=w;have hd:(aM (cR (k_.getD 0 []))=[47,46])∧(aM (cR (k_.getD 1 []))=[47,47,47])∧(aM (cR (k_.getD 2 []))=[47,113,47,46,46])∧(aM (cR (k_.getD 3 []))=[47,46,46]):=by decide+kernel
  match i,hi with
  |0,_=>exact .inl ⟨46,w,by rw[hd.1];rfl,by decide⟩
  |1,_=>exact .inr ⟨w,by rw[hd.2.1];rfl⟩
  |2,_=>exact .inl ⟨113,47::46::46::w,by rw[hd.2.2.1];rfl,by decide⟩
  |3,_=>exact .inl ⟨46,46::w,by rw[hd.2.2.2];rfl,by decide⟩
 generalize lC:k_.getD i []++((bl p).flatMap (fun s=>f9.getD j []++[s]))++f9.getD k []=parts at hall cK oS MR;rcases parts with _|⟨f0,fr⟩
 ·exfalso;have:bl p=[]:=oS.symm;have h3:=cN List.length this;rw[b8]at h3;exact g_ h1 h3
 ·exact XW (fun z hz=>(hall z hz).1) (fun z hz=>(hall z hz).2) cK oS h1 MR
section
theorem aai {l:List Str} {P:Str→Bool}:(!(l.filter P).isEmpty)=l.any P:=by rw[Oj,Bool.not_not]
noncomputable def mu (G:List (Str×Str)) (al:List Str):List Str:=al.filter fun one=>(aQ G one).any fun two=>al.contains two
theorem Bf (G) (n) (al):jx G (n+1) al=jx G n (mu G al):=by
 rw[afI];congr 1;unfold mu;apply wD;intro x _;exact aai
theorem YK (h:mu G al=al):∀n,jx G n al=al:=fun k8=>by
 induction k8 with
 |zero=>exact rfl
 |succ n lZ=>exact by rw[Bf,h,(lZ)]
theorem K6 (G):∀n al,al.length≤n→mu G (jx G n al)=jx G n al
 |0,al,h=>by
  have:al=[]:=G5.mp (Nat.le_zero.mp h);subst this;rfl
 |n+1,al,h=>by
  by_cases q:mu G al=al
  ·rw[YK q,q]
  ·rw[Bf];refine K6 G n _ ?_;have h1:(mu G al).length≤al.length:=ir _ _;have h2:(mu G al).length≠al.length:=fun e=>q (lW.eq_of_length e);exact yL (fP (Ec h1 h2) h)
theorem Gz (G):∀n al,∃p:Str→Bool,jx G n al=al.filter p
 |0,al=>⟨fun J=>true,by refine U (kW.mpr (fun J J=>rfl)) ?_;rfl⟩
 |n+1,al=>by
  rw[Bf];refine aO (Gz G n (mu G al)) fun p hp=>?_;exact⟨_,by refine U hp ?_;unfold mu;exact U List.filter_filter rfl⟩
theorem RL:∀x∈jx G n al,x∈al:=fun x hx=>by
 refine aO (Gz G n al) fun p hp=>?_;rw[hp]at hx;exact(cB.mp hx).1
theorem Lq (G):∀n al,∃h:Str→Nat,∀x∈al,x∉jx G n al→∀y∈aQ G x,y∈al→y∉jx G n al∧h y<h x
 |0,al=>⟨fun J=>0,fun x hx M2=>absurd hx M2⟩
 |n+1,al=>by
  rw[Bf];refine aO (Lq G n (mu G al)) fun h' ih=>?_;refine⟨fun z=>if z∈mu G al then h' z+1 else 0,fun x hx M2 y No aax=>?_⟩;by_cases ic:x∈mu G al
  ·by_cases xE:y∈mu G al
   ·refine Op (ih x ic M2 y No xE) fun h1 h2=>?_;refine⟨h1,?_⟩;simp only[ak ic,ak xE];exact gr ‹_›
   ·refine⟨fun hm=>xE (RL y hm),?_⟩;simp only[ak ic,Tk xE];exact DU _ _
  ·exfalso;apply ic;refine cB.mpr ⟨hx,?_⟩;rw[zX];exact⟨y,No,by simpa using aax⟩
noncomputable abbrev qq:=List Str⊕List Str
inductive jG (ns:List bP):Str→List Str→gu→qq→Prop
 |ring {x:Str} {seen:List Str} {st:gu}:x∈seen→x∈st.map Prod.fst→jG ns x seen st (.inl (nK (st.map Prod.fst).reverse x))
 |Lx {x:Str} {seen:List Str} {st:gu}:x∈seen→x∉st.map Prod.fst→jR st=none→jG ns x seen st (.inr seen)
 |skip {x z:Str} {seen:List Str} {st st':gu} {r:qq}:x∈seen→x∉st.map Prod.fst→jR st=some (z,st')→jG ns z seen st' r→jG ns x seen st r
 |RP {x:Str} {seen:List Str} {st:gu}:x∉seen→jR ((x,iT ns x)::st)=none→jG ns x seen st (.inr (seen++[x]))
 |push {x z:Str} {seen:List Str} {st st':gu} {r:qq}:x∉seen→jR ((x,iT ns x)::st)=some (z,st')→jG ns z (seen++[x]) st' r→jG ns x seen st r
theorem jG.run {ns:List bP} {x:Str} {seen:List Str} {st:gu} {r:qq} (h:jG ns x seen st r):∃f0,∀f,f0≤f→mR ns f x seen st=some r:=by
 induction h with
 |ring h1 h2=>exact⟨1,fun f hf=>by refine aO (xZ hf) fun f s4=>?_;subst s4;rw[vG,ak h1,ak h2]⟩
 |Lx h1 h2 h3=>exact⟨1,fun f hf=>by refine aO (xZ hf) fun f s4=>?_;subst s4;rw[vG,ak h1,Tk h2,h3]⟩
 |skip h1 h2 h3 _ ih=>
  refine aO ih fun f0 ih=>?_;exact⟨f0+1,fun f hf=>by
   refine aO (xZ hf) fun f s4=>?_;subst s4;rw[show f+(f0+1)=(f+f0)+1 by rfl,vG,ak h1,Tk h2,h3];exact ih _ (by exact A_ ‹_›)⟩
 |RP h1 h2=>exact⟨1,fun f hf=>by refine aO (xZ hf) fun f s4=>?_;subst s4;rw[vG,Tk h1,h2]⟩
 |push h1 h3 _ ih=>
  refine aO ih fun f0 ih=>?_;exact⟨f0+1,fun f hf=>by
   refine aO (xZ hf) fun f s4=>?_;subst s4;rw[show f+(f0+1)=(f+f0)+1 by rfl,vG,Tk h1,h3];exact ih _ (by exact A_ ‹_›)⟩
noncomputable def ko (ns:List bP) (st:gu) (seen:List Str) (r:qq):Prop:=match jR st with
 |none=>r= .inr seen
 |some (z,st')=>jG ns z seen st' r
theorem jG.Wx {ns:List bP} {x:Str} {seen:List Str} {st:gu} {r:qq} (h1:x∈seen) (h2:x∉st.map Prod.fst) (h:ko ns st seen r):jG ns x seen st r:=by
 unfold ko at h
 induction hp:jR st with
 |none=>rw[hp]at h;subst h;exact .Lx h1 h2 hp
 |some p=>rw[hp]at h;exact .skip h1 h2 hp h
theorem jG.Pf {ns:List bP} {x:Str} {seen:List Str} {st:gu} {r:qq} (h1:x∉seen) (h:ko ns ((x,iT ns x)::st) (seen++[x]) r):jG ns x seen st r:=by
 unfold ko at h;rcases hp:jR ((x,iT ns x)::st)with _|p
 ·rw[hp]at h;subst h;exact .RP h1 hp
 ·rw[hp]at h;exact .push h1 hp h
theorem ko.nil {ns:List bP} {x:Str} {st:gu} {seen:List Str} {r:qq} (h:ko ns st seen r):ko ns ((x,[])::st) seen r:=by
 unfold ko at h⊢;rw[V9];exact h
theorem ko.cons {ns:List bP} {x y:Str} {ys:List Str} {st:gu} {seen:List Str} {r:qq} (h:jG ns y seen ((x,ys)::st) r):ko ns ((x,y::ys)::st) seen r:=by
 unfold ko;rw[ad1];exact h
noncomputable def o7 (al seen seen':List Str):Prop:=(∀y∈seen,y∈seen')∧∀y∈seen',y∈seen∨y∉al
theorem o7.refl (al seen):o7 al seen seen:=⟨fun J h=>h,fun J h=>.inl h⟩
theorem o7.trans (x:o7 al a b) (y:o7 al b c):o7 al a c:=⟨fun z h=>y.1 z (x.1 z h),fun z h=>(y.2 z h).elim (x.2 z) .inr⟩
section
variable {ns:List bP} {names al:List Str} {h:Str→Nat}
theorem Qg (lY:∀x∈names,x∉al→∀y∈iT ns x,y∈names∧y∉al∧h y<h x):∀n x,h x<n→x∈names→x∉al→∀seen st,(∀z∈st.map Prod.fst,z∈al∨h x<h z)→
 ∃seen',o7 al seen seen'∧∀r,ko ns st seen' r→jG ns x seen st r:=by
 intro n
 induction n with
 |zero=>intro x hx;exact absurd hx (Nat.not_lt_zero _)
 |succ n ih=>
  intro x hx M2 ha seen st hst;have SG:x∉st.map Prod.fst:=fun hm=>by
   rcases hst x hm with q|q
   ·exact ha q
   ·exact absurd q (yy _)
  by_cases hs:x∈seen
  ·exact⟨seen,.refl ..,fun r k=>.Wx hs SG k⟩
  ·have main:∀(aD:List Str),(∀y∈aD,y∈iT ns x)→∀vp,∃seen',o7 al vp seen'∧∀r,ko ns st seen' r→ko ns ((x,aD)::st) vp r:=by
    intro aD
    induction aD with
    |nil=>intro _ vp;exact⟨vp,.refl ..,fun r k=>.nil k⟩
    |cons y ys Ux=>
     intro hsub vp;refine b4 (lY x M2 ha y (hsub y (.head _))) fun ua uO Mg=>?_;obtain⟨s2,e2,k2⟩:=ih y (fP Mg (yL ‹_›)) ua uO vp ((x,ys)::st) (fun z hz=>by
      refine bC hz ?_ fun hz=>?_
      ·exact .inr Mg
      ·rcases hst z hz with q|q
       ·exact .inl q
       ·exact .inr (by exact Nat.lt_trans ‹_› ‹_›))
     refine wS (Ux (fun z hz=>hsub z (.tail _ hz)) s2) fun s3 e3 k3=>?_;exact⟨s3,e2.trans e3,fun r k=>.cons (k2 r (k3 r k))⟩
   refine wS (main (iT ns x) (fun J No=>No) (seen++[x])) fun s2 e2 k2=>?_;refine⟨s2,o7.trans ⟨fun y No=>iK _ No,fun y No=>?_⟩ e2,fun r k=>.Pf hs (k2 r k)⟩;rcases b5.mp No with No|No
   ·exact .inl No
   ·exact U (fq.mp No) (.inr ha)
theorem Pk (lY:∀x∈names,x∉al→∀y∈iT ns x,y∈names∧y∉al∧h y<h x) {x:Str} {st:gu} (hx:x∈al) (hst:∀z∈st.map Prod.fst,z∈al):
 ∀pre post seen,(∀y∈pre,y∈names∧y∉al)→∃seen',o7 al seen seen'∧∀r,ko ns ((x,post)::st) seen' r→ko ns ((x,pre++post)::st) seen r
 |[],post,seen,_=>⟨seen,.refl ..,fun r k=>k⟩
 |y::pre,post,seen,hp=>by
  refine Op (hp y (.head _)) fun ua uO=>?_;obtain⟨s2,e2,k2⟩:=Qg lY (h y+1) y (jy _) ua uO seen ((x,pre++post)::st) (fun z hz=>by
   refine bC hz ?_ fun hz=>?_
   ·exact .inl hx
   ·exact .inl (hst z hz))
  refine wS (Pk lY hx hst pre post s2 fun z hz=>hp z (.tail _ hz)) fun s3 e3 k3=>?_;exact⟨s3,e2.trans e3,fun r k=>.cons (k2 r (k3 r k))⟩
end
theorem OR (h:l.filter p=y::ys):∃pre post,l=pre++y::post∧(∀z∈pre,p z=false)∧p y=true:=by
 induction l with
 |nil=>injection h
 |cons a l ih=>
  rw[iV]at h;by_cases q:p a=true
  ·rw[ak q]at h;refine Op (jd h) fun s4 eg=>?_;subst s4 eg;exact r9 ([]) l rfl (fun J h=>(nomatch h)) q
  ·rw[Tk q]at h;refine fB (ih h) fun pre post h1 h2 h3=>?_;refine r9 (a::pre) post (by refine U h1 ?_;rfl) (fun z hz=>?_) h3;refine bC hz ?_ fun hz=>?_
   ·simpa using q
   ·exact h2 z hz
theorem QY (hx:x∈w):(w++[x]).drop ((w++[x]).idxOf x)=nK w x:=by
 unfold nK;have h1:(w++[x]).idxOf x=w.idxOf x:=by exact U List.idxOf_append (U (ak hx) rfl)
 have h2:w.idxOf x≤w.length:=Hy;exact U h1 (U (List.drop_append_of_le_length h2) rfl)
theorem Ox {ns:List bP} {G:List (Str×Str)} {names al:List Str} {h:Str→Nat} (lY:∀x∈names,x∉al→∀y∈iT ns x,y∈names∧y∉al∧h y<h x) (hS:∀x∈names,iT ns x=aQ G x) (hsub:∀x∈names,∀y∈aQ G x,y∈names) (gX:∀x∈al,x∈names):
 ∀f w x ring seen st,sJ G al f (w++[x])=some ring→x∈al→(∀z∈w,z∈al)→st.map Prod.fst=w.reverse→(∀z∈seen,z∈w∨z∉al)→(∀z∈w,z∈seen)→jG ns x seen st (.inl ring)
 |0,_,_,_,_,_,h,_,_,_,_,_=>by injection h
 |f+1,w,x,ring,seen,st,hw,hx,ML,hst,K9,uw=>by
  rw[Gf]at hw;rw[Gq,AB]at hw;by_cases hc:x∈w
  ·rw[ak (by simpa using hc)]at hw;obtain rfl:=bf hw;have h2:x∈st.map Prod.fst:=by refine U hst ?_;simpa using hc
   have:=jG.ring (ns:=ns) (seen:=seen) (st:=st) (uw x hc) h2;rw[hst,List.reverse_reverse]at this;exact U (QY hc) this
  ·rw[Tk (by simpa using hc)]at hw;have v8:x∉seen:=fun hm=>(K9 x hm).elim hc fun q=>q hx;rcases hfl:(aQ G x).filter fun two=>al.contains two with _|⟨y,ys⟩
   ·rw[hfl]at hw;injection hw
   rw[hfl]at hw;refine fB (OR hfl) fun pre post e1 e2 e3=>?_;have hxn:=gX x hx;refine .Pf v8 ?_;refine U (hS x hxn) (U e1 ?_);obtain⟨seen',e,k⟩:=Pk lY hx (st:=st) (fun z hz=>by rw[hst]at hz;exact ML z (uq.mp hz)) pre (y::post) (seen++[x]) fun z hz=>⟨hsub x hxn z (by refine U e1 ?_;exact iK _ hz),by simpa using e2 z hz⟩;refine k _ (.cons ?_);refine Ox lY hS hsub gX f (w++[x]) y ring seen' ((x,post)::st) hw (by simpa using e3) (fun z hz=>?_) ?_ (fun z hz=>?_) (fun z hz=>?_)
   ·rcases b5.mp hz with hz|hz
    ·exact ML z hz
    ·exact U (fq.mp hz) hx
   ·refine U aJ (U hst (U List.reverse_append ?_));rfl
   ·rcases e.2 z hz with q|q
    ·rcases b5.mp q with q|q
     ·rcases K9 z q with q|q
      ·exact .inl (iK _ q)
      ·exact .inr q
     ·exact .inl (mz _ q)
    ·exact .inr q
   ·apply e.1;rcases b5.mp hz with hz|hz
    ·exact iK _ (uw z hz)
    ·exact mz _ hz
end
noncomputable def jI (dY:Str→List Str):List Str→Prop
 |a::b::r=>b∈dY a∧jI dY (b::r)
 |_=>True
theorem jI.tail:∀{a:Str} {r:List Str},jI dY (a::r)→jI dY r
 |_,[],_=>trivial
 |_,_::_,h=>h.2
theorem jI.drop:∀{l:List Str} (k),jI dY l→jI dY (l.drop k)
 |l,0,h=>h
 |[],k+1,h=>trivial
 |a::l,k+1,h=>jI.drop k h.tail
theorem jI.snoc:∀{w:List Str},jI dY (w++[x])→y∈dY x→jI dY (w++[x]++[y])
 |[],_,No=>⟨No,trivial⟩
 |[a],h,No=>⟨h.1,No,trivial⟩
 |a::b::w,h,No=>⟨h.1,jI.snoc (w:=b::w) h.2 No⟩
theorem jI.pred:∀{a:Str} {r:List Str},jI dY (a::r)→∀s∈r,∃t∈a::r,s∈dY t
 |_,[],_,s,hs=>nomatch hs
 |a,b::r,h,s,hs=>by
  refine bC hs ?_ fun hs=>?_
  ·exact⟨a,.head _,h.1⟩
  ·refine wS (jI.pred h.2 s hs) fun t FS e=>?_;exact⟨t,.tail _ FS,e⟩
theorem QT {G:List (Str×Str)} {names al:List Str} (gX:∀x∈al,x∈names) (yi:∀x∈al,∃y∈aQ G x,y∈al):
 ∀f w x,(∀z∈w,z∈al)→x∈al→w.Nodup→names.length<w.length+f→jI (aQ G) (w++[x])→
  ∃ring,sJ G al f (w++[x])=some ring∧∃bY rest,ring=bY::rest∧bY∈rest∧(∀s∈ring,s∈al)∧jI (aQ G) ring
 |0,w,x,hw,hx,nd,hl,_=>by
  have:=tK nd fun z hz=>gX z (hw z hz);exact absurd hl (Nat.not_lt_of_le this)
 |f+1,w,x,hw,hx,nd,hl,hc=>by
  rw[Gf];refine U Gq (U AB ?_);by_cases hm:x∈w
  ·refine U (ak (by simpa using hm)) ?_;refine⟨_,rfl,?_⟩;have hd:w.drop (w.idxOf x)=x::w.drop (w.idxOf x+1):=by
    rw[sy (JK hm),Jo]
   have hr:=QY hm;have Fz:jI (aQ G) (nK w x):=hr▸hc.drop _;refine U hr ?_;unfold nK at Fz⊢;rw[hd]at Fz⊢;refine jz x (w.drop (w.idxOf x+1)++[x]) rfl (by simp) (fun s hs=>?_) Fz;have hs:s=x∨s∈w.drop (w.idxOf x+1)∨s=x:=by simpa using hs
   rcases hs with rfl|hs|rfl
   ·exact hx
   ·exact hw s (CD hs)
   ·exact hx
  ·refine U (Tk (by simpa using hm)) ?_;refine wS (yi x hx) fun y0 ua uO=>?_;rcases hfl:(aQ G x).filter fun two=>al.contains two with _|⟨y,ys⟩
   ·have:y0∈(aQ G x).filter fun two=>al.contains two:=cB.mpr ⟨ua,by simpa using uO⟩;rw[hfl]at this;cases this
   ·have No:y∈(aQ G x).filter fun two=>al.contains two:=by refine U hfl ?_;exact .head _
    refine Op (cB.mp No) fun ua uO=>?_;refine QT gX yi f (w++[x]) y (fun z hz=>?_) (by simpa using uO) ?_ ?_ (hc.snoc ua)
    ·rcases b5.mp hz with hz|hz
     ·exact hw z hz
     ·exact U (fq.mp hz) hx
    ·rw[jY];exact⟨nd,by simp,fun a ha b hb=>by refine U (fq.mp hb) ?_;rintro rfl;exact hm ha⟩
    ·refine U dR ?_;simp only[bU,gU];exact k7 hl (wV w.length f).symm
theorem Ca {ns:List bP} {names al:List Str} {h:Str→Nat} (lY:∀x∈names,x∉al→∀y∈iT ns x,y∈names∧y∉al∧h y<h x):
 ∀(roots aM) (seen) (b:Option (List Str)),(∀x∈roots,x∈names∧x∉al)→(∀z∈seen,z∉al)→(∀seen',(∀z∈seen',z∉al)→∃f0,∀f,f0≤f→scan ns f aM seen'=some b)→∃f0,∀f,f0≤f→scan ns f (roots++aM) seen=some b
 |[],aM,seen,b,_,hs,k=>k seen hs
 |x::roots,aM,seen,b,hr,hs,k=>by
  refine Op (hr x (.head _)) fun h1 h2=>?_;by_cases hx:x∈seen
  ·refine aO (Ca lY roots aM seen b (fun z hz=>hr z (.tail _ hz)) hs k) fun f0 ih=>?_;refine⟨f0,fun f hf=>?_⟩;rw[m9,zu,ak hx];exact ih f hf
  ·refine wS (Qg lY (h x+1) x (jy _) h1 h2 seen [] fun z hz=>nomatch hz) fun s2 e2 k2=>?_;refine aO ((k2 (.inr s2) rfl).run) fun f1 IY=>?_;refine aO (Ca lY roots aM s2 b (fun z hz=>hr z (.tail _ hz)) (fun z hz=>(e2.2 z hz).elim (hs z) id) k) fun f0 ih=>?_;refine⟨f0+f1,fun f hf=>?_⟩;rw[m9,zu,Tk hx,IY f (by exact Ev (DU ..) ‹_›)];exact ih f (by exact Ev (bV ..) ‹_›)
theorem Uo {G:List (Str×Str)} {ns:List bP} (nd:(G.map Prod.fst).Nodup) (hS:∀x∈G.map Prod.fst,iT ns x=aQ G x):
 ∃b,vL G=some b∧(∃dD,scan ns dD (G.map Prod.fst) []=some b)∧∀ring,b=some ring→∃bY rest,ring=bY::rest∧(∀s∈ring,s∈G.map Prod.fst)∧(∀s∈ring,∃t∈ring,s∈aQ G t)∧aQ G bY≠[]:=by
 have gX:∀x∈jx G G.length (G.map Prod.fst),x∈G.map Prod.fst:=fun x hx=>RL x hx;have yi:=K6 G G.length (G.map Prod.fst) (by simp);refine aO (Lq G G.length (G.map Prod.fst)) fun h lY=>?_;refine aO (Gz G G.length (G.map Prod.fst)) fun p hp=>?_;have hsub:∀x∈G.map Prod.fst,∀y∈aQ G x,y∈G.map Prod.fst:=fun x J y No=>xK No;generalize kG:jx G G.length (G.map Prod.fst)=al at gX yi lY hp;have HT:∀x∈G.map Prod.fst,x∉al→∀y∈iT ns x,y∈G.map Prod.fst∧y∉al∧h y<h x:=fun x hx M2 y No=>by
  rw[hS x hx]at No;exact⟨hsub x hx y No,lY x hx M2 y No (hsub x hx y No)⟩
 have Pd:∀x∈al,∃y∈aQ G x,y∈al:=fun x hx=>by
  rw[←yi]at hx;have:=(cB.mp hx).2;rw[zX]at this;refine wS this fun y No e=>?_;exact⟨y,No,by simpa using e⟩
 unfold vL;refine U kG ?_;rcases al with _|⟨a,al⟩
 ·refine fW none rfl ?_ (fun ring e=>(by injection e));refine aO (Ca HT (G.map Prod.fst) [] [] none (fun x hx=>⟨hx,fun hm=>nomatch hm⟩) (fun z hz=>nomatch hz) fun seen' J=>⟨0,fun f J=>rfl⟩) fun f0 hf=>?_;rw[fQ]at hf;exact⟨f0,hf f0 (aH _)⟩
 ·have ha:a∈a::al:=.head _;obtain⟨ring,hw,bY,rest,rfl,tF,hin,hc⟩:=QT gX Pd (G.length+1) [] a (fun z hz=>nomatch hz) ha .nil (by simp) trivial;rw[oM]at hw;dsimp only;refine fW (some (bY::rest)) (by refine U hw ?_;rfl) ?_ (fun ring e=>?_)
  ·refine fB (OR hp.symm) fun pre post e1 e2 e3=>?_;have hd:=Ox HT hS hsub gX (G.length+1) [] a (bY::rest);have key:∀seen',(∀z∈seen',z∉a::al)→∃f0,∀f,f0≤f→scan ns f (a::post) seen'=some (some (bY::rest)):=fun seen' hs=>by
    refine aO ((hd seen' [] hw ha (fun z hz=>nomatch hz) rfl (fun z hz=>.inr (hs z hz)) (fun z hz=>nomatch hz)).run) fun f1 IY=>?_;refine⟨f1,fun f hf=>?_⟩;rw[zu,Tk (fun hm=>hs a hm ha),IY f hf]
   have Ez:∀x∈pre,x∈G.map Prod.fst∧x∉a::al:=fun x hx=>by
    have ic:x∈G.map Prod.fst:=by refine U e1 ?_;exact iK _ hx
    refine⟨ic,fun hm=>?_⟩;rw[hp]at hm;have h1:=(cB.mp hm).2;rw[e2 x hx]at h1;injection h1
   refine aO (Ca HT pre (a::post) [] (some (bY::rest)) Ez (fun z hz=>nomatch hz) key) fun f0 hf=>?_;rw[←e1]at hf;exact⟨f0,hf f0 (aH _)⟩
  ·obtain rfl:=bf e;refine jz bY rest rfl (fun s hs=>gX s (hin s hs)) (fun s hs=>?_) (fun e=>?_)
   ·refine bC hs ?_ fun hs=>?_
    ·exact hc.pred _ tF
    ·exact hc.pred s hs
   ·refine wS (Pd bY (hin bY (.head _))) fun y No J=>?_;rw[e]at No;cases No
noncomputable def b3 (names:List Str) (np:Str→Int) (sc:Str→List Str):List bP:=names.map fun x=>⟨x,np x,sc x⟩
noncomputable def fc {α:Type} (f:Str→α) (x:Str) (v:α):Str→α:=fun z=>if z=x then v else f z
theorem FO (names) (np:Str→Int) (sc:Str→List Str):(b3 names np sc).map (fun x=>x.name)=names:=by
 unfold b3;exact U cJ (Bu _)
theorem pF (h1:∀x∈names,np x=tL x) (h2:∀x∈names,sc x=sc' x):b3 names np sc=b3 names tL sc':=by
 unfold b3;exact sP fun x hx=>by exact U (h1 x hx) (U (h2 x hx) rfl)
theorem qZ:∀{names:List Str} {x:Str},x∈names→dZ (b3 names np sc) x=some ⟨x,np x,sc x⟩
 |[],x,h=>nomatch h
 |y::names,x,h=>by
  show dZ (⟨y,np y,sc y⟩::b3 names np sc) x=_;rw[m7];by_cases q:y=x
  ·subst q;exact U (ak rfl) rfl
  ·exact U (Tk q) (qZ ((aY.mp h).resolve_left fun e=>q e.symm))
theorem Nc:∀{names:List Str} {x:Str},x∉names→dZ (b3 names np sc) x=none
 |[],x,h=>rfl
 |y::names,x,h=>by
  show dZ (⟨y,np y,sc y⟩::b3 names np sc) x=_;rw[m7];exact U (Tk (by rintro rfl;exact h (.head _))) (Nc fun hm=>h (.tail _ hm))
theorem C6:∀{names:List Str} {x:Str},names.Nodup→ee (b3 names np sc) x ⟨x,v,s⟩=b3 names (fc np x v) (fc sc x s)
 |[],x,_=>rfl
 |y::names,x,nd=>by
  rw[dg]at nd;show ee (⟨y,np y,sc y⟩::b3 names np sc) x _=⟨y,fc np x v y,fc sc x s y⟩::b3 names (fc np x v) (fc sc x s);rw[tG];by_cases q:y=x
  ·subst q;refine U (ak rfl) ?_;unfold fc;refine U (ak rfl) (U (ak rfl) ?_);congr 1;exact pF (fun z hz=>by exact U (Tk (by rintro rfl;exact nd.1 hz)) rfl) (fun z hz=>by exact U (Tk (by rintro rfl;exact nd.1 hz)) rfl)
  ·refine U (Tk q) (U (C6 nd.2) ?_);congr 1;unfold fc;exact U (Tk q) (U (Tk q) rfl)
theorem Lm (h:x∈names):dw ⟨b3 names np sc,r,a,b⟩ x=⟨b3 names np sc,r,a,b⟩:=by
 unfold dw;dsimp only;exact U (qZ h) rfl
theorem Mi (nd:names.Nodup) (h:x∈names):lG ⟨b3 names np sc,r,a,b⟩ x v=⟨b3 names (fc np x (np x+v)) sc,r,a,b⟩:=by
 unfold lG;dsimp only;refine U (qZ h) ?_;dsimp only;refine U (C6 nd) ?_;congr 1;exact pF (fun J J=>rfl) fun z hz=>by unfold fc;split<;>simp_all
theorem Zn (nd:names.Nodup) (h:x∈names):jt ⟨b3 names np sc,r,a,b⟩ x y=⟨b3 names np (fc sc x (sc x++[y])),r,a,b⟩:=by
 unfold jt;dsimp only;refine U (qZ h) ?_;dsimp only;refine U (C6 nd) ?_;congr 1;exact pF (fun z hz=>by unfold fc;split<;>simp_all) fun J J=>rfl
theorem Rx:∀(rest pre:List Str),(pre++rest).Nodup→rest.foldl (fun s x=>fN s x []) ⟨b3 pre (fun J=>0) (fun J=>[]),none,0,0⟩=⟨b3 (pre++rest) (fun J=>0) (fun J=>[]),none,0,0⟩
 |[],pre,_=>by rw[fQ];rfl
 |x::rest,pre,nd=>by
  have hx:x∉pre:=fun hm=>(jY.mp nd).2.2 x hm x (.head _) rfl;have M2:(pre++[x]).Nodup:=by
   have:(pre++[x]).Sublist (pre++x::rest):=List.Sublist.append_left (List.Sublist.cons_cons x (List.nil_sublist rest)) pre;exact this.nodup nd
  have h1:fN ⟨b3 pre (fun J=>0) (fun J=>[]),none,0,0⟩ x []=⟨b3 (pre++[x]) (fun J=>0) (fun J=>[]),none,0,0⟩:=by
   unfold fN;refine U List.foldl_nil ?_;have h2:dw ⟨b3 pre (fun J=>0) (fun J=>[]),none,0,0⟩ x=⟨b3 (pre++[x]) (fun J=>0) (fun J=>[]),none,0,0⟩:=by
    unfold dw;dsimp only;refine U (Nc hx) ?_;dsimp only;unfold b3;refine U gA ?_;rfl
   refine U h2 (U (Mi M2 (by simp)) ?_);congr 1;exact pF (fun z J=>by unfold fc;split<;>rfl) fun J J=>rfl
  refine U kQ (U h1 (U (Rx rest (pre++[x]) (by simpa using nd)) ?_));simp
theorem QN (nd:names.Nodup):∀(ys:List Str) (sc:Str→List Str),ys.Nodup→(∀y∈ys,y∈names)→
 ys.foldl (fun s p=>jt (dw s p) p x) ⟨b3 names np sc,r,a,b⟩=⟨b3 names np (fun z=>if z∈ys then sc z++[x]else sc z),r,a,b⟩
 |[],sc,_,_=>by simp
 |y::ys,sc,hnd,hin=>by
  rw[dg]at hnd;refine U kQ (U (Lm (hin y (.head _))) (U (Zn nd (hin y (.head _))) (U (QN nd ys _ hnd.2 fun z hz=>hin z (.tail _ hz)) ?_)));congr 1;refine pF (fun J J=>rfl) fun z J=>?_;unfold fc;by_cases q:z=y
  ·subst q;simp[hnd.1]
  ·simp[q]
noncomputable def gD (G:List (Str×Str)) (g:Str):List Str:=(G.map Prod.fst).filter fun one=>cA one g
theorem abu (pre) (p) (z):aQ (pre++[p]) z=aQ pre z++(if cA z p.2 then [p.1]else []):=by
 unfold aQ;rw[List.filter_append,gA];congr 1;refine U iV ?_;split<;>rfl
theorem Q6 (nd:(G.map Prod.fst).Nodup):∀(rest pre) (np:Str→Int),G=pre++rest→(∀q∈pre,np q.1=(gD G q.2).length)→(∀q∈rest,np q.1=0)→
 ∃tL:Str→Int,(∀q∈G,tL q.1=(gD G q.2).length)∧rest.foldl (fun s p=>fN s p.1 (gD G p.2)) ⟨b3 (G.map Prod.fst) np (aQ pre),none,0,0⟩=⟨b3 (G.map Prod.fst) tL (aQ G),none,0,0⟩
 |[],pre,np,e,h1,_=>by
  rw[fQ]at e;subst e;exact⟨np,h1,rfl⟩
 |p::rest,pre,np,e,h1,h2=>by
  have hp:p.1∈G.map Prod.fst:=cz (by refine U e ?_;simp);have DH:∀y∈gD G p.2,y∈G.map Prod.fst:=fun y No=>(cB.mp No).1;have hnd:(gD G p.2).Nodup:=oj lW nd;have hd:∀q∈pre++rest,q.1≠p.1:=by
   have h3:((pre++p::rest).map Prod.fst).Nodup:=e▸nd;rw[gA,aJ,jY]at h3;refine b4 h3 fun i1 cM fh=>?_;rw[dg]at cM;intro q Ch;rcases b5.mp Ch with Ch|Ch
   ·exact fh q.1 (cz Ch) p.1 (.head _)
   ·intro z;exact cM.1 (z▸cz Ch)
  have adU:fN ⟨b3 (G.map Prod.fst) np (aQ pre),none,0,0⟩ p.1 (gD G p.2)=⟨b3 (G.map Prod.fst) (fc np p.1 (np p.1+(gD G p.2).length)) (aQ (pre++[p])),none,0,0⟩:=by
   unfold fN;refine U (Lm hp) (U (Mi nd hp) (U (QN nd _ _ hnd DH) ?_));congr 1;refine pF (fun J J=>rfl) fun z hz=>?_;rw[abu];have:(z∈gD G p.2)↔cA z p.2=true:=by
    unfold gD;rw[cB];exact⟨fun h=>h.2,fun h=>⟨hz,h⟩⟩
   by_cases q:cA z p.2=true
   ·exact U (ak (this.mpr q)) (U (ak q) rfl)
   ·rw[Tk (fun h=>q (this.mp h)),Tk q,fQ]
  refine U kQ (U adU ?_);refine Q6 nd rest (pre++[p]) _ (by refine U e ?_;simp) (fun q Ch=>?_) (fun q Ch=>?_)
  ·rcases b5.mp Ch with Ch|Ch
   ·unfold fc;exact U (Tk (hd q (iK _ Ch))) (h1 q Ch)
   ·refine U (fq.mp Ch) ?_;unfold fc;refine U (ak rfl) (U (h2 p (.head _)) ?_);lia
  ·unfold fc;exact U (Tk (hd q (mz _ Ch))) (h2 q (.tail _ Ch))
theorem XQ (nd:(G.map Prod.fst).Nodup) (hw:∀p∈G,∀x∈G.map Prod.fst,((j5 ws p.2).getD []).contains x=cA x p.2):
 ∃np:Str→Int,(∀q∈G,np q.1=(gD G q.2).length)∧mY G ws=⟨b3 (G.map Prod.fst) np (aQ G),none,0,0⟩:=by
 have Dn:∀p∈G,((G.map Prod.fst).filter fun one=>((j5 ws p.2).getD []).contains one)=gD G p.2:=fun p hp=>wD fun x hx=>hw p hp x hx;unfold mY;have h1:G.foldl (fun s p=>fN s p.1 []) sM=⟨b3 (G.map Prod.fst) (fun J=>0) (aQ []),none,0,0⟩:=by
  have:=Rx (G.map Prod.fst) [] (by simpa using nd);rw[List.foldl_map,oM]at this;exact this
 refine U h1 ?_;have h2:∀s:St,G.foldl (fun s p=>fN s p.1 ((G.map Prod.fst).filter fun one=>((j5 ws p.2).getD []).contains one)) s=G.foldl (fun s p=>fN s p.1 (gD G p.2)) s:=by
  have main:∀(l:List (Str×Str)),(∀p∈l,p∈G)→∀s:St,l.foldl (fun s p=>fN s p.1 ((G.map Prod.fst).filter fun one=>((j5 ws p.2).getD []).contains one)) s=l.foldl (fun s p=>fN s p.1 (gD G p.2)) s:=by
   intro l
   induction l with
   |nil=>intro _ s;rfl
   |cons p l ih=>
    intro hs s;refine U kQ (U kQ (U (Dn p (hs p (.head _))) ?_));exact ih (fun q Ch=>hs q (.tail _ Ch)) _
  exact main G fun J h=>h
 rw[h2];exact Q6 nd G [] (fun J=>0) rfl (fun q Ch=>nomatch Ch) fun q J=>rfl
noncomputable def eo (G:List (Str×Str)) (s:Str):Str:=((G.find? fun p=>p.1=s).map Prod.snd).getD Str.empty
theorem oE:∀{G:List (Str×Str)} {p:Str×Str},(G.map Prod.fst).Nodup→p∈G→eo G p.1=p.2
 |q::G,p,nd,h=>by
  rw[aJ,dg]at nd;delta eo;rw[qu];by_cases e:q.1=p.1
  ·refine U (show(decide (q.1=p.1))=true from vB e) ?_;refine bC h ?_ fun h=>?_
   ·rfl
   ·exact absurd (e▸cz (f:=Prod.fst) h) nd.1
  ·exact U (show(decide (q.1=p.1))=false from decide_eq_false e) (oE nd.2 ((aY.mp h).resolve_left fun z=>e (U z rfl)))
noncomputable def cnt (G:List (Str×Str)) (D:List Str) (s:Str):Nat:=((gD G (eo G s)).filter fun x=>!D.contains x).length
theorem s7 {G:List (Str×Str)} {D:List Str} {s:Str}:cnt G D s=0↔∀x∈gD G (eo G s),x∈D:=by
 delta cnt;rw[G5,wW];exact⟨fun h x hx=>by simpa using h x hx,fun h x hx=>by simpa using h x hx⟩
theorem I2 {G:List (Str×Str)} (nd:(G.map Prod.fst).Nodup) {D:List Str} {x s:Str} (hx:x∉D):cnt G D s=cnt G (D++[x]) s+(if x∈gD G (eo G s)then 1 else 0):=by
 have hb:(gD G (eo G s)).Nodup:=oj lW nd;delta cnt;generalize gD G (eo G s)=l at hb⊢
 induction l with
 |nil=>simp
 |cons a l ih=>
  rw[dg]at hb;have ih:=ih hb.2;refine U iV (U iV ?_);by_cases q:a=x
  ·subst q;have h1:a∉l:=hb.1;have e1:(!D.contains a)=true:=by simpa using hx
   have e2:(!(D++[a]).contains a)=false:=by simp
   refine U (ak e1) (U e2 ?_);rw[Tk h1]at ih;simp only[j7,jE,aY,true_or,lH,bU];exact cN Nat.succ ih
  ·have e2:(!(D++[x]).contains a)=(!D.contains a):=by simp[q]
   have e3:(x∈a::l)↔x∈l:=by simp[bQ q]
   refine U e2 ?_;by_cases e1:(!D.contains a)=true
   ·refine U (ak e1) (U (ak e1) (U bU (U bU ?_)));by_cases m:x∈l
    ·rw[ak m]at ih;refine U (ak (e3.mpr m)) ?_;exact cN Nat.succ ih
    ·rw[Tk m]at ih;refine U (Tk (fun h=>m (e3.mp h))) ?_;exact cN Nat.succ ih
   ·refine U (Tk e1) (U (Tk e1) ?_);by_cases m:x∈l
    ·rw[ak m]at ih;refine U (ak (e3.mpr m)) ?_;assumption
    ·rw[Tk m]at ih;refine U (Tk (fun h=>m (e3.mp h))) ?_;assumption
theorem yU (nd:(G.map Prod.fst).Nodup) (hx:x∈G.map Prod.fst):s∈aQ G x↔s∈G.map Prod.fst∧x∈gD G (eo G s):=by
 delta aQ gD;constructor
 ·intro h;refine wS (ao.mp h) fun p hp s4=>?_;subst s4;obtain⟨h1,h2⟩:=cB.mp hp;refine⟨cz h1,cB.mpr ⟨hx,?_⟩⟩;exact U (oE nd h1) h2
 ·intro Go;obtain⟨h1,h2⟩:=Go;refine wS (ao.mp h1) fun p hp s4=>?_;subst s4;have:=(cB.mp h2).2;rw[oE nd hp]at this;exact cz (cB.mpr ⟨hp,this⟩)
theorem Gs (G) (x):(aQ G x).Sublist (G.map Prod.fst):=lW.map _
noncomputable def mh (G:List (Str×Str)):List Str→List Str→List Str
 |_,[]=>[]
 |D,x::xs=>((aQ G x).filter fun s=>cnt G D s==1)++mh G (D++[x]) xs
theorem JV (G D):mh G D []=[]:=rfl
theorem zh (G D x xs):mh G D (x::xs)=((aQ G x).filter fun s=>cnt G D s==1)++mh G (D++[x]) xs:=rfl
theorem NB (nd:(G.map Prod.fst).Nodup):∀R D s,(∀x∈R,x∈G.map Prod.fst)→(∀x∈R,x∉D)→R.Nodup→(s∈mh G D R↔s∈G.map Prod.fst∧cnt G (D++R) s=0∧0<cnt G D s)
 |[],D,s,_,_,_=>by
  simp only[JV,zh,fQ,d_,false_iff];intro Go;obtain⟨_,h1,h2⟩:=Go;exact g_ h2 h1
 |x::R,D,s,bD,fF,hnd=>by
  rw[dg]at hnd;have ih:=NB nd R (D++[x]) s (fun z hz=>bD z (.tail _ hz)) (fun z hz hm=>by
   rcases b5.mp hm with hm|hm
   ·exact fF z (.tail _ hz) hm
   ·rw[fq.mp hm]at hz;exact hnd.1 hz) hnd.2
  have hc:=I2 nd (s:=s) (fF x (.head _));have hx:=bD x (.head _);rw[zh,b5,cB,ih,yU nd hx,jU,List.singleton_append];constructor
  ·rintro(⟨⟨h1,h2⟩,h3⟩|⟨h1,h2,h3⟩)
   ·refine⟨h1,?_,?_⟩
    ·rw[ak h2]at hc;have h3:cnt G D s=1:=by simpa using h3
     have:cnt G (D++[x]) s=0:=Bb (hc.symm.trans h3);rw[s7]at this⊢;intro z hz;have:=this z hz;rcases b5.mp this with h|h
     ·exact iK _ h
     ·refine U (fq.mp h) ?_;simp
    ·have h3:cnt G D s=1:=by simpa using h3
     exact yH ‹_›
   ·exact⟨h1,h2,fP h3 (Ev (bV ..) (bT hc.symm))⟩
  ·intro Go;obtain⟨h1,h2,h3⟩:=Go;by_cases q:0<cnt G (D++[x]) s
   ·exact .inr ⟨h1,h2,q⟩
   ·left;by_cases m:x∈gD G (eo G s)
    ·rw[ak m]at hc;exact⟨⟨h1,m⟩,by simp;exact hc.trans (cN Nat.succ (Nat.eq_zero_of_not_pos q))⟩
    ·rw[Tk m]at hc;exact absurd (k7 h3 hc) q
noncomputable def iI (G:List (Str×Str)) (last:List Str) (s:Str):Int:=jf (-1) ((jM last (eo G s)).map fun k:Nat=>(k:Int))
theorem QD:∀b l,b≤jf b l∧∀x∈l,x≤jf b l
 |b,[]=>⟨AG _,fun J h=>nomatch h⟩
 |b,d::r=>by
  rw[A8];refine Op (QD (if b<d then d else b) r) fun h1 h2=>?_;have h3:b≤(if b<d then d else b)∧d≤(if b<d then d else b):=by
   split
   ·exact h_ ‹_›
   ·exact ZC ‹_›
  refine⟨qk h3.1 h1,fun x hx=>?_⟩;refine bC hx ?_ fun hx=>?_
  ·exact qk h3.2 h1
  ·exact h2 x hx
theorem O6:∀b l,jf b l=b∨jf b l∈l
 |b,[]=>.inl rfl
 |b,d::r=>by
  rw[A8];rcases O6 (if b<d then d else b) r with h|h
  ·refine U h ?_;split
   ·exact .inr (.head _)
   ·exact .inl rfl
  ·exact .inr (.tail _ h)
theorem ae4 {G:List (Str×Str)} (nd:(G.map Prod.fst).Nodup) {D pre xs:List Str} {x s:Str} (bD:∀z∈pre++x::xs,z∈G.map Prod.fst) (fF:∀z∈pre++x::xs,z∉D) (hnd:(pre++x::xs).Nodup) (hs:s∈aQ G x) (hc:cnt G (D++pre) s=1):iI G (pre++x::xs) s=(pre.length:Int):=by
 have hx:x∈G.map Prod.fst:=bD x (by simp);refine Op ((yU nd hx).mp hs) fun OT DH=>?_;have IE:x∉D++pre:=fun hm=>by
  rcases b5.mp hm with hm|hm
  ·exact fF x (by simp) hm
  ·exact(jY.mp hnd).2.2 x hm x (.head _) rfl
 have h0:cnt G (D++pre++[x]) s=0:=by
  have:=I2 nd (s:=s) IE;rw[ak DH]at this;exact Bb (this.symm.trans hc)
 rw[s7]at h0;have jm:(pre++x::xs).getD pre.length Str.empty=x:=by simp[iw]
 have hit:pre.length∈jM (pre++x::xs) (eo G s):=by
  delta jM;refine cB.mpr ⟨qy.mpr (by simp),?_⟩;exact U jm ((cB.mp DH).2)
 delta iI;refine Op (QD (-1) ((jM (pre++x::xs) (eo G s)).map fun k:Nat=>(k:Int))) fun g1 g2=>?_;have g3:=g2 _ (cz (f:=fun k:Nat=>(k:Int)) hit);rcases O6 (-1) ((jM (pre++x::xs) (eo G s)).map fun k:Nat=>(k:Int))with h|h
 ·rw[h]at g3;exact absurd (qk (kr _) g3) (by decide)
 ·refine wS (ao.mp h) fun k hk e=>?_;rw[←e]at g3⊢;have hle:k≤pre.length:=by
   rcases vW pre.length k with q|q
   ·exfalso;refine Op (cB.mp hk) fun hk1 P5=>?_;have hk1:=qy.mp hk1;rw[iw,fV hk1,Bl]at P5;have hm:(pre++x::xs)[k]∈pre++x::xs:=rF hk1;have hb:(pre++x::xs)[k]∈gD G (eo G s):=cB.mpr ⟨bD _ hm,P5⟩;have hin:=h0 _ hb;rw[jU]at hin;rcases b5.mp hin with hin|hin
    ·exact fF _ hm hin
    ·obtain⟨i,hi,e⟩:=List.getElem_of_mem hin;have lz:i<pre.length+1:=by simpa using hi
     have e2:(pre++x::xs)[i]'(by simp;exact fP lz (jl (gr (e_ _)) _))=(pre++x::xs)[k]:=by
      refine ZB e ?_;have h1:(pre++x::xs)[i]?=(pre++[x])[i]?:=by
       rw[show pre++x::xs=pre++[x]++xs by simp,zc hi]
      have h2:(pre++x::xs)[i]?=some ((pre++x::xs)[i]'(by simp;exact fP lz (jl (gr (e_ _)) _))):=fV _;rw[h2,fV hi]at h1;exact bf h1
     have e3:=cN (fun z=>List.idxOf z (pre++x::xs)) e2;simp only[Iu hnd]at e3;exact absurd (fU (yL lz) q) (Nat.not_lt_of_le (bT e3.symm))
   ·exact q
  exact cN Nat.cast (JL hle (tD.1 g3))
theorem QE (nd:l.Nodup):∀{m:List Str},m.Sublist l→m.Pairwise fun a b=>l.idxOf a<l.idxOf b:=by
 have full:l.Pairwise fun a b=>l.idxOf a<l.idxOf b:=by
  rw[KC];intro i j hi eX BF;rw[Iu nd,Iu nd];exact BF
 intro m h;exact List.Pairwise.sublist h full
theorem OH {G:List (Str×Str)} (nd:(G.map Prod.fst).Nodup) {D:List Str} {zf R:List Str} (iH:zf=(G.map Prod.fst).filter fun z=>!(D++R).contains z) (bD:∀z∈R,z∈G.map Prod.fst) (fF:∀z∈R,z∉D) (hnd:R.Nodup) (hw:∀x∈R,∀s∈aQ G x,s∉D++R):
 ∀xs pre,R=pre++xs→(mh G (D++pre) xs).Pairwise (fun a b=>iE (iI G R a,(zf.idxOf a:Nat)) (iI G R b,(zf.idxOf b:Nat))=true)∧∀s∈mh G (D++pre) xs,(pre.length:Int)≤iI G R s
 |[],pre,_=>⟨.nil,fun J h=>nomatch h⟩
 |x::xs,pre,e=>by
  refine Op (OH nd iH bD fF hnd hw xs (pre++[x]) (by refine U e ?_;simp)) fun i1 cM=>?_;have hx:x∈R:=by refine U e ?_;simp
  have hk:∀s∈(aQ G x).filter (fun s=>cnt G (D++pre) s==1),iI G R s=(pre.length:Int):=fun s hs=>by
   refine Op (cB.mp hs) fun h1 h2=>?_;have:=ae4 nd (D:=D) (pre:=pre) (xs:=xs) (x:=x) (s:=s) (e▸bD) (e▸fF) (e▸hnd) h1 (by simpa using h2);exact U e this
  have hsub:((aQ G x).filter (fun s=>cnt G (D++pre) s==1)).Sublist zf:=by
   have h1:((aQ G x).filter (fun s=>cnt G (D++pre) s==1)).Sublist (G.map Prod.fst):=lW.trans (Gs G x);have h2:=h1.filter fun z=>!(D++R).contains z;rw[←iH]at h2;rw[kW.mpr]at h2
   ·exact h2
   ·intro s hs;have:=hw x hx s (cB.mp hs).1;simpa using this
  have Wj:zf.Nodup:=by refine U iH ?_;exact oj lW nd
  rw[←jU]at i1 cM;rw[zh];refine⟨?_,fun s hs=>?_⟩
  ·rw[IJ];refine⟨?_,i1,fun a ha b hb=>?_⟩
   ·refine(QE Wj hsub).imp_of_mem fun{a b} ha hb sH=>?_;delta iE;refine U (hk a ha) (U (hk b hb) ?_);simp;assumption
   ·have h1:=hk a ha;have h2:=cM b hb;rw[dR]at h2;simp only[bU,gU]at h2;delta iE;have:iI G R a<iI G R b:=Gg (Int.le_of_eq h1) (Int.lt_of_lt_of_le (Iw.2 (jy _)) h2);simp[this]
  ·rcases b5.mp hs with hs|hs
   ·exact U (hk s hs) (AG _)
   ·have:=cM s hs;rw[dR]at this;simp only[bU,gU]at this;exact qk (tD.2 (b7 _)) this
section
section
variable {names:List Str} {f:Str→Int} {sc:Str→List Str} {r:List Str} {a b:Int}
theorem Eu (nd:names.Nodup) (h:x∈names):ee (b3 names f sc) x ⟨x,v,sc x⟩=b3 names (fc f x v) sc:=by
 refine U (C6 nd) ?_;exact pF (fun J J=>rfl) fun z J=>by unfold fc;split<;>simp_all
theorem ab2 (nd:names.Nodup) (h:x∈names):nP (b3 names f sc) x v=b3 names (fc f x v) sc:=by
 unfold nP;exact U (qZ h) (Eu nd h)
theorem Oz (nd:names.Nodup):∀(R:List Str) (f:Str→Int),(∀x∈R,x∈names)→R.foldl (fun ns x=>nP ns x (-1)) (b3 names f sc)=b3 names (fun z=>if z∈R then-1 else f z) sc
 |[],f,_=>by simp
 |x::R,f,h=>by
  refine U kQ (U (ab2 nd (h x (.head _))) (U (Oz nd R _ fun z hz=>h z (.tail _ hz)) ?_));refine pF (fun z J=>?_) fun J J=>rfl;unfold fc;by_cases q:z=x
  ·subst q;simp
  ·simp[q]
theorem aaY (nd:names.Nodup) (h:s∈names):nj ⟨b3 names f sc,some r,a,b⟩ s=⟨b3 names (fc f s (f s-1)) sc,some (r++if f s==1 then [s]else []),a,b⟩:=by
 unfold nj;dsimp only;refine U (qZ h) ?_;dsimp only;refine U (Eu nd h) ?_;congr 2;by_cases q:f s=1
 ·exact U (ak (by lia)) (U (ak (by simpa using q)) rfl)
 ·rw[Tk (by lia),Tk (by simpa using q),fQ]
theorem Ny (nd:names.Nodup):∀(ss:List Str) (f:Str→Int) (r:List Str),ss.Nodup→(∀s∈ss,s∈names)→ss.foldl nj ⟨b3 names f sc,some r,a,b⟩=⟨b3 names (fun z=>if z∈ss then f z-1 else f z) sc,some (r++ss.filter fun s=>f s==1),a,b⟩
 |[],f,r,_,_=>by simp
 |s::ss,f,r,hnd,h=>by
  rw[dg]at hnd;refine U kQ (U (aaY nd (h s (.head _))) (U (Ny nd ss _ _ hnd.2 fun z hz=>h z (.tail _ hz)) ?_));congr 1
  ·refine pF (fun z J=>?_) fun J J=>rfl;unfold fc;by_cases q:z=s
   ·subst q;simp[hnd.1]
   ·simp[q]
  ·congr 1;rw[jU];congr 1;refine U iV ?_;have e:(ss.filter fun z=>fc f s (f s-1) z==1)=ss.filter fun z=>f z==1:=wD fun z hz=>by
    unfold fc;exact U (Tk (by rintro rfl;exact hnd.1 hz)) rfl
   refine U e ?_;split<;>rfl
theorem WR (nd:names.Nodup) (h:x∈names) (hs:(sc x).Nodup) (hin:∀s∈sc x,s∈names) (hx:x∉sc x):
 kP ⟨b3 names f sc,some r,a,b⟩ x=⟨b3 names (fun z=>if z∈sc x then f z-1 else if z=x then-2 else f z) sc,some (r++(sc x).filter fun s=>f s==1),a,b+1⟩:=by
 unfold kP;dsimp only;refine U (qZ h) ?_;dsimp only;refine U (Eu nd h) (U (Ny nd _ _ _ hs hin) ?_);dsimp only;have e1:b3 names (fun z=>if z∈sc x then fc f x (-2) z-1 else fc f x (-2) z) sc=b3 names (fun z=>if z∈sc x then f z-1 else if z=x then-2 else f z) sc:=by
  refine pF (fun z J=>?_) fun J J=>rfl;unfold fc;by_cases q:z∈sc x
  ·exact U (ak q) (U (ak q) (U (Tk (by rintro rfl;exact hx q)) rfl))
  ·exact U (Tk q) (U (Tk q) rfl)
 have e2:((sc x).filter fun s=>fc f x (-2) s==1)=(sc x).filter fun s=>f s==1:=wD fun z hz=>by
  unfold fc;exact U (Tk (by rintro rfl;exact hx hz)) rfl
 exact U e1 (U e2 rfl)
end
theorem OV {G:List (Str×Str)} (nd:(G.map Prod.fst).Nodup) {D R:List Str} {a:Int} (hl:G.length≤500) (bD:∀z∈R,z∈G.map Prod.fst) (fF:∀z∈R,z∉D) (hnd:R.Nodup) (hw:∀x∈R,∀s∈aQ G x,s∉D++R):
 ∀(xs pre) (f:Str→Int) (r) (b),R=pre++xs→(∀z∈xs,f z= -1)→(∀z∈G.map Prod.fst,z∉D++R→f z=cnt G (D++pre) z)→
  yE ⟨b3 (G.map Prod.fst) f (aQ G),some r,a,b⟩ xs∧∃C2:Str→Int,xs.foldl kP ⟨b3 (G.map Prod.fst) f (aQ G),some r,a,b⟩=⟨b3 (G.map Prod.fst) C2 (aQ G),some (r++mh G (D++pre) xs),a,b+xs.length⟩∧∀z∈G.map Prod.fst,z∉D++R→C2 z=cnt G (D++R) z
 |[],pre,f,r,b,e,h1,h2=>by
  rw[fQ]at e;subst e;exact⟨trivial,f,by simp[JV,zh],h2⟩
 |x::xs,pre,f,r,b,e,h1,h2=>by
  have hx:x∈R:=by refine U e ?_;simp
  have hxn:=bD x hx;have Un:(aQ G x).Nodup:=oj (Gs G x) nd;have Hw:∀s∈aQ G x,s∈G.map Prod.fst:=fun s hs=>xK hs;have RK:x∉aQ G x:=fun hm=>hw x hx x hm (mz _ hx);have IE:x∉D++pre:=fun hm=>by
   rcases b5.mp hm with hm|hm
   ·exact fF x hx hm
   ·rw[e]at hnd;exact(jY.mp hnd).2.2 x hm x (.head _) rfl
  have BV:x∉xs:=by
   rw[e]at hnd;exact(dg.mp (jY.mp hnd).2.1).1
  have e1:=WR (f:=f) (sc:=aQ G) (r:=r) (a:=a) (b:=b) nd hxn Un Hw RK;have e2:((aQ G x).filter fun s=>f s==1)=(aQ G x).filter fun s=>cnt G (D++pre) s==1:=wD fun s hs=>by
   refine U (h2 s (Hw s hs) (hw x hx s hs)) ?_;rw[o5];simp;exact⟨Int.ofNat.inj,cN Nat.cast⟩
  rw[e2]at e1;obtain⟨i1,C2,cM,fh⟩:=OV nd (a:=a) hl bD fF hnd hw xs (pre++[x]) (fun z=>if z∈aQ G x then f z-1 else if z=x then-2 else f z) (r++(aQ G x).filter fun s=>cnt G (D++pre) s==1) (b+1) (by refine U e ?_;simp)
   (fun z hz=>by
    have aaH:z∈R:=by refine U e ?_;simp[hz]
    refine U (Tk (fun hm=>hw x hx z hm (mz _ aaH))) (U (Tk (by rintro rfl;exact BV hz)) ?_);exact h1 z (.tail _ hz))
   (fun z hz qH=>by
    have hc:=I2 nd (s:=z) IE;have W8:z≠x:=by rintro rfl;exact qH (mz _ hx)
    have hst:=yU nd (s:=z) hxn;refine U (Tk W8) (U (h2 z hz qH) ?_);rw[←jU];by_cases q:z∈aQ G x
    ·refine U (ak q) ?_;rw[ak (hst.mp q).2]at hc;exact dV hc
    ·refine U (Tk q) ?_;rw[Tk (fun hm=>q (hst.mpr ⟨hz,hm⟩))]at hc;exact cN Nat.cast hc)
  refine⟨⟨⟨_,qZ hxn,h1 x (.head _),?_,?_⟩,?_⟩,C2,?_,fh⟩
  ·have:=(Gs G x).length_le;rw[b8]at this;show(aQ G x).length≤500;exact Ev ‹_› ‹_›
  ·intro s hs;rw[FO];exact Hw s hs
  ·exact U e1 i1
  ·rw[kQ,e1,cM,zh,jU,jU];congr 1;rw[bU];push_cast;lia
end
structure vI (G:List (Str×Str)):Prop where
 nd:(G.map Prod.fst).Nodup
 La:∀p∈G,∀q∈G,p≠q→cA p.2 q.2=false
 six:G.length≤6
 ok:∀x∈G,(PyData.strOk x.1=true∧PyData.strOk x.2=true)∧x.1.length≤1000∧x.2.length≤1000
structure sf (aA:List (Str×D)) (left:List (Str×Str)):Prop where
 a:∀x∈aA.map Prod.fst,x∈left.map Prod.fst∨∀p∈left,cA x p.2=false
 b:∀p∈left,p.1∈aA.map Prod.fst
 len:aA.length≤100
 iS:∀x∈aA,x.1.length≤1000
noncomputable def cW (G:List (Str×Str)) (D:List Str):List (Str×Str):=G.filter fun p=>!D.contains p.1
theorem I1 (G) (D):(cW G D).map Prod.fst=(G.map Prod.fst).filter fun z=>!D.contains z:=by
 unfold cW;refine U EC ?_;rfl
theorem uC {G:List (Str×Str)} {D:List Str} {s:Str}:s∈(cW G D).map Prod.fst↔s∈G.map Prod.fst∧s∉D:=by
 rw[I1,cB];simp
theorem Q3 (nd:(G.map Prod.fst).Nodup) (ks last):∀l i,(∀p∈l,p∈G)→(l.map Prod.fst).Nodup→
 g5 ks last i l=((l.map Prod.fst).filter fun s=>!ks.any fun x=>cA x (eo G s)).map fun s=>(iI G last s,((i+(l.map Prod.fst).idxOf s:Nat):Int))
 |[],_,_,_=>rfl
 |p::r,i,hs,hnd=>by
  rw[aJ,dg]at hnd;have ih:=Q3 nd ks last r (i+1) (fun q Ch=>hs q (.tail _ Ch)) hnd.2;have hp:=hs p (.head _);have hg:=oE nd hp;have abA:∀s∈(r.map Prod.fst).filter (fun s=>!ks.any fun x=>cA x (eo G s)),i+1+(r.map Prod.fst).idxOf s=i+((p::r).map Prod.fst).idxOf s:=fun s hs=>by
   have h1:=(cB.mp hs).1;refine U aJ (U EI ?_);have:(p.1==s)=false:=by
    rw[HA];rintro rfl;exact hnd.1 h1
   refine U this ?_;simp;lia
  have nY:(((r.map Prod.fst).filter fun s=>!ks.any fun x=>cA x (eo G s)).map fun s=>(iI G last s,((i+1+(r.map Prod.fst).idxOf s:Nat):Int)))=((r.map Prod.fst).filter fun s=>!ks.any fun x=>cA x (eo G s)).map fun s=>(iI G last s,((i+((p::r).map Prod.fst).idxOf s:Nat):Int)):=sP fun s hs=>by exact U (abA s hs) rfl
  rw[vn,ih,nY,aJ,iV,hg];by_cases q:ks.any (fun x=>cA x p.2)=true
  ·refine U (ak q) (U q ?_);rfl
  ·refine U (Tk q) ?_;have:(!ks.any fun x=>cA x p.2)=true:=by simpa using q
   refine U this (U (ak rfl) (U aJ ?_));congr 1;unfold iI;refine U hg (U EI ?_);simp
theorem Ye {l m:List Str} (h1:l.Nodup) (h2:m.Nodup) (h:∀x,x∈l↔x∈m):l.Perm m:=by
 induction l generalizing m with
 |nil=>
  induction m with
  |nil=>exact .nil
  |cons a m=>have:=(h a).mpr (.head _);cases this
 |cons a l ih=>
  rw[dg]at h1;have ha:a∈m:=(h a).mp (.head _);refine List.Perm.trans (List.Perm.cons a (ih h1.2 (h2.erase a) fun x=>?_)) (List.perm_cons_erase ha).symm;rw[h2.mem_erase_iff];constructor
  ·intro hx;exact⟨by rintro rfl;exact h1.1 hx,(h x).mp (.tail _ hx)⟩
  ·intro Go;refine Op Go fun M2 hx=>?_;exact(aY.mp ((h x).mpr hx)).resolve_left M2
theorem EV (l) (x) (d) (z):z∈(fR l x d).map Prod.fst↔z∈l.map Prod.fst∨z=x:=by
 unfold fR;split
 ·rename_i h;have e:(l.map fun bO=>if bO.1=x then(bO.1,d)else bO).map Prod.fst=l.map Prod.fst:=by
   refine U cJ ?_;exact sP fun bO J=>by show(if bO.1=x then(bO.1,d)else bO).1=bO.1;split<;>rfl
  refine U e ?_;refine⟨.inl,fun h'=>h'.elim id fun e=>?_⟩;refine wS (zX.mp h) fun bO qo e'=>?_;refine U e (ZB (EA e') ?_);exact cz qo
 ·rw[gA,b5];simp
theorem L7 (l) (x z):z∈(gw l x).map Prod.fst↔z∈l.map Prod.fst∧z≠x:=by
 unfold gw;rw[ao,ao];constructor
 ·intro Go;obtain⟨bO,h,rfl⟩:=Go;obtain⟨h1,h2⟩:=cB.mp h;exact⟨⟨bO,h1,rfl⟩,EA h2⟩
 ·intro Go;obtain⟨⟨bO,h,rfl⟩,M2⟩:=Go;exact⟨bO,cB.mpr ⟨h,vB M2⟩,rfl⟩
theorem LW:(fR l x d).length≤l.length+1:=by
 unfold fR;split
 ·rw[b8];exact bV _ _
 ·refine U dR ?_;simp
theorem Ma (h:x∈l.map Prod.fst):(gw l x).length+1≤l.length:=by
 refine wS (ao.mp h) fun bO qo s4=>?_;subst s4
 induction l with
 |nil=>cases qo
 |cons a l ih=>
  unfold gw;refine U iV ?_;rcases aY.mp qo with rfl|qo
  ·refine U (Tk (by simp)) (U bU ?_);have:=ir (fun q:Str×D=>decide (q.1≠bO.1)) l;exact gr ‹_›
  ·have:=ih qo (cz qo);unfold gw at this;split
   ·refine U bU (U bU ?_);exact gr ‹_›
   ·exact U bU (oW ‹_›)
theorem Pe:∀af aA,(af.map Prod.fst).Nodup→(∀p∈af,p.1∈aA.map Prod.fst)→
 CX aA af∧(∀z∈(af.foldl jb aA).map Prod.fst,(z∈aA.map Prod.fst∧z∉af.map Prod.fst)∨z∈af.map Prod.snd)∧(∀z∈aA.map Prod.fst,z∉af.map Prod.fst→z∈(af.foldl jb aA).map Prod.fst)∧(af.foldl jb aA).length≤aA.length
 |[],aA,_,_=>⟨trivial,fun z hz=>.inl ⟨hz,fun h=>nomatch h⟩,fun z hz J=>hz,aH _⟩
 |p::af,aA,nd,h=>by
  rw[aJ,dg]at nd;have hp:=h p (.head _);have vj:(cI aA p.1).isSome=true:=by refine U Cy ?_;exact vB hp
  refine aO (xe.mp vj) fun v s5=>?_;have hm:jb aA p=fR (gw aA p.1) p.2 v:=by unfold jb;exact U s5 rfl
  have hk:∀z,z∈(jb aA p).map Prod.fst↔(z∈aA.map Prod.fst∧z≠p.1)∨z=p.2:=fun z=>by rw[hm,EV,L7]
  obtain⟨i1,cM,fh,tR⟩:=Pe af (jb aA p) nd.2 fun q Ch=>(hk q.1).mpr (.inl ⟨h q (.tail _ Ch),by intro e;exact nd.1 (e▸cz Ch)⟩);refine rR ⟨vj,i1⟩ (fun z hz=>?_) (fun z hz M2=>?_) ?_
  ·rw[kQ]at hz;rcases cM z hz with⟨h1,h2⟩|h1
   ·rcases(hk z).mp h1 with⟨h3,h4⟩|h3
    ·exact .inl ⟨h3,fun hm=>(aY.mp hm).elim h4 h2⟩
    ·right;refine U h3 ?_;exact .head _
   ·exact .inr (.tail _ h1)
  ·exact U kQ (fh z ((hk z).mpr (.inl ⟨hz,fun e=>M2 (e▸ .head _)⟩)) fun hm=>M2 (.tail _ hm))
  ·refine U kQ ?_;have h1:=LW (l:=gw aA p.1) (x:=p.2) (d:=v);have h2:=Ma hp;rw[←hm]at h1;exact Ev ‹_› (Ev h1 h2)
theorem ae1 (nd:(G.map Prod.fst).Nodup) (D R):((cW G D).filter fun p=>!(R.map fun s=>(s,eo G s)).contains p)=cW G (D++R):=by
 unfold cW;refine U List.filter_filter ?_;refine wD fun p hp=>?_;have:(R.map fun s=>(s,eo G s)).contains p=R.contains p.1:=by
  rw[o5,zM,zM,ao];constructor
  ·rintro⟨s,hs,rfl⟩;exact hs
  ·intro h;exact⟨p.1,h,by exact U (oE nd hp) rfl⟩
 refine U this ?_;rw[o5];simp[and_comm]
theorem Tj {G:List (Str×Str)} (eT:vI G) {aA:List (Str×Internal.D)} {D last:List Str} (hd:sf aA (cW G D)) (hl:∀x∈last,x∈G.map Prod.fst) (M2:last.Nodup):MJ aA (cW G D) last:=by
 refine⟨Ev (ir _ _) eT.six,fun x hx=>eT.ok x (cB.mp hx).1,hd.len,hd.iS,?_,fun x hx=>?_⟩
 ·have:=tK M2 hl;rw[b8]at this;have:=eT.six;exact fS ‹_› ‹_› (by decide)
 ·refine wS (ao.mp (hl x hx)) fun p hp s4=>?_;subst s4;exact(eT.ok p hp).2.1
theorem Kr {G:List (Str×Str)} (eT:vI G) {aA:List (Str×Internal.D)} {D:List Str} (hd:sf aA (cW G D)) {s:Str} (hs:s∈(cW G D).map Prod.fst):(!(aA.map Prod.fst).any fun x=>cA x (eo G s))=true↔cnt G D s=0:=by
 refine wS (ao.mp hs) fun p hp s4=>?_;subst s4;have hpl:=(cB.mp hp).1;rw[s7,Cv,List.any_eq_false,oE eT.nd hpl];constructor
 ·intro h x hx;refine Op (cB.mp hx) fun h1 h2=>?_;by_cases q:x∈D
  ·exact q
  ·exfalso;have:x∈(cW G D).map Prod.fst:=uC.mpr ⟨h1,q⟩;refine wS (ao.mp this) fun c6 eF s4=>?_;subst s4;exact h _ (hd.b c6 eF) h2
 ·intro h x hx hm;rcases hd.a x hx with q|q
  ·refine Op (uC.mp q) fun h1 h2=>?_;exact h2 (h x (cB.mpr ⟨h1,hm⟩))
  ·rw[q p hp]at hm;injection hm
structure Ht (G:List (Str×Str)) (D R last:List Str) (aA:List (Str×Internal.D)) (np:Str→Int):Prop where
 ae3:∀z∈D,z∈G.map Prod.fst
 Jx:∀s∈D,∀x∈gD G (eo G s),x∈D
 vK:R.Nodup
 n8:∀s,s∈R↔s∈G.map Prod.fst∧s∉D∧cnt G D s=0
 aeO:R.Pairwise fun a b=>iE (iI G last a,((((cW G D).map Prod.fst).idxOf a:Nat):Int)) (iI G last b,((((cW G D).map Prod.fst).idxOf b:Nat):Int))=true
 Uh:∀x∈last,x∈G.map Prod.fst
 SY:last.Nodup
 aA:sf aA (cW G D)
 np:∀z∈G.map Prod.fst,z∉D→np z=(cnt G D z:Int)
theorem aeV {G:List (Str×Str)} (nd:(G.map Prod.fst).Nodup) {D:List Str} {s:Str} (hs:s∈(cW G D).map Prod.fst):(cW G D)[((cW G D).map Prod.fst).idxOf s]?=some (s,eo G s):=by
 have hi:=JK hs;have h1:((cW G D).map Prod.fst)[((cW G D).map Prod.fst).idxOf s]?=some s:=by
  rw[fV hi,Jo]
 rw[kI,GQ]at h1;refine wS h1 fun p hp e=>?_;refine U hp ?_;have hm:p∈cW G D:=s_ hp;have hpl:=(cB.mp hm).1;exact ZB e (U (oE nd hpl) rfl)
theorem O0 (eT:vI G):∀(n) (D R last) (aA:List (Str×Internal.D)) (np:Str→Int) (k),(cW G D).length<n→Ht G D R last aA np→
 ∃(p8:List Str) (K:List (Str×Internal.D)),wu n ⟨b3 (G.map Prod.fst) np (aQ G),some R,k,k⟩ aA (cW G D) last (cW G p8) K∧sf K (cW G p8)∧K.length≤aA.length∧
  ∀C:List Str,(∀s∈C,∃x∈C,x∈gD G (eo G s))→(∀s∈C,s∉D)→∀s∈C,s∉p8
 |0,_,_,_,_,_,_,h,_=>by lia
 |n+1,D,R,last,aA,np,k,M2,br=>by
  have nd:=eT.nd;have KA:((cW G D).map Prod.fst).Nodup:=by rw[I1];exact oj lW nd
  have pP:∀s∈R,s∈(cW G D).map Prod.fst:=fun s hs=>uC.mpr ⟨((br.n8 s).mp hs).1,((br.n8 s).mp hs).2.1⟩;have pe:∀s∈R,s∈G.map Prod.fst:=fun s hs=>((br.n8 s).mp hs).1;have yO:∀s∈R,s∉D:=fun s hs=>((br.n8 s).mp hs).2.1;have xw:(R.map fun s=>(s,eo G s)).map Prod.fst=R:=by refine U cJ ?_;exact Bu _
  have abW:=Q3 nd (aA.map Prod.fst) last (cW G D) 0 (fun p hp=>(cB.mp hp).1) KA;have t7:(R.map fun s=>(iI G last s,((((cW G D).map Prod.fst).idxOf s:Nat):Int))).map (fun p=>(cW G D)[p.2.toNat]?)=(R.map fun s=>(s,eo G s)).map some:=by
   refine U cJ (U cJ ?_);refine sP fun s hs=>?_;show(cW G D)[((((cW G D).map Prod.fst).idxOf s:Nat):Int).toNat]?=some (s,eo G s);rw[qQ];exact aeV nd (pP s hs)
  have xy:(R.map fun s=>(iI G last s,((((cW G D).map Prod.fst).idxOf s:Nat):Int))).Perm (g5 (aA.map Prod.fst) last 0 (cW G D)):=by
   refine U abW ?_;simp only[DI];refine List.Perm.map _ (Ye br.vK (oj lW KA) fun s=>?_);rw[cB];constructor
   ·intro hs;exact⟨pP s hs,(Kr eT br.aA (pP s hs)).mpr ((br.n8 s).mp hs).2.2⟩
   ·intro Go;refine Op Go fun h1 h2=>?_;exact(br.n8 s).mpr ⟨(uC.mp h1).1,(uC.mp h1).2,(Kr eT br.aA h1).mp h2⟩
  have BA:(R.map fun s=>(iI G last s,((((cW G D).map Prod.fst).idxOf s:Nat):Int))).Pairwise (fun x y=>iE x y=true):=by
   rw[Jj];exact br.aeO
  have PT:=Tj eT br.aA br.Uh br.SY;by_cases bD:R=[]
  ·subst bD;refine jz D aA ⟨PT,_,[],xy,BA,t7,rfl,fun x (hx:x∈([]:List Str))=>(nomatch hx),by simp,fun J=>⟨rfl,rfl⟩,fun h=>absurd rfl h⟩ br.aA (aH _) (fun C J h=>h)
  ·have hw:∀x∈R,∀s∈aQ G x,s∉D++R:=fun x hx s hs hm=>by
    have hb:=((yU nd (pe x hx)).mp hs).2;rcases b5.mp hm with hm|hm
    ·exact yO x hx (br.Jx s hm x hb)
    ·exact yO x hx (s7.mp ((br.n8 s).mp hm).2.2 x hb)
   obtain⟨acy,GS,RO,Mk⟩:=Pe (R.map fun s=>(s,eo G s)) aA (by refine U xw ?_;exact br.vK) (fun p hp=>by
    refine wS (ao.mp hp) fun s hs s4=>?_;subst s4;refine wS (ao.mp (pP s hs)) fun p hp e=>?_;have:=br.aA.b p hp;rw[e]at this;exact this)
   rw[xw]at GS RO;have hout:sD ⟨b3 (G.map Prod.fst) np (aQ G),some R,k,k⟩ R=⟨b3 (G.map Prod.fst) (fun z=>if z∈R then-1 else np z) (aQ G),some [],k+(R.length:Nat),k⟩:=by
    unfold sD;exact U (Oz nd R np pe) rfl
   obtain⟨o8,tL,mS,A4⟩:=OV nd (D:=D) (R:=R) (a:=k+(R.length:Nat)) (by have:=eT.six;exact Ev ‹_› (by decide)) pe yO br.vK hw R [] (fun z=>if z∈R then-1 else np z) [] k rfl (fun z hz=>by exact U (ak hz) rfl) (fun z hz qH=>by
    rw[Tk (fun hm=>qH (mz _ hm)),fQ];exact br.np z hz fun hm=>qH (iK _ hm))
   rw[fQ,oM]at mS;have WB:=fun s=>NB nd R D s pe yO br.vK;have Nd:=OH nd (D:=D) (R:=R) rfl pe yO br.vK hw R [] rfl;rw[fQ]at Nd;have hnext:=ae1 nd D R;have abF:∀s,s∈mh G D R↔s∈G.map Prod.fst∧s∉D++R∧cnt G (D++R) s=0:=fun s=>by
    rw[WB];constructor
    ·intro Go;refine b4 Go fun h1 h2 h3=>?_;refine⟨h1,fun hm=>?_,h2⟩;have h0:cnt G D s≠0:=by exact g_ ‹_›
     rcases b5.mp hm with hm|hm
     ·exact h0 (s7.mpr (br.Jx s hm))
     ·exact h0 ((br.n8 s).mp hm).2.2
    ·intro Go;refine b4 Go fun h1 h2 h3=>?_;refine⟨h1,h3,?_⟩;rcases Nat.eq_zero_or_pos (cnt G D s)with q|q
     ·exact absurd (mz _ ((br.n8 s).mpr ⟨h1,fun hm=>h2 (iK _ hm),q⟩)) h2
     ·exact q
   have Dn:(mh G D R).Pairwise fun a b=>iE (iI G R a,((((cW G (D++R)).map Prod.fst).idxOf a:Nat):Int)) (iI G R b,((((cW G (D++R)).map Prod.fst).idxOf b:Nat):Int))=true:=by
    rw[I1];exact Nd.1
   have ZE:(mh G D R).Nodup:=Dn.imp fun{a b} h e=>by
    subst e;rw[EX]at h;injection h
   have Jw:sf ((R.map fun s=>(s,eo G s)).foldl jb aA) (cW G (D++R)):=by
    refine⟨fun x hx=>?_,fun p hp=>?_,Ev Mk br.aA.len,fun x hx=>?_⟩
    ·rcases GS x hx with⟨h1,h2⟩|h1
     ·rcases br.aA.a x h1 with q|q
      ·left;rw[uC]at q⊢;exact⟨q.1,fun hm=>(b5.mp hm).elim q.2 h2⟩
      ·right;intro p hp;refine Op (cB.mp hp) fun uJ nL=>?_;refine q p (cB.mpr ⟨uJ,?_⟩);simp at nL⊢;exact nL.1
     ·right;intro p hp;refine Op (cB.mp hp) fun uJ nL=>?_;rw[cJ]at h1;refine wS (ao.mp h1) fun s hs s4=>?_;subst s4;refine wS (ao.mp (pe s hs)) fun q Ch s4=>?_;subst s4;show cA (eo G q.1) p.2=false;refine U (oE nd Ch) ?_;refine eT.La q Ch p uJ ?_;rintro rfl;simp at nL;exact nL.2 hs
    ·refine Op (cB.mp hp) fun uJ nL=>?_;simp at nL;refine RO p.1 (br.aA.b p (cB.mpr ⟨uJ,by simpa using nL.1⟩)) nL.2
    ·rcases GS x.1 (cz hx)with⟨h1,h2⟩|h1
     ·refine wS (ao.mp h1) fun y No e=>?_;exact ZB e (br.aA.iS y No)
     ·rw[cJ]at h1;refine wS (ao.mp h1) fun s hs e=>?_;refine wS (ao.mp (pe s hs)) fun q Ch s4=>?_;subst s4;refine ZB e ?_;show(eo G q.1).length≤1000;exact U (oE nd Ch) ((eT.ok q Ch).2.2)
   have I':Ht G (D++R) (mh G D R) R ((R.map fun s=>(s,eo G s)).foldl jb aA) tL:=by
    refine⟨fun z hz=>?_,fun s hs x hx=>?_,ZE,abF,Dn,pe,br.vK,Jw,fun z hz qH=>A4 z hz qH⟩
    ·rcases b5.mp hz with hz|hz
     ·exact br.ae3 z hz
     ·exact pe z hz
    ·rcases b5.mp hs with hs|hs
     ·exact iK _ (br.Jx s hs x hx)
     ·exact iK _ (s7.mp ((br.n8 s).mp hs).2.2 x hx)
   have Tp:(cW G (D++R)).length<n:=by
    refine aO (List.exists_mem_of_ne_nil R bD) fun s hs=>?_;have h1:(cW G (D++R)).length<(cW G D).length:=by
     refine ZB hnext ?_;refine wS (ao.mp (pP s hs)) fun p hp e=>?_;refine Ec (ir _ _) fun e'=>?_;have:=lW.eq_of_length e';rw[←this]at hp;have h2:=(cB.mp hp).2;have h3:p=(s,eo G s):=by
      obtain⟨gP,lT⟩:=p;have hpl:=(cB.mp (this▸hp:(gP,lT)∈cW G D)).1;have:=oE nd hpl;dsimp only at e this;exact ZB e (U this rfl)
     rw[h3]at h2;simp at h2;exact h2 s hs rfl rfl
    lia
   refine jJ (O0 eT n (D++R) (mh G D R) R ((R.map fun s=>(s,eo G s)).foldl jb aA) tL (k+(R.length:Nat)) Tp I') fun p8 K i1 cM fh tR=>?_;refine jz p8 K ⟨PT,_,R.map fun s=>(s,eo G s),xy,BA,t7,by exact U xw rfl,fun x hx=>by rw[xw]at hx;rw[FO];exact pe x hx,by simp,fun h=>absurd (by simpa using h) bD,fun J=>⟨by refine U xw (U hout ?_);exact o8,acy,?_⟩⟩ cM (Ev fh Mk) (fun C h1 h2=>tR C h1 fun s hs hm=>?_)
   ·refine U xw (U hout (U mS (U hnext ?_)));exact i1
   ·rcases b5.mp hm with hm|hm
    ·exact h2 s hs hm
    ·refine wS (h1 s hs) fun x hx hb=>?_;exact h2 x hx (s7.mp ((br.n8 s).mp hm).2.2 x hb)
structure Ground (base goals:List Str) (ws:List (Str×List Str)):Prop where
 new:∀t,t≤7→dW t∉base
 inj:∀t t',t≤7→t'≤7→dW t=dW t'→t=t'
 ok:∀t,t≤7→PyData.strOk (dW t)=true∧(dW t).length≤1000
 meets:∀t,t≤7→∀g∈goals,cA (dW t) g=false
 ws:∀g∈goals,∃l,j5 ws g=some l∧l.length≤1000∧(∀y∈l,PyData.strOk y=true)∧(∀x∈base,l.contains x=cA x g)∧∀t,t≤7→l.contains (dW t)=false
structure Mt (base goals:List Str) (n turn:Nat) (aA:List (Str×D)) (G:List (Str×Str)):Prop where
 eT:vI G
 aA:sf aA G
 goals:∀p∈G,p.2∈goals
 cls:∀p∈G,p.1∈base∨∃t,t<turn∧p.1=dW t
 Qp:(G.filter fun p=>base.contains p.1).length<n
 Z_:turn+n≤7
theorem yf (G):cW G []=G:=kW.mpr fun J J=>by simp
theorem aeH {α:Type} {P:α→Bool} {f:α→α}:∀{L:List α},(∃p∈L,P p=true∧P (f p)=false)→(∀q∈L,P (f q)=true→P q=true)→((L.map f).filter P).length+1≤(L.filter P).length:=by
 have le:∀{L:List α},(∀q∈L,P (f q)=true→P q=true)→((L.map f).filter P).length≤(L.filter P).length:=by
  intro L
  induction L with
  |nil=>intro _;exact aH _
  |cons a L ih=>
   intro h;have ih:=ih fun q Ch=>h q (.tail _ Ch);have ha:=h a (.head _);refine U aJ (U iV (U iV ?_));rcases q:P (f a)with _|_
   ·refine U (Tk (by simp)) ?_;split
    ·exact U bU (oW ‹_›)
    ·exact ih
   ·refine U (ha q) ?_;simp;assumption
 intro L
 induction L with
 |nil=>rintro⟨p,hp,_⟩;cases hp
 |cons a L ih=>
  intro Go h;refine aS Go fun p hp h1 h2=>?_;have ha:=h a (.head _);refine U aJ (U iV (U iV ?_));rcases aY.mp hp with rfl|hp
  ·refine U h1 (U h2 ?_);have:=le (L:=L) fun q Ch=>h q (.tail _ Ch);simp;assumption
  ·have ih:=ih ⟨p,hp,h1,h2⟩ fun q Ch=>h q (.tail _ Ch);rcases q:P (f a)with _|_
   ·refine U (Tk (by simp)) ?_;split
    ·exact U bU (oW ‹_›)
    ·exact ih
   ·refine U (ha q) ?_;simp;assumption
theorem Zv {base goals:List Str} {ws:List (Str×List Str)} (dY:Ground base goals ws) {n turn:Nat} {G L:List (Str×Str)} {K:List (Str×D)} {bY:Str} {v:D} (eT:vI G) (aU:L.Sublist G) (YE:∀p∈G,p.2∈goals) (hcls:∀p∈G,p.1∈base∨∃t,t<turn∧p.1=dW t) (uI:(G.filter fun p=>base.contains p.1).length<n+1) (hup:turn+(n+1)≤7)
 (g8:sf K L) (tF:bY∈L.map Prod.fst) (hb:bY∈base):Mt base goals n (turn+1) (fR (gw K bY) (dW turn) v) (pK bY (dW turn) L):=by
 have hsub:∀p∈L,p∈G:=fun p hp=>aU.subset hp;have wQ:∀p∈L,p.1≠dW turn:=fun p hp e=>by
  rcases hcls p (hsub p hp)with h|⟨t,FS,h⟩
  ·rw[e]at h;exact dY.new turn (by exact fS (bV ..) ‹_› (by decide)) h
  ·rw[e]at h;have:=dY.inj turn t (by exact fS (bV ..) ‹_› (by decide)) (Ev (fz FS) (Ev (bV ..) hup)) h;exact g_ FS this
 have aaN:(L.map Prod.fst).Nodup:=oj (aU.map _) eT.nd;have hmem:∀c6∈pK bY (dW turn) L,∃p∈L,c6=(if p.1=bY then dW turn else p.1,p.2):=fun c6 eF=>by
  refine wS (ao.mp eF) fun p hp e=>?_;exact⟨p,hp,e.symm⟩
 have wF:(pK bY (dW turn) L).map Prod.fst=(L.map Prod.fst).map fun s=>if s=bY then dW turn else s:=by
  delta pK;refine U cJ (U cJ ?_);rfl
 have hk:∀z,z∈(fR (gw K bY) (dW turn) v).map Prod.fst↔(z∈K.map Prod.fst∧z≠bY)∨z=dW turn:=fun z=>by rw[EV,L7]
 refine wS (ao.mp tF) fun Bk hp0 iQ=>?_;have YB:bY∈K.map Prod.fst:=by refine ZB iQ ?_;exact g8.b Bk hp0
 refine⟨⟨?_,?_,?_,?_⟩,⟨?_,?_,?_,?_⟩,?_,?_,?_,?_⟩
 ·refine U wF ?_;delta List.Nodup;rw[Jj];refine aaN.imp_of_mem fun{a b} ha dJ sH=>?_;refine wS (ao.mp ha) fun jh Zi iW=>?_;refine wS (ao.mp dJ) fun mP acn xT=>?_;have na:=wQ jh Zi;have nb:=wQ mP acn;rw[iW]at na;rw[xT]at nb;by_cases pg:a=bY
  ·refine U (ak pg) (U (Tk (by rintro rfl;exact sH pg)) ?_);exact fun e=>nb e.symm
  ·refine U (Tk pg) ?_;by_cases Rd:b=bY
   ·exact U (ak Rd) na
   ·exact U (Tk Rd) sH
 ·intro c6 eF q' ac5 a_;refine wS (hmem c6 eF) fun p hp s4=>?_;subst s4;refine wS (hmem q' ac5) fun q Ch s4=>?_;subst s4;exact eT.La p (hsub p hp) q (hsub q Ch) (by rintro rfl;exact a_ rfl)
 ·delta pK;rw[b8];exact Ev aU.length_le eT.six
 ·intro c6 eF;refine wS (hmem c6 eF) fun p hp s4=>?_;subst s4;have h1:=eT.ok p (hsub p hp);have h2:=dY.ok turn (by exact fS (bV ..) ‹_› (by decide));dsimp only;split
  ·exact⟨⟨h2.1,h1.1.2⟩,h2.2,h1.2.2⟩
  ·exact h1
 ·intro z hz;rcases(hk z).mp hz with⟨h1,h2⟩|h1
  ·rcases g8.a z h1 with q|q
   ·left;exact U wF (ao.mpr ⟨z,q,Tk h2⟩)
   ·right;intro c6 eF;refine wS (hmem c6 eF) fun p hp s4=>?_;subst s4;exact q p hp
  ·left;refine U wF (U h1 ?_);exact ao.mpr ⟨bY,tF,ak rfl⟩
 ·intro c6 eF;refine wS (hmem c6 eF) fun p hp s4=>?_;subst s4;rw[hk];dsimp only;by_cases q:p.1=bY
  ·exact U (ak q) (.inr rfl)
  ·exact U (Tk q) (.inl ⟨g8.b p hp,q⟩)
 ·have h1:=LW (l:=gw K bY) (x:=dW turn) (d:=v);have h2:=Ma YB;have:=g8.len;exact Ev h1 (Ev h2 this)
 ·intro x hx;rcases(hk x.1).mp (cz hx)with⟨h1,_⟩|h1
  ·refine wS (ao.mp h1) fun y No e=>?_;exact ZB e (g8.iS y No)
  ·exact U h1 ((dY.ok turn (by exact fS (bV ..) ‹_› (by decide))).2)
 ·intro c6 eF;refine wS (hmem c6 eF) fun p hp s4=>?_;subst s4;exact YE p (hsub p hp)
 ·intro c6 eF;refine wS (hmem c6 eF) fun p hp s4=>?_;subst s4;dsimp only;split
  ·exact .inr ⟨turn,jy _,rfl⟩
  ·rcases hcls p (hsub p hp)with h|⟨t,FS,h⟩
   ·exact .inl h
   ·exact .inr ⟨t,by exact oW ‹_›,h⟩
 ·have h1:(((L.map fun p=>(if p.1=bY then dW turn else p.1,p.2))).filter fun p=>base.contains p.1).length+1≤(L.filter fun p=>base.contains p.1).length:=by
   refine aeH ⟨Bk,hp0,by refine U iQ ?_;simpa using hb,?_⟩ fun q Ch hc=>?_
   ·dsimp only;refine U (ak iQ) ?_;simpa using dY.new turn (by exact fS (bV ..) ‹_› (by decide))
   ·dsimp only at hc;split at hc
    ·exact absurd (by simpa using hc) (dY.new turn (by exact fS (bV ..) ‹_› (by decide)))
    ·exact hc
  have h2:=(aU.filter fun p=>base.contains p.1).length_le;delta pK;exact Nat.lt_of_succ_lt_succ (fU (Ev ‹_› h2) uI)
 ·exact oH ‹_›
theorem M1 (dY:Ground base goals ws):∀n turn aA G,Mt base goals n turn aA G→vH ws n turn aA G
 |0,_,_,_,br=>absurd br.Qp (Nat.not_lt_zero _)
 |n+1,turn,aA,G,br=>by
  have eT:=br.eT;have nd:=eT.nd;have hup:=br.Z_;have PX:∀p∈G,∃l,j5 ws p.2=some l∧l.length≤1000∧(∀y∈l,PyData.strOk y=true)∧∀x∈G.map Prod.fst,l.contains x=cA x p.2:=fun p hp=>by
   refine G7 (dY.ws p.2 (br.goals p hp)) fun l h1 h2 h3 h4 h5=>?_;refine ur l h1 h2 h3 (fun x hx=>?_);refine wS (ao.mp hx) fun q Ch s4=>?_;subst s4;rcases br.cls q Ch with h|⟨t,FS,h⟩
   ·exact h4 _ h
   ·exact U h (U (h5 t (by lia)) (U (dY.meets t (by lia) p.2 (br.goals p hp)) rfl))
  obtain⟨np,GB,Aj⟩:=XQ nd (ws:=ws) fun p hp x hx=>by
   refine d9 (PX p hp) fun l h1 J J h4=>?_;exact U h1 (h4 x hx)
  have hS:∀x∈G.map Prod.fst,iT (b3 (G.map Prod.fst) np (aQ G)) x=aQ G x:=fun x hx=>by
   delta iT;exact U (qZ hx) rfl
  refine aS (Uo nd hS) fun b xo aG CZ=>?_;refine aO aG fun dD aay=>?_;have hnames:=FO (G.map Prod.fst) np (aQ G);have cK:(b3 (G.map Prod.fst) np (aQ G)).length=G.length:=by
   have:=cN List.length hnames;simpa using this
  have Jf:∀z∈G.map Prod.fst,np z=(cnt G [] z:Int):=fun z hz=>by
   refine wS (ao.mp hz) fun q Ch s4=>?_;subst s4;refine U (GB q Ch) ?_;delta cnt;exact U (oE nd Ch) (U (kW.mpr (fun J J=>by simp)) rfl)
  have Zy:lg (b3 (G.map Prod.fst) np (aQ G))=(G.map Prod.fst).filter fun z=>np z==0:=by
   delta lg b3;refine U EC (U cJ ?_);exact Bu _
  have WW:Ht G [] ((G.map Prod.fst).filter fun z=>np z==0) [] aA np:=by
   have ja:((G.map Prod.fst).filter fun z=>np z==0).Sublist ((cW G []).map Prod.fst):=by rw[yf];exact lW
   refine⟨fun z hz=>(nomatch hz),fun s hs=>(nomatch hs),oj lW nd,fun s=>?_,?_,fun x hx=>(nomatch hx),.nil,by rw[yf];exact br.aA,fun z hz J=>Jf z hz⟩
   ·rw[cB];constructor
    ·intro Go;refine Op Go fun h1 h2=>?_;refine⟨h1,by simp,?_⟩;rw[Jf s h1]at h2;have:((cnt G [] s:Nat):Int)=0:=by simpa using h2
     lia
    ·intro Go;refine b4 Go fun h1 J h2=>?_;refine⟨h1,?_⟩;refine U (Jf s h1) (U h2 ?_);rfl
   ·refine(QE (by rw[yf];exact nd) ja).imp fun{a b} sH=>?_;delta iE iI jM;simp[A8,Wh];assumption
  refine jJ (O0 eT (G.length+1) [] _ [] aA np 0 (by rw[yf];lia) WW) fun p8 K bD g8 aga jq=>?_;rw[yf]at bD;refine WE b (G.length+1) (cW G p8) K ⟨eT.six,eT.ok,fun p hp=>?_,nd,xo,⟨dD,?_⟩,?_,?_,?_,?_⟩ ?_ ?_
  ·refine d9 (PX p hp) fun l h1 h2 h3 J=>?_;exact fW l h1 h2 h3
  ·refine U Aj ?_;dsimp only;exact U hnames aay
  ·refine U Aj ?_;dsimp only;refine U cK ?_;have:=eT.six;exact Ev ‹_› (by decide)
  ·refine U Aj ?_;dsimp only;refine U hnames ?_;intro nn yT x hx;refine wS (ao.mp yT) fun z hz s4=>?_;subst s4;exact xK hx
  ·exact U Aj rfl
  ·intro l e x hx;refine fB (CZ l e) fun bY rest s4 h1 J=>?_;subst s4;refine wS (ao.mp (h1 x hx)) fun p hp s4=>?_;subst s4;exact(eT.ok p hp).1.1
  ·refine U Aj ?_;delta lO;dsimp only;exact U Zy bD
  ·intro ring e;refine jJ (CZ ring e) fun bY rest s4 h1 h2 h3=>?_;subst s4;have TU:=jq (bY::rest) (fun s hs=>by
    refine wS (h2 s hs) fun t FS h=>?_;exact⟨t,FS,((yU nd (h1 t FS)).mp h).2⟩) (fun s J hm=>(nomatch hm))
   have tF:bY∈(cW G p8).map Prod.fst:=uC.mpr ⟨h1 bY (.head _),TU bY (.head _)⟩;refine wS (ao.mp tF) fun Bk hp0 iQ=>?_;have hkey:=g8.b Bk hp0;rw[iQ]at hkey;have vj:(cI K bY).isSome=true:=by refine U Cy ?_;exact vB hkey
   refine aO (xe.mp vj) fun v s5=>?_;have fH:bY∈base:=by
    refine wS (ao.mp (h1 bY (.head _))) fun Vr abE e1=>?_;rcases br.cls Vr abE with h|⟨t,FS,h⟩
    ·exact ZB e1 h
    ·exfalso;apply h3;delta aQ;rw[List.map_eq_nil_iff,wW];intro p hp;refine ZB e1 (U h (U (dY.meets t (by lia) p.2 (br.goals p hp)) ?_));simp
   refine Hq bY rest v rfl (Ev (ir _ _) eT.six) (by have:=g8.len;exact Ev ‹_› (by decide)) s5 (M1 dY n (turn+1) _ _ (Zv dY eT lW br.goals br.cls br.Qp hup g8 tF fH))
theorem QJ:∀places pool n j,pool.Nodup→places.length≤pool.length→
 (nv places pool n j).map Prod.fst=places∧((nv places pool n j).map (fun x=>x.2.1)).Nodup∧(∀g∈(nv places pool n j).map (fun x=>x.2.1),g∈pool)∧∀m∈nv places pool n j,∃q q':Int,m.2.2.1=j8 m.1 q∧m.2.2.2=j8 m.2.1 q'
 |[],pool,n,j,_,_=>⟨rfl,.nil,fun J h=>(nomatch h),fun J h=>(nomatch h)⟩
 |x::places,pool,n,j,nd,hl=>by
  have a_:pool≠[]:=by rintro rfl;simp at hl
  have hg:=Nz (n:=n) a_;have hf:=Le nd hg;rw[bU]at hl;refine lN (QJ places (pool.filter (fun x=>x !=j9 pool n)) (n.fdiv pool.length) (j+1) (oj lW nd) (A_ (Ev hl (bT hf.symm)))) fun i1 cM fh tR=>?_;rw[JJ,aJ,aJ];refine rR (by exact U i1 rfl) ?_ (fun g hg'=>?_) (fun m hm=>?_)
  ·rw[dg];refine⟨fun hm=>?_,cM⟩;have:=(cB.mp (fh _ hm)).2;simp at this
  ·refine bC hg' ?_ fun hg'=>?_
   ·exact hg
   ·exact(cB.mp (fh g hg')).1
  ·refine bC hm ?_ fun hm=>?_
   ·exact pS _ _ rfl rfl
   ·exact tR m hm
theorem A9 (n):∀s∈gR n,∃p∈AE n,s=cD p∧0<p.length∧p.length≤5:=fun s hs=>by
 rw[Rp]at hs;refine wS (ao.mp hs) fun p hp s4=>?_;subst s4;obtain⟨h1,h2⟩:=ac3 n p hp;exact ur p hp rfl h1 h2
theorem Rb {α:Type} {R:α→α→Prop} (hs:∀a b,R a b→R b a):∀{l:List α},l.Pairwise R→∀a∈l,∀b∈l,a≠b→R a b
 |[],_,a,ha,_,_,_=>nomatch ha
 |x::l,h,a,ha,b,hb,a_=>by
  rw[x7]at h;rcases aY.mp ha with h1|h1<;>rcases aY.mp hb with h2|h2
  ·exact absurd (h1.trans h2.symm) a_
  ·exact U h1 (h.1 b h2)
  ·exact U h2 (hs _ _ (h.1 a h1))
  ·exact Rb hs h.2 a h1 b h2 a_
theorem YX (n):∀g∈gR n,∀pQ∈gR n,g≠pQ→cA g pQ=false:=fun g hg pQ hg' a_=>by
 refine aS (A9 n g hg) fun p hp s4 J=>?_;subst s4;refine aS (A9 n pQ hg') fun q Ch s4 J=>?_;subst s4;exact SV (Rb (fun a b h=>Apart.symm h) (NQ n) p hp q Ch (by rintro rfl;exact a_ rfl))
theorem R4 {l:List (Str×Str)} (nd:(l.map Prod.snd).Nodup):∀p∈l,∀q∈l,p.2=q.2→p=q:=by
 induction l with
 |nil=>intro p hp;cases hp
 |cons a l ih=>
  rw[aJ,dg]at nd;intro p hp q Ch e;rcases aY.mp hp with h1|h1<;>rcases aY.mp Ch with h2|h2
  ·exact U h1 (U h2 rfl)
  ·exfalso;apply nd.1;refine ZB h1 (U e ?_);exact cz h2
  ·exfalso;apply nd.1;refine ZB h2 (ZB e ?_);exact cz h1
  ·exact ih nd.2 p h1 q h2 e
theorem JP (F:Str→List Str):∀(l:List (Str×Str)) (g:Str),g∈l.map Prod.snd→j5 (l.map fun x=>(x.2,F x.2)) g=some (F g)
 |[],_,h=>nomatch h
 |p::l,g,h=>by
  unfold j5;rw[aJ,qu];by_cases e:p.2=g
  ·subst e;simp
  ·simp only[e,uL];rw[aJ]at h;exact JP F l g ((aY.mp h).resolve_left fun z=>e z.symm)
theorem aci {α:Type} (kf:α→Str) (gc:α→D) (xs:List α) (z):z∈(kY kf gc xs).map Prod.fst↔∃a∈xs,kf a=z:=by
 have main:∀(xs:List α) (l:List (Str×D)),z∈(xs.foldl (fun l a=>fR l (kf a) (gc a)) l).map Prod.fst↔z∈l.map Prod.fst∨∃a∈xs,kf a=z:=by
  intro xs
  induction xs with
  |nil=>intro l;simp
  |cons a xs ih=>
   intro l;rw[kQ,ih,EV];constructor
   ·rintro((h|h)|⟨b,hb,e⟩)
    ·exact .inl h
    ·exact .inr ⟨a,.head _,h.symm⟩
    ·exact .inr ⟨b,.tail _ hb,e⟩
   ·rintro(h|⟨b,hb,e⟩)
    ·exact .inl (.inl h)
    ·rcases aY.mp hb with rfl|hb
     ·exact .inl (.inr e.symm)
     ·exact .inr ⟨b,hb,e⟩
 unfold kY;rw[main];simp
theorem Ua (xs):AH IsPlace (mV xs):=by
 unfold mV;generalize 37+(mL xs (some 0) none (some 3)).sum=n1;generalize 101+(mL xs (some 1) none (some 3)).sum=b6;generalize 5000+(mL xs (some 2) none (some 3)).sum=dP;refine lN (QJ (gR n1) (gR b6) dP 0 (Gw b6) (by refine U ((zE n1).1) (U ((zE b6).1) ?_);decide)) fun f1 f2 f3 f4=>?_;generalize nv (gR n1) (gR b6) dP 0=ms at f1 f2 f3 f4;have hs:(b9 ms).map Prod.fst=gR n1:=by unfold b9;refine U cJ ?_;exact f1
 have hg:(b9 ms).map Prod.snd=ms.map (fun x=>x.2.1):=by unfold b9;refine U cJ ?_;rfl
 rw[←hg]at f2 f3;have cK:ms.length=6:=by
  have:=cN List.length f1;rw[b8,(zE n1).1]at this;exact this
 have nY:(b9 ms).length=6:=by unfold b9;rw[b8];exact cK
 have dH:∀p∈b9 ms,IsPlace p.1∧IsPlace p.2:=fun p hp=>by
  have h1:p.1∈gR n1:=by refine ZB hs ?_;exact cz hp
  have h2:=f3 p.2 (cz hp);refine d9 (A9 n1 _ h1) fun a J e1 a1 a2=>?_;refine d9 (A9 b6 _ h2) fun b J e2 b1 fj=>?_;exact⟨⟨a,a1,a2,e1⟩,b,b1,fj,e2⟩
 have rJ:∀s,IsPlace s→PyData.strOk s=true∧s.length≤1000:=fun s aeQ=>aS aeQ fun p J h2 e=>by
  subst e;exact⟨afl p,by rw[yV];exact Ev (s9 2 h2) (by decide)⟩
 have bJ:∀p∈iN (b9 ms),p∈b9 ms:=fun p hp=>(cB.mp hp).1;have hsub:(iN (b9 ms)).Sublist (b9 ms):=lW;have Nk:∀p∈b9 ms,∀q∈b9 ms,p≠q→cA p.2 q.2=false:=fun p hp q Ch a_=>
  YX b6 _ (f3 _ (cz hp)) _ (f3 _ (cz Ch)) fun e=>a_ (R4 f2 p hp q Ch e)
 have W7:((b9 ms).map Prod.fst).Nodup:=by refine U hs ?_;exact Gw n1
 have eT:vI (iN (b9 ms)):=by
  refine⟨oj (hsub.map _) W7,fun p hp q Ch a_=>Nk p (bJ p hp) q (bJ q Ch) a_,by have:=hsub.length_le;exact Ev ‹_› (bT ‹_›),fun p hp=>?_⟩;refine Op (dH p (bJ p hp)) fun h1 h2=>?_;exact⟨⟨(rJ _ h1).1,(rJ _ h2).1⟩,(rJ _ h1).2,(rJ _ h2).2⟩
 have hkeys:∀z,z∈(wo (b9 ms)).map Prod.fst↔z∈(b9 ms).map Prod.fst:=fun z=>by
  unfold wo;rw[aci];constructor
  ·intro Go;refine wS Go fun i hi e=>?_;have hi:=qy.mp hi;rw[←e,iw,fV (by exact k7 ‹_› (sX ‹_›))];exact cz (rF _)
  ·intro h;refine wS (ao.mp h) fun p hp s4=>?_;subst s4;obtain⟨i,hi,e⟩:=List.getElem_of_mem hp;refine⟨i,qy.mpr (by exact k7 ‹_› ‹_›),?_⟩;rw[iw,fV hi,e];rfl
 have afP:(wo (b9 ms)).length≤6:=by
  unfold wo;have:=Qa (kf:=fun i:Nat=>((b9 ms).getD i (Str.empty,Str.empty)).1) (gc:=fun i:Nat=>D.int (i:Int)) (List.range 6);simpa using this
 have Jw:sf (wo (b9 ms)) (iN (b9 ms)):=by
  refine⟨fun x hx=>?_,fun p hp=>(hkeys _).mpr (cz (bJ p hp)),by exact Ev ‹_› (by decide),fun x hx=>?_⟩
  ·refine wS (ao.mp ((hkeys x).mp hx)) fun p hp s4=>?_;subst s4;by_cases e:p.1=p.2
   ·right;intro q Ch;refine U e ?_;refine Nk p hp q (bJ q Ch) ?_;rintro rfl;have:=(cB.mp Ch).2;rw[e]at this;simp at this
   ·left;exact cz (cB.mpr ⟨hp,yv.mpr e⟩)
  ·refine wS (ao.mp ((hkeys x.1).mp (cz hx))) fun p hp e=>?_;exact ZB e ((rJ _ (dH p hp).1).2)
 have dY:Ground ((iN (b9 ms)).map Prod.fst) ((iN (b9 ms)).map Prod.snd) (k9 (iN (b9 ms))):=by
  refine⟨fun t FS hm=>?_,fun t t' h1 h2=>Ss h1 h2,fun t FS=>?_,fun t FS g hg=>?_,fun g hg=>?_⟩
  ·refine wS (ao.mp hm) fun p hp e=>?_;refine aS ((dH p (bJ p hp)).1) fun a J J e1=>?_;exact NC FS a (ZB e (U e1 rfl))
  ·have:=vc ⟨t,by exact fU ‹_› (by decide)⟩;exact⟨this.2.1,by refine U this.2.2.1 ?_;decide⟩
  ·refine wS (ao.mp hg) fun p hp s4=>?_;subst s4;refine aS ((dH p (bJ p hp)).2) fun a h1 J e1=>?_;exact U e1 (UP FS h1)
  ·have hw:=JP (fun g=>((iN (b9 ms)).map Prod.fst).filter fun one=>cA one g) (iN (b9 ms)) g hg;refine As _ hw ?_ (fun y No=>?_) (fun x hx=>?_) (fun t FS=>?_)
   ·have h1:=ir (fun one=>cA one g) ((iN (b9 ms)).map Prod.fst);rw[b8]at h1;have:=hsub.length_le;exact fS h1 this (Ev (bT ‹_›) (by decide))
   ·refine wS (ao.mp (cB.mp No).1) fun p hp s4=>?_;subst s4;exact(rJ _ (dH p (bJ p hp)).1).1
   ·rw[o5,zM,cB];exact⟨fun h=>h.2,fun h=>⟨hx,h⟩⟩
   ·rw[←DK,zM,cB];intro Go;refine Op Go fun h1 J=>?_;refine wS (ao.mp h1) fun p hp e=>?_;refine aS ((dH p (bJ p hp)).1) fun a J J e1=>?_;exact NC FS a (ZB e (U e1 rfl))
 refine⟨cK,fun m hm=>?_,fun p hp=>⟨(rJ _ (dH p hp).1).1,(rJ _ (dH p hp).2).1⟩,aej,fun p hp=>dH p (bJ p hp),oj (hsub.map _) f2,?_⟩
 ·refine eG (f4 m hm) fun q q' e1 e2=>?_;have ab1:(m.1,m.2.1)∈b9 ms:=cz (f:=fun m:Move=>(m.1,m.2.1)) hm;refine Op (dH _ ab1) fun XF acK=>aS acK fun b b1 fj fX=>?_;obtain⟨a,a1,a2,e3⟩:=XF;dsimp only at e3 fX;refine U e1 (U e2 (U e3 (U fX ?_)));exact⟨K1 a1 a2 q,K1 b1 fj q'⟩
 ·refine M1 dY 7 0 _ _ ⟨eT,Jw,fun p hp=>cz hp,fun p hp=>.inl (cz hp),?_,by decide⟩;have:=ir (fun p:Str×Str=>((iN (b9 ms)).map Prod.fst).contains p.1) (iN (b9 ms));have:=hsub.length_le;exact E0 (Ev (Ev ‹_› this) (bT ‹_›))
theorem holds:PySem.Challenge.rw_pd0029_01.Holds:=holds_law fun xs J=>⟨IsPlace,Ua xs⟩
end Mine.Internal
theorem PySem.Challenge.cw_pd0029_01_holds : PySem.Challenge.rw_pd0029_01.Holds :=
  Mine.Internal.holds
