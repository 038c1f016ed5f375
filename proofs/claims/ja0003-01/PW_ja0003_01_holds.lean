import PyProof.Rows.All
import Wide.All
import OpenK.AllK
import Wide.FinOn
import Lean
import PySem.Challenge.RW_ja0003_01
open PySem PySem.W PyProof.Rows PySem.Calls PySem.Spec
set_option Elab.async false
set_option maxRecDepth 100000
set_option maxHeartbeats 0
set_option linter.unusedVariables false
set_option linter.unusedSimpArgs false
namespace Mine
set_option genSizeOf false
local macro_rules | `(tactic| walk_at $s:str) => `(tactic| first | k_extra $s | fail "none")
theorem words_all : True := by
  k_with "nle" => (first | (first | with_reducible assumption | with_reducible exact Nat.le_refl _ | ((fail_if_success (with_reducible show _ ≤ (OfNat.ofNat _ : Nat))); (fail_if_success (with_reducible show _ ≤ (_ ^ _ : Nat))); first | ((with_reducible refine' Nat.le_succ_of_le ?_); k_extra "nle") | (focus ((with_reducible refine' nle_tr ?_ ?_); rotate_right 2; rotate_left; (case _ => with_reducible assumption); k_extra "nle")) | with_reducible exact Nat.le_of_lt (by assumption))) | fail "none")
  k_with "nlt" => (first | (first | with_reducible assumption | ((fail_if_success (with_reducible show _ < (OfNat.ofNat _ : Nat))); (fail_if_success (with_reducible show _ < (_ ^ _ : Nat))); first | ((with_reducible refine' Nat.lt_succ_of_le ?_); k_extra "nle") | (focus ((with_reducible refine' nlt_le ?_ ?_); rotate_right 2; (case _ => with_reducible assumption); k_extra "nle")))) | fail "none")
  k_with "om" => (first | (first | ((with_reducible show @LE.le Nat instLENat _ _); (fail_if_success (with_reducible show _ ≤ (918273645 : Nat))); (fail_if_success (with_reducible show (918273645 : Nat) ≤ _)); k_extra "nle") | ((with_reducible show @LT.lt Nat instLTNat _ _); (fail_if_success (with_reducible show _ < (918273645 : Nat))); (fail_if_success (with_reducible show (918273645 : Nat) < _)); k_extra "nlt") | ((with_reducible show (_ : Nat) ≠ _); (fail_if_success (with_reducible show _ ≠ (918273645 : Nat))); (fail_if_success (with_reducible show (918273645 : Nat) ≠ _)); (first | with_reducible assumption | (apply Nat.ne_of_lt; k_extra "nlt") | (apply Nat.ne_of_gt; k_extra "nlt"))) | ((fail_if_success (fail_if_success omega)); first | with_reducible assumption | lia | omega)) | fail "none")
  k_with "asm" => (first | (with_reducible assumption) | fail "none")
  k_with "ok" => (first | (first | with_reducible assumption | exact Ok.le (by with_reducible assumption) (by decide) | exact Ok.deep (by with_reducible assumption) (by decide)) | fail "none")
  k_with "ne" => (first | (first | with_reducible assumption | k_extra "om" | (apply Ne.symm; with_reducible assumption)) | fail "none")
  k_with "lk" => (first | (first | with_reducible assumption | with_reducible exact PH.set_self _ _ _ | ((focus ((with_reducible refine' PH.set_at ?_ ?_); rotate_right 2; (case _ => k_extra "ne"))); k_extra "lk") | ((focus ((with_reducible refine' Only.at ?_ ?_ ?_); rotate_right 3; (case _ => with_reducible assumption); (case _ => k_extra "nin"))); k_extra "lk")) | fail "none")
  k_with "le" => (first | (first | exact PH.le_refl _ | with_reducible assumption | ((focus ((refine' PH.le_set _ _ ?_); rotate_right 1; (case _ => k_extra "le")))) | ((focus ((with_reducible refine' PH.le_new ?_ ?_); rotate_right 2; rotate_left 1; (case _ => exact RC.none_new (by with_reducible assumption) (by first | k_extra "om" | fail "none")); rotate_right 1; (case _ => k_extra "le"))))) | fail "none")
  k_with "nimm" => (first | (first | exact nimm_ctx | exact nimm_lst | exact nimm_pair | exact nimm_ba | exact nimm_raw | exact nimm_nil | exact nimm_prp) | fail "none")
  k_with "keepi" => (first | (first | exact KeepI.refl _ | with_reducible assumption | ((focus ((with_reducible refine' KeepI.set ?_ ?_ ?_); rotate_right 3; rotate_left 1; (case _ => k_extra "lk"); rotate_right 1; rotate_left 1; (case _ => k_extra "nimm"); rotate_right 1; (case _ => k_extra "keepi")))) | ((focus ((with_reducible refine' KeepI.new ?_ ?_); rotate_right 2; rotate_left 1; (case _ => exact RC.none_new (by with_reducible assumption) (by first | k_extra "om" | fail "none")); rotate_right 1; (case _ => k_extra "keepi")))) | ((focus ((with_reducible refine' KeepI.le ?_ ?_); rotate_right 2; rotate_left 1; (case _ => with_reducible assumption); rotate_right 1; (case _ => k_extra "keepi"))))) | fail "none")
  k_with "only" => (first | (first | exact Only.refl _ _ | with_reducible assumption | ((focus ((with_reducible refine' Only.set _ ?_ ?_); rotate_right 2; rotate_left 1; (case _ => simp; done); rotate_right 1; (case _ => k_extra "only")))) | ((focus ((with_reducible refine' Only.new _ ?_ ?_); rotate_right 2; rotate_left 1; (case _ => exact RC.none_new (by with_reducible assumption) (by first | k_extra "om" | fail "none")); rotate_right 1; (case _ => k_extra "only")))) | ((focus ((with_reducible refine' Only.le _ ?_ ?_); rotate_right 2; rotate_left 1; (case _ => with_reducible assumption); rotate_right 1; (case _ => k_extra "only"))))) | fail "none")
  k_with "nin" => (first | ((simp only [List.mem_cons, List.not_mem_nil, or_false, not_or]; (try refine ⟨?_, ?_⟩) <;> (try refine ⟨?_, ?_⟩) <;> (try refine ⟨?_, ?_⟩) <;> k_extra "ne")) | fail "none")
  k_with "sz" => (first | (first | decide | k_extra "om" | exact u8lt _ | (simp only [Int.reduceToNat, Nat.reducePow, Int.toNat_natCast]; k_extra "om") | (simp only [List.length_append, List.length_cons, List.length_nil, List.length_replicate, List.length_take, List.length_drop, List.length_set, List.length_map, toBE_length] at *; k_extra "om") | (simp; done)) | fail "none")
  k_with "eval Name" => (first | (k_dflt (first | (focus ((with_reducible refine' r_glob ?_ ?_ ?_ ?_ ?_ ?_ ?_); rotate_right 7; (case _ => k_extra "asm"); (case _ => k_extra "asm"); (case _ => k_is); rotate_left; (case _ => kernel_rfl); (case _ => kernel_rfl); (case _ => kernel_rfl))) | (focus ((with_reducible refine' r_local ?_ ?_ ?_ ?_ ?_ ?_); rotate_right 6; (case _ => k_extra "asm"); (case _ => first | exact rfl | with_reducible assumption); rotate_left; (case _ => kernel_rfl); (case _ => kernel_rfl); (case _ => kernel_rfl))) | (focus ((with_reducible refine' r_built ?_ ?_ ?_ ?_ ?_ ?_ ?_ ?_ ?_); rotate_right 9; (case _ => k_extra "asm"); (case _ => k_extra "asm"); (case _ => k_is); (case _ => first | with_reducible exact boot_ba | boot_fast); rotate_left; (case _ => decide); (case _ => kernel_rfl); (case _ => kernel_rfl); (case _ => kernel_rfl))) | (focus ((with_reducible refine' r_local ?_ ?_ ?_ ?_ ?_ ?_); rotate_right 6; rotate_left 4; (case _ => exact rfl); rotate_right 4; (case _ => k_extra "asm"); (case _ => assumption); rotate_left; (case _ => kernel_rfl); (case _ => kernel_rfl))))) | fail "none")
  k_with "eval Constant int" => (first | (((with_reducible refine' r_int ?_); intro zia zib)) | fail "none")
  k_with "eval Constant str" => (first | (((with_reducible refine' r_str ?_); intro zia zib)) | fail "none")
  k_with "eval Constant bytes" => (first | (((with_reducible refine' r_bytes ?_); intro zia zib)) | fail "none")
  k_with "eval BinOp" => (first | ((with_reducible refine' wpAny_BinOp ?_)) | fail "none")
  k_with "eval Subscript" => (first | ((with_reducible refine' PyProof.Rows.Subscript_ ?_)) | fail "none")
  k_with "eval Attribute" => (first | (k_dflt ((focus ((with_reducible refine' PyProof.Rows.Attribute_any_ ?_ ?_); rotate_right 2; rotate_left 1; (case _ => exact rfl); rotate_right 1)))) | fail "none")
  k_with "eval Call" => (first | (k_dflt (first | (with_reducible refine' r_call0 ?_) | ((focus ((with_reducible refine' r_mcall0 ?_ ?_); rotate_right 2; rotate_left 1; (case _ => exact rfl); rotate_right 1))) | ((focus ((with_reducible refine' methodCall_KW ?_ ?_); rotate_right 2; rotate_left 1; (case _ => exact rfl); rotate_right 1))) | (with_reducible refine' wpAny_Call_ofName ?_))) | fail "none")
  k_with "eval Call Attribute" => (first | (k_dflt (first | ((focus ((with_reducible refine' r_mcall0 ?_ ?_); rotate_right 2; rotate_left 1; (case _ => exact rfl); rotate_right 1))) | ((focus ((with_reducible refine' methodCall_KW ?_ ?_); rotate_right 2; rotate_left 1; (case _ => exact rfl); rotate_right 1))))) | fail "none")
  k_with "eval Compare" => (first | (k_dflt ((focus ((with_reducible refine' wpAny_Compare1 ?_ ?_); rotate_right 2; rotate_left 1; (case _ => exact rfl); rotate_right 1)))) | fail "none")
  k_with "isTrue Compare" => (first | (k_dflt ((focus ((with_reducible refine' wpAny_isTrue_Compare1 ?_ ?_); rotate_right 2; rotate_left 1; (case _ => exact rfl); rotate_right 1)))) | fail "none")
  k_with "exec Assign" => (first | ((k_dflt (first | ((focus ((with_reducible refine' wpAny_Assign_Name ?_ ?_); rotate_right 2; rotate_left 1; (case _ => exact rfl); rotate_right 1))) | ((focus ((with_reducible refine' wpAny_Assign_Subscript ?_ ?_); rotate_right 2; rotate_left 1; (case _ => exact rfl); rotate_right 1))) | ((focus ((with_reducible refine' plainObj_wpAny_Assign_Attribute ?_ ?_); rotate_right 2; rotate_left 1; (case _ => exact rfl); rotate_right 1))) | ((focus ((with_reducible refine' Assign_Tuple ?_ ?_ ?_); rotate_right 3; rotate_left 1; (case _ => exact rfl); rotate_right 1; rotate_left 1; (case _ => exact rfl); rotate_right 1)))))) | fail "none")
  k_with "exec If" => (first | ((with_reducible refine' wpAny_If ?_)) | fail "none")
  k_with "exec Expr" => (first | ((with_reducible refine' wpAny_Expr_any ?_)) | fail "none")
  k_with "exec Assert" => (first | ((with_reducible refine' wpAny_Assert_holds ?_)) | fail "none")
  k_with "binaryOp Add int int" => (first | (((with_reducible refine' r_add ?_); intro zia zib)) | fail "none")
  k_with "binaryOp Sub int int" => (first | (((with_reducible refine' r_sub ?_); intro zia zib)) | fail "none")
  k_with "binaryOp Mod int int" => (first | (k_dflt (((focus ((with_reducible refine' r_modp ?_ ?_); rotate_right 2; (case _ => k_extra "sz")))); intro zia zib zic zid)) | fail "none")
  k_with "binaryOp Mult int int" => (first | (k_dflt (((focus ((with_reducible refine' r_mul ?_ ?_ ?_); rotate_right 3; (case _ => k_extra "sz"); (case _ => k_extra "sz")))); intro zia zib)) | fail "none")
  k_with "binaryOp FloorDiv int int" => (first | (k_dflt (((focus ((with_reducible refine' r_fdiv ?_ ?_ ?_); rotate_right 3; (case _ => k_extra "sz"); (case _ => k_extra "sz")))); intro zia zib)) | fail "none")
  k_with "binaryOp Add bytes bytes" => (first | (k_dflt (((focus ((with_reducible refine' r_badd ?_ ?_); rotate_right 2; (case _ => k_extra "sz")))); intro zia zib)) | fail "none")
  k_with "compareOp Lt int int" => (first | ((with_reducible refine' r_lt ?_)) | fail "none")
  k_with "compareOp Eq bytes bytes" => (first | ((with_reducible refine' r_beq ?_)) | fail "none")
  k_with "compareOp NotEq bytes bytes" => (first | ((with_reducible refine' r_bne ?_)) | fail "none")
  k_with "storeName" => (first | (k_dflt ((rename RC _ _ _ _ _ _ => zr0); ((focus ((with_reducible refine' r_store zr0 ?_ ?_ ?_); rotate_right 3; rotate_left 1; (case _ => kernel_rfl); (case _ => kernel_rfl)))); intro zia zib zr1; clear zr0)) | fail "none")
  k_with "setAttr ref" => (first | (k_dflt ((rename RC _ _ _ _ _ _ => zr0); ((focus ((with_reducible refine' r_setattr2 ?_ zr0 ?_ ?_ ?_ ?_ ?_ ?_ ?_ ?_ ?_ ?_); rotate_right 11; (case _ => exact rfl); (case _ => k_extra "asm"); (case _ => k_extra "lk"); (case _ => k_extra "lk"); (case _ => k_extra "setf"); (case _ => k_is); (case _ => k_is); (case _ => k_is); (case _ => k_is); (case _ => exact Nat.le_of_ble_eq_true rfl)))); intro zia zib zr1; clear zr0)) | fail "none")
  k_with "setf" => (first | (first | exact setF_nil | exact setF_hit (by decide) | exact setF_miss (by decide) (by first | k_extra "setf" | fail "none")) | fail "none")
  k_with "getAttr ref" => (first | (k_dflt (first | (((focus ((with_reducible refine' r_attr ?_ ?_ ?_ ?_ ?_ ?_ ?_ ?_ ?_ ?_ ?_); rotate_right 11; (case _ => k_extra "asm"); (case _ => k_extra "asm"); (case _ => k_extra "lk"); (case _ => k_extra "lk"); (case _ => k_is); (case _ => k_is); (case _ => k_is); (case _ => k_is); (case _ => exact rfl); (case _ => first | exact rfl | with_reducible assumption)))); intro zia) | (((focus ((with_reducible refine' r_clsattr ?_ ?_ ?_ ?_ ?_ ?_ ?_); rotate_right 7; (case _ => k_extra "asm"); (case _ => k_extra "asm"); (case _ => k_is); (case _ => k_is); (case _ => k_is); (case _ => k_handed)))); intro zia))) | fail "none")
  k_with "getMethod ref" => (first | (k_dflt (first | ((focus ((with_reducible refine' r_meth ?_ ?_ ?_ ?_ ?_ ?_ ?_ ?_ ?_); rotate_right 9; (case _ => k_extra "asm"); (case _ => k_extra "asm"); (case _ => k_extra "lk"); (case _ => k_extra "lk"); (case _ => k_is); (case _ => k_is); (case _ => k_is); (case _ => kernel_rfl)))) | (((focus ((with_reducible refine' r_methOwn ?_ ?_ ?_ ?_ ?_ ?_ ?_ ?_ ?_ ?_); rotate_right 10; (case _ => k_extra "asm"); (case _ => k_extra "asm"); (case _ => k_extra "lk"); (case _ => k_extra "lk"); (case _ => k_is); (case _ => k_is); (case _ => k_is); (case _ => exact rfl); (case _ => exact rfl)))); intro zia))) | fail "none")
  k_with "subscriptTail" => (first | (k_dflt (first | (((focus ((with_reducible refine' r_bitem ?_ ?_ ?_ ?_ ?_); rotate_right 5; rotate_left 4; (case _ => with_unfolding_all exact rfl); rotate_right 4; (case _ => k_extra "sz"); (case _ => k_extra "sz"); (case _ => k_extra "sz")))); intro zia zib) | (((focus ((with_reducible refine' r_item_ints ?_ ?_ ?_ ?_ ?_ ?_ ?_ ?_); rotate_right 8; (case _ => k_extra "asm"); (case _ => k_extra "lk"); (case _ => with_reducible assumption); rotate_left 4; (case _ => with_unfolding_all exact rfl); rotate_right 4; (case _ => k_extra "sz"); (case _ => k_extra "sz"); (case _ => k_extra "sz")))); intro zia) | ((focus ((with_reducible refine' r_item_list ?_ ?_ ?_ ?_ ?_ ?_ ?_); rotate_right 7; (case _ => k_extra "asm"); (case _ => k_extra "lk"); rotate_left 4; (case _ => with_unfolding_all exact rfl); rotate_right 4; (case _ => first | decide | k_extra "om"); (case _ => first | decide | k_extra "om"); (case _ => first | exact rfl | with_reducible assumption)))) | (((focus ((with_reducible refine' r_item_sd ?_ ?_ ?_ ?_ ?_); rotate_right 5; (case _ => k_extra "asm"); (case _ => k_extra "lk"); rotate_left 2; (case _ => with_unfolding_all exact rfl); rotate_right 2; (case _ => exact rfl)))); intro zia) | (((focus ((with_reducible refine' r_item_idH0 ?_ ?_ ?_ ?_ ?_); rotate_right 5; (case _ => k_extra "asm"); (case _ => with_reducible assumption); rotate_left 2; (case _ => with_unfolding_all exact rfl); rotate_right 2; (case _ => first | with_reducible assumption | exact rfl)))); intro zia) | (((focus ((with_reducible refine' r_baitem ?_ ?_ ?_ ?_ ?_ ?_ ?_); rotate_right 7; (case _ => k_extra "asm"); (case _ => k_extra "lk"); rotate_left 4; (case _ => with_unfolding_all exact rfl); rotate_right 4; (case _ => k_extra "sz"); (case _ => k_extra "sz"); (case _ => k_extra "sz")))); intro zia zib) | ((rename RC _ _ _ _ _ _ => zr0); ((focus ((with_reducible refine' r_bslice_hi zr0 ?_ ?_ ?_ ?_ ?_); rotate_right 5; rotate_left 3; (case _ => intro zia; with_unfolding_all exact rfl); rotate_right 3; rotate_left 3; (case _ => intro zia; with_unfolding_all exact rfl); rotate_right 3; (case _ => k_extra "sz"); (case _ => k_extra "sz")))); intro zia zib zic zr1; clear zr0) | ((rename RC _ _ _ _ _ _ => zr0); ((focus ((with_reducible refine' r_bslice_lo zr0 ?_ ?_ ?_ ?_ ?_); rotate_right 5; rotate_left 3; (case _ => intro zia; with_unfolding_all exact rfl); rotate_right 3; rotate_left 3; (case _ => intro zia; with_unfolding_all exact rfl); rotate_right 3; (case _ => k_extra "sz"); (case _ => k_extra "sz")))); intro zia zib zic zr1; clear zr0) | ((rename RC _ _ _ _ _ _ => zr0); ((focus ((with_reducible refine' r_bslice_both zr0 ?_ ?_ ?_ ?_ ?_ ?_); rotate_right 6; rotate_left 4; (case _ => intro zia; with_unfolding_all exact rfl); rotate_right 4; rotate_left 4; (case _ => intro zia; with_unfolding_all exact rfl); rotate_right 4; (case _ => k_extra "sz"); (case _ => k_extra "sz"); (case _ => k_extra "sz")))); intro zia zib zic zr1; clear zr0) | ((rename RC _ _ _ _ _ _ => zr0); ((focus ((with_reducible refine' r_baslice_hi zr0 ?_ ?_ ?_ ?_ ?_ ?_); rotate_right 6; rotate_left 5; (case _ => intro zia; with_unfolding_all exact rfl); rotate_right 5; (case _ => k_extra "sz"); (case _ => k_extra "lk"); rotate_left 1; (case _ => k_extra "sz"); rotate_right 1; (case _ => k_extra "sz")))); intro zia zib zic zid zr1; clear zr0) | ((rename RC _ _ _ _ _ _ => zr0); ((focus ((with_reducible refine' r_lslice zr0 ?_ ?_ ?_ ?_ ?_ ?_); rotate_right 6; rotate_left 5; (case _ => intro zia; with_unfolding_all exact rfl); rotate_right 5; (case _ => k_extra "sz"); (case _ => k_extra "isl"); rotate_left 1; (case _ => k_extra "sz"); rotate_right 1; (case _ => k_extra "sz")))); intro zia zib zic zr1; clear zr0))) | fail "none")
  k_with "isl" => (first | (first | with_reducible assumption | exact Heap.IsList.push (by with_reducible assumption) _ | exact RC.list (by with_reducible assumption) (by first | k_extra "lk" | fail "none")) | fail "none")
  k_with "setItem ref int" => (first | (k_dflt (first | ((rename RC _ _ _ _ _ _ => zr0); ((focus ((with_reducible refine' r_baset8 zr0 ?_ ?_ ?_ ?_ ?_); rotate_right 5; (case _ => k_extra "lk"); (case _ => k_extra "sz"); (case _ => k_extra "sz"); (case _ => k_extra "sz")))); intro zia zr1; clear zr0) | ((rename RC _ _ _ _ _ _ => zr0); ((focus ((with_reducible refine' r_basetitem zr0 ?_ ?_ ?_ ?_ ?_ ?_ ?_); rotate_right 7; (case _ => k_extra "lk"); (case _ => k_extra "sz"); (case _ => k_extra "sz"); (case _ => k_extra "sz"); (case _ => k_extra "sz"); (case _ => k_extra "sz")))); intro zia zr1; clear zr0) | ((rename RC _ _ _ _ _ _ => zr0); ((focus ((with_reducible refine' r_setitem zr0 ?_ ?_ ?_ ?_ ?_); rotate_right 5; (case _ => k_extra "lk"); (case _ => k_extra "sz"); (case _ => k_extra "sz"); (case _ => k_extra "sz")))); intro zia zr1; clear zr0))) | fail "none")
  k_with "getItem ref int" => (first | (k_dflt (((focus ((with_reducible refine' r_bagetitem ?_ ?_ ?_ ?_ ?_ ?_); rotate_right 6; (case _ => k_extra "asm"); (case _ => k_extra "lk"); (case _ => k_extra "sz"); (case _ => k_extra "sz"); (case _ => k_extra "sz")))); intro zia zib)) | fail "none")
  k_with "callWith" => (first | (k_dflt (first | ((focus ((with_reducible refine' PyProof.Rows.callWith_builtin1 ?_ ?_ ?_); rotate_right 3; rotate_left 1; (case _ => exact rfl); rotate_right 1; rotate_left 1; (case _ => exact rfl); rotate_right 1))) | ((focus ((with_reducible refine' PyProof.Rows.callWith_method1 ?_ ?_ ?_); rotate_right 3; rotate_left 1; (case _ => exact rfl); rotate_right 1; rotate_left 1; (case _ => exact rfl); rotate_right 1))) | ((focus ((with_reducible refine' PyProof.Rows.callWith_type1 ?_ ?_ ?_); rotate_right 3; rotate_left 1; (case _ => exact rfl); rotate_right 1; rotate_left 1; (case _ => exact rfl); rotate_right 1))) | (with_reducible refine' PyProof.Rows.callWith_method0 ?_))) | fail "none")
  k_with "callWith ref" => (first | (k_dflt (first | ((focus ((with_reducible refine' r_callK ?_ ?_ ?_ ?_ ?_); rotate_right 5; rotate_left 3; (case _ => exact rfl); rotate_right 3; rotate_left 3; (case _ => exact rfl); rotate_right 3; (case _ => k_extra "asm"); (case _ => k_is)))) | ((focus ((with_reducible refine' r_callK0 ?_ ?_ ?_ ?_); rotate_right 4; (case _ => k_extra "asm"); (case _ => k_extra "asm"); (case _ => k_is)))) | ((focus ((with_reducible refine' r_callKW ?_ ?_ ?_ ?_ ?_ ?_); rotate_right 6; rotate_left 5; (case _ => exact rfl); rotate_right 5; rotate_left 4; (case _ => exact rfl); rotate_right 4; rotate_left 2; (case _ => exact rfl); rotate_right 2; (case _ => k_extra "asm"); (case _ => k_is)))) | ((focus ((with_reducible refine' r_callKW0 ?_ ?_ ?_ ?_ ?_); rotate_right 5; rotate_left 4; (case _ => exact rfl); rotate_right 4; rotate_left 2; (case _ => exact rfl); rotate_right 2; (case _ => k_extra "asm"); (case _ => k_is)))))) | fail "none")
  k_with "spliced" => (first | (k_dflt (first | ((focus ((with_reducible refine' spliced_more ?_ ?_); rotate_right 2; rotate_left 1; (case _ => exact rfl); rotate_right 1))) | (with_reducible refine' spliced_none ?_))) | fail "none")
  k_with "And" => (first | (k_dflt ((with_reducible show Frag.In _ _ ∧ _); (refine' ⟨?_, ?_⟩; (exact Gd.at (by with_reducible assumption) (by with_reducible assumption))))) | fail "none")
  k_with "call builtin:len" => (first | (k_dflt (first | (((focus ((with_reducible refine' r_len_list ?_ ?_ ?_ ?_); rotate_right 4; (case _ => k_extra "asm"); (case _ => k_extra "lk"); (case _ => k_extra "sz")))); intro zia zib) | (((focus ((with_reducible refine' r_blen ?_ ?_); rotate_right 2; (case _ => k_extra "sz")))); intro zia zib))) | fail "none")
  k_with "eval Constant none" => (first | ((with_reducible refine' r_none ?_)) | fail "none")
  k_with "eval Constant bool" => (first | ((with_reducible refine' r_bool ?_)) | fail "none")
  k_with "eval UnaryOp" => (first | ((with_reducible refine' UnaryOp_ ?_)) | fail "none")
  k_with "eval IfExp" => (first | ((with_reducible refine' IfExp_ ?_)) | fail "none")
  k_with "eval Tuple" => (first | ((with_reducible refine' Tuple_ ?_)) | fail "none")
  k_with "eval List" => (first | ((with_reducible refine' List_ ?_)) | fail "none")
  k_with "eval Slice" => (first | ((with_reducible refine' wpAny_Slice ?_)) | fail "none")
  k_with "evalPart none" => (first | ((with_reducible refine' evalPart_none_step ?_)) | fail "none")
  k_with "evalPart some" => (first | ((with_reducible refine' evalPart_some_step ?_)) | fail "none")
  k_with "unaryOp Invert int" => (first | (((with_reducible refine' r_inv ?_); intro zia zib)) | fail "none")
  k_with "unaryOp USub int" => (first | (((with_reducible refine' r_neg ?_); intro zia zib)) | fail "none")
  k_with "unaryOp Not" => (first | ((with_reducible refine' not_of ?_)) | fail "none")
  k_with "truthy int" => (first | ((with_reducible refine' r_truthy_int ?_)) | fail "none")
  k_with "truthy bool" => (first | ((with_reducible refine' wpAny_truthy_bool ?_)) | fail "none")
  k_with "truthy ref" => (first | (k_dflt (((focus ((with_reducible refine' r_truthy_list ?_ ?_ ?_ ?_); rotate_right 4; (case _ => k_extra "asm"); (case _ => k_extra "lk"); (case _ => k_extra "sz")))); intro zia)) | fail "none")
  k_with "binaryOp BitAnd int int" => (first | ((first | (with_reducible refine' r_and15 ?_) | (with_reducible refine' r_and31 ?_) | (with_reducible refine' r_and3 ?_) | (with_reducible refine' r_and ?_)); intro zia zib) | fail "none")
  k_with "binaryOp BitOr int int" => (first | ((first | (with_reducible refine' r_or8 ?_) | (with_reducible refine' r_or ?_)); intro zia zib) | fail "none")
  k_with "binaryOp BitXor int int" => (first | ((first | (with_reducible refine' r_xor8 ?_) | (with_reducible refine' r_xor ?_)); intro zia zib) | fail "none")
  k_with "inplaceOp BitXor int int" => (first | ((first | (with_reducible refine' r_ixor8 ?_) | (with_reducible refine' r_ixor ?_)); intro zia zib) | fail "none")
  k_with "binaryOp LShift int int" => (first | (k_dflt (((focus ((with_reducible refine' r_shl ?_ ?_ ?_ ?_); rotate_right 4; (case _ => k_extra "sz"); (case _ => k_extra "sz"); (case _ => k_extra "sz")))); intro zia zib)) | fail "none")
  k_with "binaryOp Pow int int" => (first | (k_dflt (((focus ((with_reducible refine' r_pow ?_ ?_ ?_ ?_); rotate_right 4; (case _ => k_extra "sz"); (case _ => k_extra "sz"); (case _ => decide)))); intro zia zib)) | fail "none")
  k_with "compareOp Eq int int" => (first | ((with_reducible refine' r_eqi ?_)) | fail "none")
  k_with "compareOp NotEq int int" => (first | ((with_reducible refine' r_nei ?_)) | fail "none")
  k_with "compareOp Gt int int" => (first | ((with_reducible refine' r_gt ?_)) | fail "none")
  k_with "compareOp LtE int int" => (first | ((with_reducible refine' r_le ?_)) | fail "none")
  k_with "compareOp GtE int int" => (first | ((with_reducible refine' r_ge ?_)) | fail "none")
  k_with "compareOp Eq str str" => (first | (k_dflt (first | ((focus ((with_reducible refine' r_eqs (b := true) ?_ ?_); rotate_right 2; (case _ => decide)))) | ((focus ((with_reducible refine' r_eqs (b := false) ?_ ?_); rotate_right 2; (case _ => decide)))))) | fail "none")
  k_with "compareOp Is" => (first | (k_dflt (with_reducible refine' PySem.is_none ?_)) | fail "none")
  k_with "compareOp IsNot" => (first | (k_dflt (with_reducible refine' PySem.isNot_none ?_)) | fail "none")
  k_with "compareOp In" => (first | (k_dflt (first | ((focus ((with_reducible refine' r_in_btup ?_ ?_ ?_ ?_); rotate_right 4; (case _ => k_extra "asm"); (case _ => k_extra "lk"); (case _ => k_extra "bytesare")))) | ((focus ((with_reducible refine' r_in_ints ?_ ?_ ?_ ?_); rotate_right 4; (case _ => k_extra "asm"); (case _ => k_extra "lk"); (case _ => k_extra "intsare")))))) | fail "none")
  k_with "compareOp NotIn" => (first | (k_dflt ( ((focus ((with_reducible refine' r_notin_btup ?_ ?_ ?_ ?_); rotate_right 4; (case _ => k_extra "asm"); (case _ => k_extra "lk"); (case _ => k_extra "bytesare")))))) | fail "none")
  k_with "bytesare" => (first | (first | exact BytesAre.nil | exact BytesAre.cons _ _ (by first | k_extra "bytesare" | fail "none")) | fail "none")
  k_with "intsare" => (first | (first | with_reducible assumption | exact IntsAre.nil | exact IntsAre.cons _ _ (by first | k_extra "intsare" | fail "none")) | fail "none")
  k_with "call type:bool" => (first | (k_dflt (with_reducible refine' r_boolint ?_)) | fail "none")
  k_with "call type:int" => (first | (k_dflt (first | ((with_reducible refine' r_intbool ?_); intro zia zib) | (with_reducible refine' r_intint ?_))) | fail "none")
  k_with "call type:bytes" => (first | (k_dflt (first | (((focus ((with_reducible refine' r_bytes_zero ?_ ?_ ?_); rotate_right 3; (case _ => k_extra "sz"); (case _ => k_extra "sz")))); intro zia zib) | (((focus ((with_reducible refine' r_bytes_ba ?_ ?_ ?_ ?_); rotate_right 4; (case _ => k_extra "asm"); (case _ => k_extra "lk"); (case _ => k_extra "sz")))); intro zia zib) | ((rename RC _ _ _ _ _ _ => zr0); ((focus ((with_reducible refine' r_bytes_ints zr0 ?_ ?_ ?_ ?_ ?_ ?_); rotate_right 6; rotate_left 1; (case _ => k_extra "lk"); rotate_right 1; (case _ => exact Ok.hd (by first | k_extra "ok2" | fail "none")); (case _ => k_extra "intsare"); (case _ => k_extra "inr"); (case _ => k_extra "sz")))); intro zia zib zic zr1; clear zr0))) | fail "none")
  k_with "ok2" => (first | (first | with_reducible assumption | ((focus ((refine' Ok.deep (j := 0) ?_ ?_); rotate_right 2; (case _ => with_reducible assumption); (case _ => decide))))) | fail "none")
  k_with "inr" => (first | (first | exact List.forall_mem_nil _ | exact List.forall_mem_cons.mpr ⟨⟨(by first | k_extra "sz" | fail "none"), (by first | k_extra "sz" | fail "none")⟩, (by first | k_extra "inr" | fail "none")⟩) | fail "none")
  k_with "call builtin:max" => (first | (k_dflt ((rename RC _ _ _ _ _ _ => zr0); ((focus ((with_reducible refine' r_max ?_ zr0 ?_); rotate_right 2; (case _ => exact Ok.hd (by first | k_extra "ok2" | fail "none"))))); intro zia zib zic zr1; clear zr0)) | fail "none")
  k_with "getMethod int" => (first | (k_dflt (with_reducible refine' r_to_bytes_m ?_)) | fail "none")
  k_with "call builtin:int.to_bytes" => (first | (k_dflt (((focus ((with_reducible refine' r_to_bytes ?_ ?_ ?_ ?_ ?_); rotate_right 5; (case _ => k_extra "sz"); (case _ => k_extra "sz"); (case _ => k_extra "sz"); (case _ => k_extra "sz")))); intro zia zib)) | fail "none")
  k_with "getMethod type:int" => (first | (k_dflt ((rename RC _ _ _ _ _ _ => zr0); ((focus ((with_reducible refine' r_fb_m zr0 ?_ ?_ ?_ ?_); rotate_right 4; (case _ => k_extra "asm"); (case _ => k_extra "sz"); (case _ => k_is)))); intro zia zib zic zr1; clear zr0)) | fail "none")
  k_with "newList" => (first | (k_dflt ((rename RC _ _ _ _ _ _ => zr0); ((focus ((with_reducible refine' r_newlist zr0 ?_ ?_ ?_); rotate_right 3; (case _ => k_extra "sz"); (case _ => k_extra "sz")))); intro zia zib zic zr1; clear zr0)) | fail "none")
  k_with "newTuple" => (first | (k_dflt ((rename RC _ _ _ _ _ _ => zr0); ((focus ((with_reducible refine' r_newtuple zr0 ?_ ?_ ?_); rotate_right 3; (case _ => k_extra "sz"); (case _ => k_extra "sz")))); intro zia zib zic zr1; clear zr0)) | fail "none")
  k_with "binaryOp Add ref ref" => (first | (k_dflt ((rename RC _ _ _ _ _ _ => zr0); ((focus ((with_reducible refine' r_addlist zr0 ?_ ?_ ?_ ?_ ?_); rotate_right 5; (case _ => k_extra "sz"); (case _ => k_extra "lk"); (case _ => k_extra "lk"); (case _ => k_extra "sz")))); intro zia zib zic zr1; clear zr0)) | fail "none")
  k_with "exec AugAssign Subscript" => (first | ((k_dflt ((focus ((with_reducible refine' wpAny_AugAssign_SubscriptAny ?_ ?_); rotate_right 2; rotate_left 1; (case _ => intro zia zib zic; exact rfl); rotate_right 1))))) | fail "none")
  k_with "assign Tuple" => (first | (k_dflt ((rename RC _ _ _ _ _ _ => zr0); ((focus ((with_reducible refine' r_unpack zr0 ?_ ?_ ?_ ?_ ?_); rotate_right 5; (case _ => exact Ok.hd (by first | k_extra "ok2" | fail "none")); (case _ => k_extra "istup"); (case _ => exact rfl); (case _ => exact rfl)))); intro zia zr1; clear zr0; (try dsimp only [assignEach, List.map]))) | fail "none")
  k_with "istup" => (first | (first | exact RC.tup (by with_reducible assumption) (by first | k_extra "lk" | fail "none") | exact istup_ext (by with_reducible assumption) (by with_reducible assumption)) | fail "none")
  k_with "assignInOrder" => (first | (first | (with_reducible refine' assignInOrder_nil ?_) | (with_reducible refine' assignInOrder_cons ?_)) | fail "none")
  k_with "assignInOrder nil nil" => (first | ((with_reducible refine' assignInOrder_nil ?_)) | fail "none")
  k_with "assignInOrder cons cons" => (first | ((with_reducible refine' assignInOrder_cons ?_)) | fail "none")
  k_with "callWith ref" => (first | (k_dflt (first | ((focus ((with_reducible refine' r_callK ?_ ?_ ?_ ?_ ?_); rotate_right 5; rotate_left 3; (case _ => exact rfl); rotate_right 3; rotate_left 3; (case _ => exact rfl); rotate_right 3; (case _ => k_extra "asm"); (case _ => k_is)))) | ((focus ((with_reducible refine' r_callK0 ?_ ?_ ?_ ?_); rotate_right 4; (case _ => k_extra "asm"); (case _ => k_extra "asm"); (case _ => k_is)))) | ((focus ((with_reducible refine' r_callKW ?_ ?_ ?_ ?_ ?_ ?_); rotate_right 6; rotate_left 5; (case _ => exact rfl); rotate_right 5; rotate_left 4; (case _ => exact rfl); rotate_right 4; rotate_left 2; (case _ => exact rfl); rotate_right 2; (case _ => k_extra "asm"); (case _ => k_is)))) | ((focus ((with_reducible refine' r_callKW0 ?_ ?_ ?_ ?_ ?_); rotate_right 5; rotate_left 4; (case _ => exact rfl); rotate_right 4; rotate_left 2; (case _ => exact rfl); rotate_right 2; (case _ => k_extra "asm"); (case _ => k_is)))) | ((focus ((with_reducible refine' r_fb_cw ?_ ?_ ?_); rotate_right 3; rotate_left 1; (case _ => exact rfl); rotate_right 1; rotate_left 1; (case _ => exact rfl); rotate_right 1))))) | fail "none")
  k_with "And" => (first | (k_dflt (first | ((with_reducible show Frag.In _ _ ∧ _); (refine' ⟨?_, ?_⟩; (exact Gd.at (by with_reducible assumption) (by with_reducible assumption)))) | ((with_reducible show KFB.StandsAt _ _ ∧ _); (refine' ⟨?_, ?_⟩; (exact r_fb_stands (by with_reducible assumption) (by first | k_extra "lk" | fail "none")))))) | fail "none")
  k_with "call ref" => (first | (k_dflt (((focus ((with_reducible refine' r_fb ?_ ?_ ?_ ?_); rotate_right 4; (case _ => k_extra "asm"); (case _ => k_extra "lk"); (case _ => k_extra "sz")))); intro zia zib)) | fail "none")
  k_with "exec For" => (first | (k_dflt ((focus ((with_reducible refine' wpAny_For_noraise ?_ ?_); rotate_right 2; rotate_left 1; (case _ => intro zia; exact rfl); rotate_right 1)))) | fail "none")
  k_with "exec For Name" => (first | (k_dflt ((focus ((with_reducible refine' wpAny_For_noraise ?_ ?_); rotate_right 2; rotate_left 1; (case _ => intro zia; exact rfl); rotate_right 1)))) | fail "none")
  k_with "exec For Name Call" => (first | (k_dflt ((focus ((with_reducible refine' wpAny_For_noraise ?_ ?_); rotate_right 2; rotate_left 1; (case _ => intro zia; exact rfl); rotate_right 1)))) | fail "none")
  k_with "exec For Name Call cons nil" => (first | (k_dflt ((focus ((with_reducible refine' wpAny_For_noraise ?_ ?_); rotate_right 2; rotate_left 1; (case _ => intro zia; exact rfl); rotate_right 1)))) | fail "none")
  k_with "call type:range" => (first | (k_dflt ((rename RC _ _ _ _ _ _ => zr0); ((focus ((with_reducible refine' r_range zr0 ?_ ?_); rotate_right 2; (case _ => k_extra "sz")))); intro zia zib zic zid zie zif zr1; clear zr0)) | fail "none")
  k_with "pyIter ref" => (first | (k_dflt ((rename RC _ _ _ _ _ _ => zr0); ((focus ((with_reducible refine' r_iter_range zr0 ?_ ?_ ?_ ?_ ?_); rotate_right 5; (case _ => k_extra "sz"); (case _ => k_extra "lk"); (case _ => k_extra "sz"); (case _ => k_extra "sz")))); intro zia zib zic zr1; clear zr0)) | fail "none")
  k_with "binaryOp RShift int int" => (first | (k_dflt (((focus ((with_reducible refine' r_shr ?_ ?_); rotate_right 2; (case _ => k_extra "sz")))); intro zia zib)) | fail "none")
  k_with "compareOp IsNot ref ref" => (first | (k_dflt (first | (with_reducible refine' r_isnot_self ?_) | ((focus ((with_reducible refine' r_isnot_inst ?_ ?_ ?_ ?_ ?_); rotate_right 5; (case _ => k_extra "asm"); (case _ => k_extra "lk"); (case _ => k_extra "lk"); (case _ => k_extra "ne")))))) | fail "none")
  k_with "s" => (first | (first | (((with_reducible show wpAny _ _ _ _ _ _) <;> walk1)) | (((with_reducible show _ ∧ _) <;> walk1)) | (with_reducible refine' ite_tt ?_) | (with_reducible refine' ite_ff ?_) | (dsimp only [List.nil_append, List.cons_append]; ((with_reducible show wpAny _ _ _ _ _ _) <;> walk1))) | fail "none")
  k_with "go" => (((repeat k_extra "s"); try dsimp only))
  k_with "def" => (first | (( (case G => k_extra "asm"); (case ho => k_is); (case hcd => k_is); (case hbind => exact BindsTo.of_eq rfl); (case hloc => exact rfl); (case hco => exact rfl); (case hgen => exact rfl); (case hk => exact rfl); (case hcell => decide))) | fail "none")
  k_with "new" => (first | (( (case G => k_extra "asm"); (case hkk => decide); (case hm => k_is); (case hi => k_is); (case hf => k_is); (case ho => k_is); (case hcd => k_is); (case hbind => first | exact fun _ _ _ => BindsTo.of_eq rfl | exact fun _ _ X => binds_K X rfl (by k_is) rfl rfl rfl); (case hloc => intro zia; exact rfl); (case hco => exact rfl); (case hgen => exact rfl); (case hk => exact rfl); (case hcell => decide))) | fail "none")
  k_with "ne" => (first | exact NE.ne (by with_reducible assumption) | exact NE.en (by with_reducible assumption) | fail "none")
  k_with "assign Subscript" => (first | (with_reducible refine' kas_sub ?_) | fail "none")
  k_with "nn" => (first | ((focus ((with_reducible refine' Bnd.nn ?_ ?_); rotate_right 2; (case _ => with_reducible assumption); (case _ => k_extra "om")))) | fail "none")
  k_with "le" => (first | ((focus ((with_reducible refine' PH.le_new ?_ ?_); rotate_right 2; rotate_left 1; (case _ => k_extra "nn"); rotate_right 1; (case _ => k_extra "le")))) | fail "none")
  k_with "keepi" => (first | ((focus ((with_reducible refine' KeepI.new ?_ ?_); rotate_right 2; rotate_left 1; (case _ => k_extra "nn"); rotate_right 1; (case _ => k_extra "keepi")))) | fail "none")
  k_with "only" => (first | ((focus ((with_reducible refine' Only.new _ ?_ ?_); rotate_right 2; rotate_left 1; (case _ => k_extra "nn"); rotate_right 1; (case _ => k_extra "only")))) | fail "none")
  k_with "0" => (try dsimp only)
  k_with "1" => ((iterate 1 k_extra "s"); try dsimp only)
  k_with "2" => ((iterate 2 k_extra "s"); try dsimp only)
  k_with "3" => ((iterate 3 k_extra "s"); try dsimp only)
  k_with "4" => ((iterate 4 k_extra "s"); try dsimp only)
  k_with "5" => ((iterate 5 k_extra "s"); try dsimp only)
  k_with "6" => ((iterate 6 k_extra "s"); try dsimp only)
  k_with "7" => ((iterate 7 k_extra "s"); try dsimp only)
  k_with "8" => ((iterate 8 k_extra "s"); try dsimp only)
  k_with "9" => ((iterate 9 k_extra "s"); try dsimp only)
  k_with "10" => ((iterate 10 k_extra "s"); try dsimp only)
  k_with "11" => ((iterate 11 k_extra "s"); try dsimp only)
  k_with "12" => ((iterate 12 k_extra "s"); try dsimp only)
  k_with "13" => ((iterate 13 k_extra "s"); try dsimp only)
  k_with "14" => ((iterate 14 k_extra "s"); try dsimp only)
  k_with "15" => ((iterate 15 k_extra "s"); try dsimp only)
  k_with "16" => ((iterate 16 k_extra "s"); try dsimp only)
  k_with "17" => ((iterate 17 k_extra "s"); try dsimp only)
  k_with "18" => ((iterate 18 k_extra "s"); try dsimp only)
  k_with "19" => ((iterate 19 k_extra "s"); try dsimp only)
  k_with "20" => ((iterate 20 k_extra "s"); try dsimp only)
  k_with "21" => ((iterate 21 k_extra "s"); try dsimp only)
  k_with "22" => ((iterate 22 k_extra "s"); try dsimp only)
  k_with "23" => ((iterate 23 k_extra "s"); try dsimp only)
  k_with "24" => ((iterate 24 k_extra "s"); try dsimp only)
  k_with "25" => ((iterate 25 k_extra "s"); try dsimp only)
  k_with "26" => ((iterate 26 k_extra "s"); try dsimp only)
  k_with "27" => ((iterate 27 k_extra "s"); try dsimp only)
  k_with "28" => ((iterate 28 k_extra "s"); try dsimp only)
  k_with "30" => ((iterate 30 k_extra "s"); try dsimp only)
  k_with "31" => ((iterate 31 k_extra "s"); try dsimp only)
  k_with "32" => ((iterate 32 k_extra "s"); try dsimp only)
  k_with "33" => ((iterate 33 k_extra "s"); try dsimp only)
  k_with "34" => ((iterate 34 k_extra "s"); try dsimp only)
  k_with "35" => ((iterate 35 k_extra "s"); try dsimp only)
  k_with "36" => ((iterate 36 k_extra "s"); try dsimp only)
  k_with "37" => ((iterate 37 k_extra "s"); try dsimp only)
  k_with "39" => ((iterate 39 k_extra "s"); try dsimp only)
  k_with "40" => ((iterate 40 k_extra "s"); try dsimp only)
  k_with "41" => ((iterate 41 k_extra "s"); try dsimp only)
  k_with "42" => ((iterate 42 k_extra "s"); try dsimp only)
  k_with "43" => ((iterate 43 k_extra "s"); try dsimp only)
  k_with "47" => ((iterate 47 k_extra "s"); try dsimp only)
  k_with "48" => ((iterate 48 k_extra "s"); try dsimp only)
  k_with "52" => ((iterate 52 k_extra "s"); try dsimp only)
  k_with "81" => ((iterate 81 k_extra "s"); try dsimp only)
  trivial
theorem nle_tr {a b c : Nat} (h1 : a ≤ b) (h2 : b ≤ c) : a ≤ c := Nat.le_trans h1 h2
theorem nlt_le {a b c : Nat} (h1 : a < b) (h2 : b ≤ c) : a < c := Nat.lt_of_lt_of_le h1 h2
theorem runs_size_le {M : Model} {Γ : PySem.Ctx} {p : Pos} {t : Sem Fin} {fs : List Frame} {s s' : Shared} {e : End} (h : Runs M Γ p t fs s e s') : s.heap.objs.size ≤ s'.heap.objs.size := by
  induction h <;> (try simp only [Shared.setGen, Heap.size_push, Heap.size_after_update] at *) <;> walk_at "om"
theorem wakes_size_le {M : Model} {Γ : PySem.Ctx} {p : Pos} {g : Nat} {r : Resume} {s s' : Shared} {res : GenResult} (h : Wakes M Γ p g r s res s') : s.heap.objs.size ≤ s'.heap.objs.size := by
  unfold Wakes at h
  split at h
  · exact h.elim
  · split at h
    · obtain ⟨e₁, s₁, hr, _, _, rfl⟩ := h; exact (runs_size_le hr : (s.setGen g .running).heap.objs.size ≤ s₁.heap.objs.size)
    · rw [h.2]; exact Nat.le_refl _
    · rw [h.2]; exact Nat.le_refl _
  · obtain ⟨e₁, s₁, hr, _, _, rfl⟩ := h; exact (runs_size_le hr : (s.setGen g .running).heap.objs.size ≤ s₁.heap.objs.size)
  · rw [h.2]; exact Nat.le_refl _
  · rw [h.2]; exact Nat.le_refl _
theorem wp_size {α : Type} (M : Model) (Γ : PySem.Ctx) (n : Nat) (t : Sem α) : ∀ (Q : α → Pos → Shared → Prop) (E : Value → Pos → Shared → Prop) (p : Pos) (s : Shared), n ≤ s.heap.objs.size → Sem.wp M Γ t Q E p s →
    Sem.wp M Γ t (fun a p' s' => n ≤ s'.heap.objs.size ∧ Q a p' s') (fun e p' s' => n ≤ s'.heap.objs.size ∧ E e p' s') p s := by
  induction t with
  | pure a => intro Q E p s hn h; exact ⟨hn, h⟩
  | raise e => intro Q E p s hn h; exact ⟨hn, h⟩
  | unsupported _ => intro Q E p s _ h; exact h
  | finish _ => intro Q E p s _ h; exact h
  | rule _ k ih => intro Q E p s hn h; exact ih () Q E p s hn h
  | «at» p' k ih => intro Q E p s hn h; exact ih () Q E p' s hn h
  | load a _ k ih => intro Q E p s hn h; obtain ⟨o, ho, h⟩ := h; exact ⟨o, ho, ih o Q E p s hn h⟩
  | update a _ f k ih => intro Q E p s hn h; exact ⟨h.1, ih () Q E p _ (by simpa using hn) h.2⟩
  | loadIfAlive a k ih => intro Q E p s hn h; exact ih _ Q E p s hn h
  | point _ k ih => intro Q E p s hn h; exact ih () Q E p s hn h
  | register _ _ => intro Q E p s _ h; exact h
  | alloc o k ih => intro Q E p s hn h; exact ih _ Q E p _ (by rw [Heap.size_push]; walk_at "om") h
  | fresh k ih => intro Q E p s hn h; exact ih _ Q E p _ hn h
  | ask k ih => intro Q E p s hn h; exact ih _ Q E p s hn h
  | choose src m k ih => intro Q E p s hn h; exact ⟨h.1, ih _ Q E p _ hn h.2⟩
  | os q _ k ih => intro Q E p s hn h; exact ih _ Q E p _ hn h
  | call c hd _ _ k ih => intro Q E p s hn h; obtain ⟨r, s', hr, h⟩ := h; exact ⟨r, s', hr, ih r Q E p s' (Nat.le_trans hn (runs_size_le hr)) h⟩
  | handled own k ih => intro Q E p s hn h; exact ih _ Q E p s hn h
  | genState g k ih => intro Q E p s hn h; obtain ⟨st, hs, h⟩ := h; exact ⟨st, hs, ih _ Q E p s hn h⟩
  | newGen c k ih => intro Q E p s hn h; exact ih _ Q E p _ hn h
  | resume g r _ k ih => intro Q E p s hn h; obtain ⟨res, s', hw, h⟩ := h; exact ⟨res, s', hw, ih res Q E p s' (Nat.le_trans hn (wakes_size_le hw)) h⟩
  | yield _ _ _ _ => intro Q E p s _ h; exact h
  | stack k ih => intro Q E p s hn h; exact ih _ Q E p s hn h
  | fork _ _ => intro Q E p s _ h; exact h
  | thread k ih => intro Q E p s hn h; exact ih _ Q E p s hn h
  | await _ _ _ _ _ => intro Q E p s _ h; exact h
theorem with_size {α : Type} {M : Model} {A : Around} {s : Shared} {t : Sem α} {Q : α → Shared → Prop} {E : Value → Shared → Prop}
    (h : wpAny M A t (fun a s' => s.heap.objs.size ≤ s'.heap.objs.size → Q a s') (fun e s' => s.heap.objs.size ≤ s'.heap.objs.size → E e s') s) : wpAny M A t Q E s :=
  fun Γ p hΓ => Sem.wp_mono M Γ t (fun _ _ _ x => x.2 x.1) (fun _ _ _ x => x.2 x.1) p s (wp_size M Γ _ t _ _ p s (Nat.le_refl _) (h Γ p hΓ))
abbrev Map := Str → Option Value
noncomputable def upd (m : Map) (x : Str) (v : Value) : Map := fun y => if y = x then some v else m y
theorem ltsz {h : Heap} {a : Nat} {o : Obj} (e : h.get? a = some o) : a < h.objs.size := Heap.lt_size e
inductive AO where
  | inst (C d : Nat)
  | dic (fs : List (Str × Value))
  | lst (vs : List Value)
  | tup (vs : List Value)
  | ba (b : List UInt8)
  | raw (o : Obj)
  | prp (p : Obj → Prop)
noncomputable def Ent (P : Params) (e : DictEntry) (f : Str × Value) : Prop := e.hash = PyData.keyHash P f.1 ∧ (∃ t, e.key = .str f.1 t) ∧ e.val = f.2
inductive Ents (P : Params) : List DictEntry → List (Str × Value) → Prop
  | nil : Ents P [] []
  | cons {e f es fs} : Ent P e f → Ents P es fs → Ents P (e :: es) (f :: fs)
noncomputable def AO.Is (P : Params) : AO → Obj → Prop
  | .inst C d, o => o = instObj C d
  | .dic fs, o => ∃ es k, o = dictOf es k ∧ Ents P es fs
  | .lst vs, o => ∃ k, o = { cls := .type "list", data := .seq vs.toArray k }
  | .tup vs, o => ∃ k, o = { cls := .type "tuple", data := .seq vs.toArray k }
  | .ba b, o => o = { cls := .type "bytearray", data := .bytearray b.toArray 0 }
  | .raw o', o => o = o'
  | .prp p, o => p o
abbrev PH := Nat → Option AO
noncomputable def PH.set (H : PH) (a : Nat) (x : AO) : PH := fun b => if b = a then some x else H b
theorem PH.set_self (H : PH) (a : Nat) (x : AO) : (H.set a x) a = some x := by simp [PH.set]
theorem PH.set_ne {H : PH} {a b : Nat} {x : AO} (h : b ≠ a) : (H.set a x) b = H b := by simp [PH.set, h]
theorem PH.set_at {H : PH} {a b : Nat} {x y : AO} (h : b ≠ a) (e : H b = some y) : (H.set a x) b = some y := by rw [PH.set_ne h, e]
theorem PH.set_set (H : PH) (a : Nat) (x y : AO) : (H.set a x).set a y = H.set a y := by
  funext b; simp only [PH.set]; split <;> rfl
noncomputable def PH.le (H H' : PH) : Prop := ∀ a x, H a = some x → H' a = some x
theorem PH.le_refl (H : PH) : H.le H := fun _ _ e => e
theorem PH.le_trans {H H' H'' : PH} (a : H.le H') (b : H'.le H'') : H.le H'' := fun x y e => b x y (a x y e)
theorem PH.le_set {H H' : PH} (a : Nat) (x : AO) (h : H.le H') : (H.set a x).le (H'.set a x) := fun b y e => by
  simp only [PH.set] at e ⊢
  split at e <;> simp_all
  exact h _ _ e
theorem PH.le_new {H H' : PH} {a : Nat} {x : AO} (h : H.le H') (ha : H a = none) : H.le (H'.set a x) := fun b y e => by
  simp only [PH.set]
  split
  · rename_i q; subst q; rw [ha] at e; cases e
  · exact h _ _ e
structure RC (P : Params) (H0 : Heap) (fs : List (Nat × Map)) (H : PH) (n : Nat) (h : Heap) : Prop where
  ext : ∀ b o, H0.get? b = some o → h.get? b = some o
  sz : n ≤ h.objs.size
  at_ : ∀ a x, H a = some x → (∃ o, h.get? a = some o ∧ x.Is P o) ∧ H0.objs.size ≤ a ∧ a < n ∧ ∀ p ∈ fs, a ≠ p.1
  fr : ∀ p ∈ fs, h.Ns p.1 p.2 ∧ H0.objs.size ≤ p.1 ∧ p.1 < n
  nd : fs.Pairwise (fun p q => p.1 ≠ q.1)
section
variable {P : Params} {H0 h : Heap} {fs : List (Nat × Map)} {H : PH} {n : Nat} {L : Nat} {m : Map}
theorem RC.lt (R : RC P H0 fs H n h) {a : Nat} {x : AO} (e : H a = some x) : a < n := (R.at_ a x e).2.2.1
theorem RC.ge (R : RC P H0 fs H n h) {a : Nat} {x : AO} (e : H a = some x) : H0.objs.size ≤ a := (R.at_ a x e).2.1
theorem RC.obj (R : RC P H0 fs H n h) {a : Nat} {x : AO} (e : H a = some x) : ∃ o, h.get? a = some o ∧ x.Is P o := (R.at_ a x e).1
theorem RC.Fr (R : RC P H0 ((L, m) :: fs) H n h) : Fr H0 L h m := ⟨(R.fr _ (.head _)).1, R.ext, (R.fr _ (.head _)).2.1⟩
theorem RC.none_new (R : RC P H0 fs H n h) {a : Nat} (ha : n ≤ a) : H a = none := by
  cases e : H a with
  | none => rfl
  | some x => have := R.lt e; walk_at "om"
theorem RC.old_none (_R : RC P H0 fs H n h) {a : Nat} (ha : H0.objs.size ≤ a) : H0.get? a = none := by
  cases e : H0.get? a with
  | none => rfl
  | some x => have := ltsz e; walk_at "om"
theorem RC.kept {h' : Heap} (R : RC P H0 fs H n h) (k : ∀ b o, h.get? b = some o → h'.get? b = some o) (hs : h.objs.size ≤ h'.objs.size) : RC P H0 fs H n h' where
  ext := fun b o e => k b o (R.ext b o e)
  sz := Nat.le_trans R.sz hs
  at_ := fun a x e => let ⟨⟨o, ho, hi⟩, r⟩ := R.at_ a x e; ⟨⟨o, k _ _ ho, hi⟩, r⟩
  fr := fun p hp => let ⟨a, b⟩ := R.fr p hp; ⟨let ⟨o, es, ep, ho, r⟩ := a; ⟨o, es, ep, k _ _ ho, r⟩, b⟩
  nd := R.nd
theorem RC.weak {H' : PH} (R : RC P H0 fs H n h) (l : H'.le H) : RC P H0 fs H' n h where
  ext := R.ext
  sz := R.sz
  at_ := fun a x e => R.at_ a x (l a x e)
  fr := R.fr
  nd := R.nd
theorem RC.pop {p : Nat × Map} (R : RC P H0 (p :: fs) H n h) : RC P H0 fs H n h where
  ext := R.ext
  sz := R.sz
  at_ := fun a x e => let ⟨p, q, r, t⟩ := R.at_ a x e; ⟨p, q, r, fun y hy => t y (.tail _ hy)⟩
  fr := fun p hp => R.fr p (.tail _ hp)
  nd := (List.pairwise_cons.mp R.nd).2
theorem RC.push {o : Obj} {x : AO} (R : RC P H0 fs H n h) (hx : x.Is P o) (hf : o.isFreed = false := by rfl) (hz : H0.objs.size ≤ h.objs.size) : RC P H0 fs (H.set h.objs.size x) (h.objs.size + 1) (h.push o) where
  ext := fun b o' e => Heap.get?_push_of_some _ (R.ext b o' e)
  sz := by rw [Heap.size_push]; exact Nat.le_refl _
  at_ := fun a y e => by
    simp only [PH.set] at e
    split at e
    · rename_i q; subst q; cases e
      refine ⟨⟨o, Heap.get?_push_size _ hf, hx⟩, hz, Nat.lt_succ_self _, fun p hp q => ?_⟩
      have := (R.fr p hp).2.2
      have := R.sz
      walk_at "om"
    · obtain ⟨⟨o', ho, hi⟩, g, l, t⟩ := R.at_ a y e
      exact ⟨⟨o', Heap.get?_push_of_some _ ho, hi⟩, g, by have := R.sz; omega, t⟩
  fr := fun p hp => by
    obtain ⟨⟨o', es, ep, ho, r⟩, b, c⟩ := R.fr p hp
    exact ⟨⟨o', es, ep, Heap.get?_push_of_some _ ho, r⟩, b, by have := R.sz; walk_at "om"⟩
  nd := R.nd
theorem RC.pushed {o : Obj} (R : RC P H0 fs H n h) : RC P H0 fs H n (h.push o) :=
  R.kept (fun _ _ e => Heap.get?_push_of_some _ e) (by rw [Heap.size_push]; walk_at "om")
theorem RC.put {h' : Heap} {a : Nat} {x y : AO} {o' : Obj} (R : RC P H0 fs H n h) (e : H a = some x) (ho : h'.get? a = some o') (hy : y.Is P o')
    (k : ∀ b o, b ≠ a → h.get? b = some o → h'.get? b = some o) (hs : h.objs.size ≤ h'.objs.size) : RC P H0 fs (H.set a y) n h' where
  ext := fun b o e' => by
    refine k b o (fun q => ?_) (R.ext b o e')
    subst q
    have := ltsz e'
    have := R.ge e
    walk_at "om"
  sz := Nat.le_trans R.sz hs
  at_ := fun b z e' => by
    simp only [PH.set] at e'
    split at e'
    · rename_i q; subst q; cases e'
      exact ⟨⟨o', ho, hy⟩, (R.at_ _ _ e).2⟩
    · rename_i q
      obtain ⟨⟨o, ho', hi⟩, r⟩ := R.at_ b z e'
      exact ⟨⟨o, k _ _ q ho', hi⟩, r⟩
  fr := fun p hp => by
    obtain ⟨⟨o, es, ep, ho', r⟩, b⟩ := R.fr p hp
    exact ⟨⟨o, es, ep, k _ _ (fun q => (R.at_ _ _ e).2.2.2 p hp q.symm) ho', r⟩, b⟩
  nd := R.nd
theorem RC.store {h' : Heap} {m' : Map} (R : RC P H0 ((L, m) :: fs) H n h) (hn : h'.Ns L m') (k : Heap.SameBut L h h') : RC P H0 ((L, m') :: fs) H n h' where
  ext := fun b o e => by
    refine (k.2 b fun q => ?_).trans (R.ext b o e)
    subst q
    have := ltsz e
    have := (R.fr _ (.head _)).2.1
    walk_at "om"
  sz := by rw [k.1]; exact R.sz
  at_ := fun a x e => by
    obtain ⟨⟨o, ho, hi⟩, g, l, t⟩ := R.at_ a x e
    refine ⟨⟨o, (k.2 a (t (L, m) (.head _))).trans ho, hi⟩, g, l, fun p hp => ?_⟩
    rcases List.mem_cons.mp hp with rfl | hp
    · exact t (L, m) (.head _)
    · exact t p (.tail _ hp)
  fr := fun p hp => by
    rcases List.mem_cons.mp hp with rfl | hp
    · exact ⟨hn, (R.fr (L, m) (.head _)).2⟩
    · obtain ⟨a, b⟩ := R.fr p (.tail _ hp)
      exact ⟨a.sameBut k fun q => (List.pairwise_cons.mp R.nd).1 p hp q.symm, b⟩
  nd := by
    have := List.pairwise_cons.mp R.nd
    exact List.pairwise_cons.mpr ⟨this.1, this.2⟩
theorem RC.enter {h' : Heap} {m' : Map} (R : RC P H0 fs H n h) (hz : H0.objs.size ≤ h.objs.size) (hn : h'.Ns h.objs.size m') (k : ∀ b o, h.get? b = some o → h'.get? b = some o) :
    RC P H0 ((h.objs.size, m') :: fs) H (h.objs.size + 1) h' where
  ext := fun b o e => k b o (R.ext b o e)
  sz := hn.lt
  at_ := fun a x e => by
    obtain ⟨⟨o, ho, hi⟩, g, l, t⟩ := R.at_ a x e
    have := R.sz
    refine ⟨⟨o, k _ _ ho, hi⟩, g, by omega, fun p hp => ?_⟩
    rcases List.mem_cons.mp hp with rfl | hp
    · show a ≠ h.objs.size; walk_at "om"
    · exact t p hp
  fr := fun p hp => by
    have := R.sz
    rcases List.mem_cons.mp hp with rfl | hp
    · exact ⟨hn, hz, Nat.lt_succ_self _⟩
    · obtain ⟨⟨o, es, ep, ho, r⟩, b, c⟩ := R.fr p hp
      exact ⟨⟨o, es, ep, k _ _ ho, r⟩, b, by walk_at "om"⟩
  nd := List.pairwise_cons.mpr ⟨fun p hp q => by have := (R.fr p hp).2.2; have := R.sz; simp only at q; omega, R.nd⟩
end
structure Gd (K : Frag) (H0 : Heap) : Prop where
  X : K.In H0
  T : ∃ p loose mg mb, TopRead p loose mg mb H0
structure Ok (A : Around) (k : Nat) : Prop where
  hd : A.handled = none
  dp : A.depth + k < 900
  un : A.units + 10 * k < 9000
theorem Ok.room {A : Around} {k : Nat} (O : Ok A k) : A.depth < recursionLimit := by have := O.dp; show _ < 1000; walk_at "om"
theorem Ok.deep {A : Around} {k j : Nat} {env : Env} (O : Ok A k) (h : j + 1 ≤ k) : Ok (A.deeper env) j :=
  ⟨O.hd, by have := O.dp; show A.depth + 1 + j < 900; omega, by have := O.un; show A.units + 3 + 10 * j < 9000; walk_at "om"⟩
theorem Ok.le {A : Around} {k j : Nat} (O : Ok A k) (h : j ≤ k) : Ok A j := ⟨O.hd, by have := O.dp; omega, by have := O.un; walk_at "om"⟩
theorem Ok.in1 {A : Around} {k j : Nat} (O : Ok A k) (h : j + 1 ≤ k) : Ok A.in1 j := ⟨O.hd, by have := O.dp; show A.depth + j < 900; omega, by have := O.un; show A.units + 1 + 10 * j < 9000; walk_at "om"⟩
theorem Ok.make {A : Around} {k j : Nat} {C : Addr} {rest : List Value} {kw : List (Str × Value)} (O : Ok A k) (h : j + 1 ≤ k) : Ok (A.under (.builtin "type.__call__" ⟨.ref C :: rest, kw⟩)) j :=
  ⟨O.hd, by have := O.dp; rw [depth_under_kw]; omega, by have := O.un; show A.units + 1 + 10 * j < 9000; walk_at "om"⟩
section
variable {prog : Program} {w : World} {A : Around} {K : Frag} {H0 h : Heap} {fs : List (Nat × Map)} {H : PH} {n : Nat} {L : Nat} {m : Map} {g : Array GenState} {d : Drawn} {tk : Nat} {os : OsState}
  {E : Value → Shared → Prop} {P : Params}
theorem Gd.at (G : Gd K H0) (R : RC P H0 fs H n h) : K.In h := G.X.keeps R.ext
theorem Gd.nolimit (G : Gd K H0) (R : RC P H0 fs H n h) : h.NoLimit := let ⟨_, _, _, _, T⟩ := G.T; T.nolimit.keeps R.ext
theorem q_abs {α : Type} {M : Model} {A : Around} {t : Sem α} {Q : α → Shared → Prop} {E : Value → Shared → Prop} {s : Shared} (h : ∀ Q' : α → Shared → Prop, (∀ a s, Q a s → Q' a s) → wpAny M A t Q' E s) : wpAny M A t Q E s := h Q (fun _ _ x => x)
theorem r_local {cn : Str} {cs : Scope} {f : Addr} {cdv : Value} {x : Str} {pos : Pos} {v : Value} {Q : Value → Shared → Prop} (R : RC P H0 ((L, m) :: fs) H n h) (hv : m x = some v) (k : Q v ⟨h, g, d, tk, os⟩)
    (hk : cs.kind = .function := by rfl) (hl : (envOf cn cs L f cdv).kindOf x = some .local := by rfl) (hd : (x == ("__debug__" : Str)) = false := by decide) :
    wpAny (model prog w) A (eval (.Name x pos) (envOf cn cs L f cdv)) Q E ⟨h, g, d, tk, os⟩ := ld R.Fr hv k hk hl hd
theorem r_glob {cn : Str} {cs : Scope} {f : Addr} {cdv : Value} {x : Str} {pos : Pos} {v : Value} {Q : Value → Shared → Prop} (R : RC P H0 ((L, m) :: fs) H n h) (G : Gd K H0) (e : nsIn K mainGlobals x = some (some v)) (k : Q v ⟨h, g, d, tk, os⟩)
    (hk : cs.kind = .function := by rfl) (hx : (envOf cn cs L f cdv).kindOf x = some .globalImplicit := by rfl) (hd : (x == ("__debug__" : Str)) = false := by decide) :
    wpAny (model prog w) A (eval (.Name x pos) (envOf cn cs L f cdv)) Q E ⟨h, g, d, tk, os⟩ :=
  let ⟨_, _, _, _, T⟩ := G.T; name_K (s := ⟨h, g, d, tk, os⟩) R.Fr G.X T e k hk hx hd
theorem r_built {cn : Str} {cs : Scope} {f : Addr} {cdv : Value} {x : Str} {pos : Pos} {v : Value} {Q : Value → Shared → Prop} (R : RC P H0 ((L, m) :: fs) H n h) (G : Gd K H0) (e : nsIn K mainGlobals x = some none) (hv : bootBuiltins x = some v) (k : Q v ⟨h, g, d, tk, os⟩)
    (hn : x ≠ "__name__" := by decide) (hk : cs.kind = .function := by rfl) (hx : (envOf cn cs L f cdv).kindOf x = some .globalImplicit := by rfl) (hd : (x == ("__debug__" : Str)) = false := by decide) :
    wpAny (model prog w) A (eval (.Name x pos) (envOf cn cs L f cdv)) Q E ⟨h, g, d, tk, os⟩ :=
  let ⟨_, _, _, _, T⟩ := G.T; name_B (s := ⟨h, g, d, tk, os⟩) R.Fr G.X T e hv hn k hk hx hd
theorem r_store {cn : Str} {cs : Scope} {f : Addr} {cdv : Value} {x : Str} {v : Value} {Q : Unit → Shared → Prop} (R : RC P H0 ((L, m) :: fs) H n h)
    (k : ∀ h' tk', RC P H0 ((L, upd m x v) :: fs) H n h' → Q () ⟨h', g, d, tk', os⟩)
    (hk : cs.kind = .function := by rfl) (hl : (envOf cn cs L f cdv).kindOf x = some .local := by rfl) :
    wpAny (model prog w) A (storeName (envOf cn cs L f cdv) x v) Q E ⟨h, g, d, tk, os⟩ :=
  wpAny_storeName_local hl R.Fr.ns (fun h' hn hs => k h' _ (R.store hn hs))
    (by show (cs.kind == .class || (cs.kind == .module && L != mainGlobals)) = false; rw [hk]; rfl)
theorem r_int {i : Int} {k : Nat} {pos : Pos} {env : Env} {Q : Value → Shared → Prop} (q : ∀ t tk', Q (.int i t) ⟨h, g, d, tk', os⟩) : wpAny (model prog w) A (eval (.Constant (.int i) k pos) env) Q E ⟨h, g, d, tk, os⟩ :=
  fun _ _ _ => q tk (tk + 1)
theorem r_str {i : Str} {k : Nat} {pos : Pos} {env : Env} {Q : Value → Shared → Prop} (q : ∀ t tk', Q (.str i t) ⟨h, g, d, tk', os⟩) : wpAny (model prog w) A (eval (.Constant (.str i) k pos) env) Q E ⟨h, g, d, tk, os⟩ :=
  fun _ _ _ => q tk (tk + 1)
theorem r_bytes {i : List UInt8} {k : Nat} {pos : Pos} {env : Env} {Q : Value → Shared → Prop} (q : ∀ t tk', Q (.bytes i.toArray t) ⟨h, g, d, tk', os⟩) : wpAny (model prog w) A (eval (.Constant (.bytes i) k pos) env) Q E ⟨h, g, d, tk, os⟩ :=
  fun _ _ _ => q tk (tk + 1)
theorem r_none {k : Nat} {pos : Pos} {env : Env} {Q : Value → Shared → Prop} (q : Q .none ⟨h, g, d, tk, os⟩) : wpAny (model prog w) A (eval (.Constant .none k pos) env) Q E ⟨h, g, d, tk, os⟩ :=
  fun _ _ _ => q
theorem r_bool {b : Bool} {k : Nat} {pos : Pos} {env : Env} {Q : Value → Shared → Prop} (q : Q (.bool b) ⟨h, g, d, tk, os⟩) : wpAny (model prog w) A (eval (.Constant (.bool b) k pos) env) Q E ⟨h, g, d, tk, os⟩ :=
  fun _ _ _ => q
section
variable {a b : Int} {t u : Tok} {Q : Value → Shared → Prop}
theorem r_add (q : ∀ t' tk', Q (.int (a + b) t') ⟨h, g, d, tk', os⟩) : wpAny (model prog w) A (binaryOp .Add (.int a t) (.int b u)) Q E ⟨h, g, d, tk, os⟩ := PyProof.Rows.add_int (q _ _)
theorem r_sub (q : ∀ t' tk', Q (.int (a - b) t') ⟨h, g, d, tk', os⟩) : wpAny (model prog w) A (binaryOp .Sub (.int a t) (.int b u)) Q E ⟨h, g, d, tk, os⟩ := PyProof.Rows.sub_int (q _ _)
theorem fmod_in {a b : Int} (h : 0 < b) : 0 ≤ a.fmod b ∧ a.fmod b < b := ⟨Int.fmod_nonneg_of_pos a h, Int.fmod_lt_of_pos a h⟩
theorem r_modp (hb : 0 < b) (q : 0 ≤ a.fmod b → a.fmod b < b → ∀ t' tk', Q (.int (a.fmod b) t') ⟨h, g, d, tk', os⟩) : wpAny (model prog w) A (binaryOp .Mod (.int a t) (.int b u)) Q E ⟨h, g, d, tk, os⟩ :=
  PyProof.Rows.mod_int' (by walk_at "om") (q (fmod_in hb).1 (fmod_in hb).2 _ _)
theorem r_mul (h1 : -(2 ^ 64) < b) (h2 : b < 2 ^ 64) (q : ∀ t' tk', Q (.int (a * b) t') ⟨h, g, d, tk', os⟩) : wpAny (model prog w) A (binaryOp .Mult (.int a t) (.int b u)) Q E ⟨h, g, d, tk, os⟩ :=
  PySem.P.mul_int (q _ _) (IntMulOk.of_right (intBits_le_64 h1 h2))
theorem r_fdiv (hb : b ≠ 0) (h2 : b.natAbs < 1073741824) (q : ∀ t' tk', Q (.int (a.fdiv b) t') ⟨h, g, d, tk', os⟩) : wpAny (model prog w) A (binaryOp .FloorDiv (.int a t) (.int b u)) Q E ⟨h, g, d, tk, os⟩ :=
  PyProof.Rows.floordiv_int hb (q _ _) (.inl (PyProof.noPylong_small h2))
theorem r_lt (q : Q (.bool (decide (a < b))) ⟨h, g, d, tk, os⟩) : wpAny (model prog w) A (compareOp .Lt (.int a t) (.int b u)) Q E ⟨h, g, d, tk, os⟩ := PyProof.Rows.lt_int q
end
theorem RC.list (R : RC P H0 fs H n h) {a : Nat} {vs : List Value} (e : H a = some (.lst vs)) : h.IsList a vs.toArray := by
  obtain ⟨o, ho, k, rfl⟩ := R.obj e
  exact ⟨_, ho, rfl, k, rfl⟩
theorem RC.tup (R : RC P H0 fs H n h) {a : Nat} {vs : List Value} (e : H a = some (.tup vs)) : IsTup h a vs.toArray := by
  obtain ⟨o, ho, k, rfl⟩ := R.obj e
  exact ⟨_, ho, rfl, k, rfl⟩
theorem r_item_list {value slice : Expr} {l : Nat} {vs : List Value} {i : Int} {u : Tok} {v : Value} {Q : Value → Shared → Prop} (R : RC P H0 fs H n h) (e : H l = some (.lst vs))
    (h0 : 0 ≤ i) (h1 : i < 2 ^ 63) (hx : vs[i.toNat]? = some v) (q : Q v ⟨h, g, d, tk, os⟩)
    (hs : subscripted slice false (.ref l) (.int i u) = operate [.ref l, .int i u] (getItem (.ref l) (.int i u)) := by with_unfolding_all rfl) :
    wpAny (model prog w) A (subscriptTail value slice (.ref l) (.int i u)) Q E ⟨h, g, d, tk, os⟩ :=
  tail_any (R.list e).typeIs slot_list_getitem.lookup (wpAny_getItem_list (R.list e) h0 h1 (by simpa using hx) q) hs
theorem ints_at {vs : List Value} {ns : List Int} (hi : IntsAre vs ns) {j : Nat} (h : j < ns.length) : ∃ t, vs[j]? = some (.int (ns.getD j 0) t) := by
  have e : ns[j]? = some (ns.getD j 0) := by simp [List.getD, List.getElem?_eq_getElem h]
  obtain ⟨t, ht⟩ := hi.get j _ e
  exact ⟨t, ht⟩
theorem r_item_ints {value slice : Expr} {l : Nat} {vs : List Value} {ns : List Int} {i : Int} {u : Tok} {Q : Value → Shared → Prop} (R : RC P H0 fs H n h) (e : H l = some (.lst vs)) (hi : IntsAre vs ns)
    (h0 : 0 ≤ i) (h1 : i < 2 ^ 63) (hx : i < ns.length) (q : ∀ t, Q (.int (ns.getD i.toNat 0) t) ⟨h, g, d, tk, os⟩)
    (hs : subscripted slice false (.ref l) (.int i u) = operate [.ref l, .int i u] (getItem (.ref l) (.int i u)) := by with_unfolding_all rfl) :
    wpAny (model prog w) A (subscriptTail value slice (.ref l) (.int i u)) Q E ⟨h, g, d, tk, os⟩ := by
  obtain ⟨t, ht⟩ := ints_at hi (j := i.toNat) (by walk_at "om")
  exact r_item_list R e h0 h1 ht (q t) hs
theorem r_setitem {l : Nat} {vs : List Value} {i : Int} {u : Tok} {v : Value} {Q : Unit → Shared → Prop} (R : RC P H0 fs H n h) (e : H l = some (.lst vs))
    (h0 : 0 ≤ i) (h1 : i < 2 ^ 63) (hx : i < (vs.length : Int)) (q : ∀ h', RC P H0 fs (H.set l (.lst (vs.set i.toNat v))) n h' → Q () ⟨h', g, d, tk, os⟩) :
    wpAny (model prog w) A (setItem (.ref l) (.int i u) v) Q E ⟨h, g, d, tk, os⟩ := by
  obtain ⟨o, ho, k, rfl⟩ := R.obj e
  refine ki_setAt (n := k) ho h0 h1 (by simpa using hx) (q _ ?_)
  refine R.put e (Heap.get?_update_self _ ho rfl) (y := .lst (vs.set i.toNat v)) ⟨k, ?_⟩ (fun b o' hb e' => (Heap.get?_update_other _ _ (Ne.symm hb)).trans e') (by rw [Heap.size_after_update]; exact Nat.le_refl _)
  show Obj.mapSeq _ (listOf vs.toArray k) = listOf (vs.set i.toNat v).toArray k
  simp only [Obj.mapSeq, Array.size_setIfInBounds, BEq.rfl, if_true]
  congr 2
  apply Array.toList_inj.mp
  simp
theorem r_len_list {l : Nat} {vs : List Value} {Q : Value → Shared → Prop} (R : RC P H0 fs H n h) (e : H l = some (.lst vs)) (hf : vs.length < 2 ^ 62)
    (q : ∀ t tk', Q (.int (vs.length : Nat) t) ⟨h, g, d, tk', os⟩) : wpAny (model prog w) A (call (.builtin "len") [.ref l]) Q E ⟨h, g, d, tk, os⟩ :=
  len_list (R.list e) (by simp; walk_at "om") (by simpa using q _ _)
theorem r_enter {RR : Result → Shared → Prop} {name qual : Str} {params : Arguments} {body : List Stmt} {scope : Scope} {dV kV doc pm cdv ct oc : Value} {an od : Option Addr} {osl : Array (Option Value)} {f : Addr} {args : Args} {binds : List (Str × Value)}
    (R : RC P H0 fs H n h) (G : Gd K H0) (hz : H0.objs.size ≤ n) (hroom : A.depth < recursionLimit)
    (ho : K.lookup f = some ⟨oc, od, .func (fnOf name qual params body scope dV kV doc pm an cdv ct), osl⟩) (hcd : codeIn K cdv qual = true)
    (hbind : BindsTo ⟨h, g, d, tk, os⟩ (fnOf name qual params body scope dV kV doc pm an cdv ct) args binds) (hloc : (binds.all fun x => decide (scope.names.lookup x.1 = some .local)) = true)
    (k : ∀ (L' : Nat) h₁ tk₁, n ≤ L' → RC P H0 ((L', fun y => binds.reverse.lookup y) :: fs) H (L' + 1) h₁ →
      wpAny (model prog w) (A.deeper (envOf qual scope L' f cdv)) (execs body (envOf qual scope L' f cdv))
        (fun fl s' => RR (.ok (.ret (match fl with | .ret v => v | _ => .none))) s')
        (fun e s' => wpAny (model prog w) (A.deeper (envOf qual scope L' f cdv)) (leaving (envOf qual scope L' f cdv) e) (fun _ s'' => RR (.error e) s'') (fun e' s'' => RR (.error e') s'') s')
        ⟨h₁, g, d, tk₁, os⟩)
    (hco : scope.isCoroutine = false := by rfl) (hgen : scope.isGenerator = false := by rfl) (hk : scope.kind = .function := by rfl)
    (hcell : ∀ x ∈ scope.names, x.2 ≠ .cell := by decide) : codeAny (model prog w) A (.call (.ref f) args) RR ⟨h, g, d, tk, os⟩ := by
  refine codeAny_call_def (fd := fnOf name qual params body scope dV kV doc pm an cdv ct) (body := body) (binds := binds) hroom (G.at R _ _ ho) rfl (G.nolimit R) (codeRec_of (G.at R) hcd) rfl hbind hcell (locs hloc) (fun h₁ hns hk₁ => ?_) hco hgen hk
  have hsz := R.sz
  exact k h.objs.size h₁ _ hsz (R.enter (Nat.le_trans hz hsz) hns hk₁)
theorem r_def {Q : Value → Shared → Prop} {name qual : Str} {params : Arguments} {body : List Stmt} {scope : Scope} {dV kV doc pm cdv ct oc : Value} {an od : Option Addr} {osl : Array (Option Value)} {f : Addr} {pos : List Value} {kw : List (Str × Value)} {binds : List (Str × Value)}
    (R : RC P H0 fs H n h) (G : Gd K H0) (hz : H0.objs.size ≤ n) (hroom : A.depth < recursionLimit)
    (ho : K.lookup f = some ⟨oc, od, .func (fnOf name qual params body scope dV kV doc pm an cdv ct), osl⟩) (hcd : codeIn K cdv qual = true)
    (hbind : BindsTo ⟨h, g, d, tk, os⟩ (fnOf name qual params body scope dV kV doc pm an cdv ct) ⟨pos, kw⟩ binds) (hloc : (binds.all fun x => decide (scope.names.lookup x.1 = some .local)) = true)
    (k : ∀ (L' : Nat) h₁ tk₁, n ≤ L' → RC P H0 ((L', fun y => binds.reverse.lookup y) :: fs) H (L' + 1) h₁ →
      wpAny (model prog w) (A.deeper (envOf qual scope L' f cdv)) (execs body (envOf qual scope L' f cdv))
        (fun fl s' => Q (match fl with | .ret v => v | _ => .none) s') (fun _ _ => False) ⟨h₁, g, d, tk₁, os⟩)
    (hco : scope.isCoroutine = false := by rfl) (hgen : scope.isGenerator = false := by rfl) (hk : scope.kind = .function := by rfl)
    (hcell : ∀ x ∈ scope.names, x.2 ≠ .cell := by decide) : wpAny (model prog w) A (call (.ref f) pos kw) Q E ⟨h, g, d, tk, os⟩ :=
  wpAny_call (r_enter R G hz hroom ho hcd hbind hloc (fun L' h₁ tk₁ hl R' => wpAny_mono (k L' h₁ tk₁ hl R') (fun fl s' q => q) fun _ _ x => x.elim) hco hgen hk hcell)
noncomputable def allN (H0 h : Heap) (L x : Nat) : List (Addr × Obj) := (List.range h.objs.size).filterMap fun b => if b = L ∨ b = x ∨ (H0.get? b).isSome = true then none else (h.get? b).map fun o => (b, o)
theorem allN_mem {H0 h : Heap} {L x b : Nat} {o : Obj} (e : h.get? b = some o) (h1 : b ≠ L) (h2 : b ≠ x) (h3 : H0.get? b = none) : (b, o) ∈ allN H0 h L x := by
  unfold allN
  refine List.mem_filterMap.mpr ⟨b, List.mem_range.mpr (ltsz e), ?_⟩
  rw [if_neg (by simp [h1, h2, h3]), e]; rfl
theorem allN_of {H0 h : Heap} {L x : Nat} {p : Addr × Obj} (hp : p ∈ allN H0 h L x) : h.get? p.1 = some p.2 ∧ p.1 ≠ L ∧ p.1 ≠ x ∧ H0.get? p.1 = none := by
  unfold allN at hp
  obtain ⟨b, hb, e⟩ := List.mem_filterMap.mp hp
  split at e
  · cases e
  · rename_i q
    obtain ⟨o, ho, rfl⟩ := Option.map_eq_some_iff.mp e
    simp only [not_or, Bool.not_eq_true, Option.isSome_eq_false_iff, Option.isNone_iff_eq_none] at q
    exact ⟨ho, q.1, q.2.1, q.2.2⟩
theorem allN_news {H0 h : Heap} {L x : Nat} : News H0 L h (allN H0 h L x) := fun p hp => let ⟨a, b, _, c⟩ := allN_of hp; ⟨a, b, c⟩
theorem RC.absSet {h' : Heap} {m' : Map} {x : Nat} {y z : AO} {o' : Obj} (R : RC P H0 ((L, m) :: fs) H n h) (F : PyProof.Rows.Fr H0 L h' m') (e : H x = some y) (ho : h'.get? x = some o') (hz : z.Is P o')
    (N : ∀ p ∈ allN H0 h L x, h'.get? p.1 = some p.2) (hs : h.objs.size ≤ h'.objs.size) : RC P H0 ((L, m') :: fs) (H.set x z) n h' where
  ext := F.keep
  sz := Nat.le_trans R.sz hs
  at_ := fun a u e' => by
    have tf : ∀ {b : Nat}, (∀ p ∈ (L, m) :: fs, b ≠ p.1) → ∀ p ∈ (L, m') :: fs, b ≠ p.1 := fun t p hp => by
      rcases List.mem_cons.mp hp with rfl | hp
      · exact t (L, m) (.head _)
      · exact t p (.tail _ hp)
    simp only [PH.set] at e'
    split at e'
    · rename_i q; subst q; cases e'
      obtain ⟨_, g, l, t⟩ := R.at_ _ _ e
      exact ⟨⟨o', ho, hz⟩, g, l, tf t⟩
    · rename_i q
      obtain ⟨⟨o, ho', hi⟩, g, l, t⟩ := R.at_ a u e'
      exact ⟨⟨o, N _ (allN_mem ho' (t (L, m) (.head _)) q (R.old_none g)), hi⟩, g, l, tf t⟩
  fr := fun p hp => by
    rcases List.mem_cons.mp hp with rfl | hp
    · exact ⟨F.ns, (R.fr (L, m) (.head _)).2⟩
    · obtain ⟨⟨o, es, ep, ho', r⟩, b, c⟩ := R.fr p (.tail _ hp)
      refine ⟨⟨o, es, ep, N _ (allN_mem ho' (fun q => (List.pairwise_cons.mp R.nd).1 p hp q.symm) (fun q => (R.at_ _ _ e).2.2.2 p (.tail _ hp) q.symm) (R.old_none b)), r⟩, b, c⟩
  nd := by
    have := List.pairwise_cons.mp R.nd
    exact List.pairwise_cons.mpr ⟨this.1, this.2⟩
noncomputable def setF (name : Str) (v : Value) : List (Str × Value) → List (Str × Value)
  | [] => [(name, v)]
  | f :: r => if f.1 == name then (f.1, v) :: r else f :: setF name v r
noncomputable def getF (name : Str) : List (Str × Value) → Option Value
  | [] => none
  | f :: r => if f.1 == name then some f.2 else getF name r
theorem Ents.isStr {e : DictEntry} {f : Str × Value} (x : Ent P e f) (name : Str) : e.key.isStr name = (f.1 == name) := by
  obtain ⟨_, ⟨t, hk⟩, _⟩ := x; rw [hk]; rfl
theorem Ents.refKey {e : DictEntry} {f : Str × Value} (x : Ent P e f) : e.refKey = false := by
  obtain ⟨_, ⟨t, hk⟩, _⟩ := x; unfold DictEntry.refKey; rw [hk]
theorem Ents.noRef {es : List DictEntry} {l : List (Str × Value)} (x : Ents P es l) : es.any (·.refKey) = false := by
  induction x with
  | nil => rfl
  | cons a _ ih => rw [List.any_cons, Ents.refKey a, ih]; rfl
theorem Ents.find {es : List DictEntry} {l : List (Str × Value)} (x : Ents P es l) (name : Str) : (es.find? (·.key.isStr name)).map (·.val) = getF name l := by
  induction x with
  | nil => rfl
  | cons a _ ih =>
    rw [List.find?_cons, Ents.isStr a name, getF]
    split
    · rename_i q; rw [q, if_pos rfl]; obtain ⟨_, _, hv⟩ := a; rw [← hv]; rfl
    · rename_i q; rw [q, if_neg (by decide)]; exact ih
theorem Ents.getL {es : List DictEntry} {l : List (Str × Value)} (x : Ents P es l) (name : Str) : getL name es = some (getF name l) := by
  have h1 := x.find name
  unfold PySem.W.getL
  split
  · rename_i e he; rw [he] at h1; rw [← h1]; rfl
  · rename_i he; rw [he] at h1; rw [x.noRef, ← h1]; rfl
theorem Ents.putL {es : List DictEntry} {l : List (Str × Value)} (x : Ents P es l) (name : Str) (t : Tok) (v : Value) : Ents P (putL name (PyData.keyHash P name) (.str name t) v es) (setF name v l) := by
  induction x with
  | nil => exact .cons ⟨rfl, ⟨t, rfl⟩, rfl⟩ .nil
  | cons a r ih =>
    rw [PySem.W.putL, Ents.isStr a name, setF]
    split
    · exact .cons ⟨a.1, a.2.1, rfl⟩ r
    · exact .cons a ih
theorem Ents.length {es : List DictEntry} {l : List (Str × Value)} (x : Ents P es l) : es.length = l.length := by
  induction x with
  | nil => rfl
  | cons a r ih => rw [List.length_cons, List.length_cons, ih]
theorem setF_length (name : Str) (v : Value) : ∀ l, (setF name v l).length ≤ l.length + 1
  | [] => Nat.le_refl _
  | f :: r => by
    rw [setF]; split
    · simp
    · have := setF_length name v r; simp only [List.length_cons]; walk_at "om"
theorem RC.inst (R : RC P H0 fs H n h) {x C dx : Nat} {l : List (Str × Value)} (e : H x = some (.inst C dx)) (e' : H dx = some (.dic l)) :
    ∃ es k, W.InstAt h x (instObj C dx) C (some (dictOf es k)) ∧ Ents P es l := by
  obtain ⟨o, ho, rfl⟩ := R.obj e
  obtain ⟨o', ho', es, k, rfl, hE⟩ := R.obj e'
  exact ⟨es, k, ⟨ho, rfl, rfl, ho'⟩, hE⟩
section
variable {x C dx : Nat} {l : List (Str × Value)} {name : Str} {v : Value}
theorem r_attr {expr : Bool} {Q : Value → Shared → Prop} {attr : Option Value} (R : RC P H0 ((L, m) :: fs) H n h) (G : Gd K H0) (e : H x = some (.inst C dx)) (e' : H dx = some (.dic l))
    (hg : plainGet K C name = true) (hh : hasDictIn K C = true) (ha : findIn K (.ref C) name = some attr) (hn : noGet K attr = true) (hl : getF name l = some v) (hv : handedIn v = true)
    (q : ∀ tk', Q v ⟨h, g, d, tk', os⟩) : wpAny (model prog w) A (getAttr (.ref x) name expr) Q E ⟨h, g, d, tk, os⟩ := by
  obtain ⟨es, k, I, hE⟩ := R.inst e e'
  exact get_own (s := ⟨h, g, d, tk, os⟩) R.Fr G.X I hg hh ha hn (by rw [hE.getL, hl]) hv (q _)
theorem r_meth {pl : Sem Bool} {Q : Value × List Value → Shared → Prop} {f : Addr} (R : RC P H0 ((L, m) :: fs) H n h) (G : Gd K H0) (e : H x = some (.inst C dx)) (e' : H dx = some (.dic l))
    (hg : plainGet K C name = true) (hf : findIn K (.ref C) name = some (some (.ref f))) (ht : isFn K (.ref f) = true) (hl : getF name l = none)
    (q : Q (.ref f, [.ref x]) ⟨h, g, d, tk, os⟩) : wpAny (model prog w) A (getMethod (.ref x) name pl) Q E ⟨h, g, d, tk, os⟩ := by
  obtain ⟨es, k, I, hE⟩ := R.inst e e'
  exact method_inst (s := ⟨h, g, d, tk, os⟩) R.Fr G.X I hg hf ht (by rw [hE.getL, hl]) q
theorem r_methOwn {pl : Sem Bool} {Q : Value × List Value → Shared → Prop} (R : RC P H0 ((L, m) :: fs) H n h) (G : Gd K H0) (e : H x = some (.inst C dx)) (e' : H dx = some (.dic l))
    (hg : plainGet K C name = true) (hh : hasDictIn K C = true) (hf : findIn K (.ref C) name = some none) (hl : getF name l = some v) (hv : handedIn v = true)
    (q : ∀ tk', Q (v, []) ⟨h, g, d, tk', os⟩) : wpAny (model prog w) A (getMethod (.ref x) name pl) Q E ⟨h, g, d, tk, os⟩ := by
  obtain ⟨es, k, I, hE⟩ := R.inst e e'
  exact kmu_own (s := ⟨h, g, d, tk, os⟩) R.Fr G.X I hg hf (get_own (s := ⟨h, g, d, tk, os⟩) R.Fr G.X I hg hh hf rfl (by rw [hE.getL, hl]) hv (q _))
theorem r_setattr {Q : Unit → Shared → Prop} (hP : P = w.params) (R : RC P H0 ((L, m) :: fs) H n h) (G : Gd K H0) (e : H x = some (.inst C dx)) (e' : H dx = some (.dic l))
    (hs : findIn K (.ref C) "__setattr__" = some (some (.builtin "object.__setattr__"))) (hp : plainOver K C = true) (ht : takerIn K C name = some none) (hh : hasDictIn K C = true)
    (hz : l.length ≤ 900) (q : ∀ h' tk', RC P H0 ((L, m) :: fs) (H.set dx (.dic (setF name v l))) n h' → Q () ⟨h', g, d, tk', os⟩) :
    wpAny (model prog w) A (setAttr (.ref x) name v) Q E ⟨h, g, d, tk, os⟩ := by
  subst hP
  obtain ⟨es, k, I, hE⟩ := R.inst e e'
  have hd : h.get? dx = some (dictOf es k) := I.dict
  have hdx := R.at_ _ _ e'
  have N : News H0 L h ((dx, dictOf es k) :: allN H0 h L dx) := fun p hp => by
    rcases List.mem_cons.mp hp with rfl | hp
    · exact ⟨hd, hdx.2.2.2 (L, m) (.head _), R.old_none hdx.2.1⟩
    · exact allN_news p hp
  refine with_size (set_dict (s := ⟨h, g, d, tk, os⟩) (news := (dx, dictOf es k) :: allN H0 h L dx) R.Fr G.X N I rfl hs hp ht hh (by rw [hE.getL]; rfl) rfl (Upd.head fun p hp => (allN_of hp).2.2.1) ?_ ?_)
  · have := (hE.putL name (tk + 1) v).length
    have h2 := setF_length name v l
    show (putL name (PyData.keyHash w.params name) (.str name (tk + 1)) v es).length ≤ 1000
    walk_at "om"
  · intro h' F' N' hs'
    exact q h' _ (R.absSet F' e' (N' _ (.head _)).1 (z := .dic (setF name v l)) ⟨_, _, rfl, hE.putL name _ v⟩ (fun p hp => (N' p (.tail _ hp)).1) hs')
theorem r_clsattr {mc a : Value} {expr : Bool} {Q : Value → Shared → Prop} (R : RC P H0 ((L, m) :: fs) H n h) (G : Gd K H0)
    (hm : typeIn K (.ref C) = some mc) (hr : readsIn K C mc = true) (e : findCls K (.ref C) mc name = some (.val a)) (hh : handedIn a = true)
    (q : ∀ tk', Q a ⟨h, g, d, tk', os⟩) : wpAny (model prog w) A (getAttr (.ref C) name expr) Q E ⟨h, g, d, tk, os⟩ := cls_val (s := ⟨h, g, d, tk, os⟩) R.Fr G.X hm hr e hh (q _)
end
theorem r_new {Q : Value → Shared → Prop} {C fI : Nat} {rest : List Value} {kw : List (Str × Value)} {kk : Nat} {name qual : Str} {params : Arguments} {body : List Stmt} {scope : Scope} {dV kV doc pm cdv ct oc : Value} {an od : Option Addr} {osl : Array (Option Value)} {binds : Nat → List (Str × Value)}
    (R : RC P H0 fs H n h) (G : Gd K H0) (hz : H0.objs.size ≤ n) (O : Ok A kk) (hkk : 3 ≤ kk)
    (hm : makesIn K C = true) (hi : findIn K (.ref C) "__init__" = some (some (.ref fI))) (hf : typeIn K (.ref fI) = some (.type "function"))
    (ho : K.lookup fI = some ⟨oc, od, .func (fnOf name qual params body scope dV kV doc pm an cdv ct), osl⟩) (hcd : codeIn K cdv qual = true)
    (hbind : ∀ x s', K.In s'.heap → BindsTo s' (fnOf name qual params body scope dV kV doc pm an cdv ct) ⟨.ref x :: rest, kw⟩ (binds x)) (hloc : ∀ x, ((binds x).all fun y => decide (scope.names.lookup y.1 = some .local)) = true)
    (k : ∀ (dx L' : Nat) h₁ tk₁, n ≤ dx → dx + 2 ≤ L' → RC P H0 ((L', fun y => (binds (dx + 1)).reverse.lookup y) :: fs) ((H.set dx (.dic [])).set (dx + 1) (.inst C dx)) (L' + 1) h₁ →
      Ok ((A.under (.builtin "type.__call__" ⟨.ref C :: rest, kw⟩)).deeper (envOf qual scope L' fI cdv)) (kk - 2) →
      wpAny (model prog w) ((A.under (.builtin "type.__call__" ⟨.ref C :: rest, kw⟩)).deeper (envOf qual scope L' fI cdv)) (execs body (envOf qual scope L' fI cdv))
        (fun fl s' => (match fl with | .ret v => v | _ => .none) = .none ∧ Q (.ref (dx + 1)) s') (fun _ _ => False) ⟨h₁, g, d, tk₁, os⟩)
    (hco : scope.isCoroutine = false := by rfl) (hgen : scope.isGenerator = false := by rfl) (hk : scope.kind = .function := by rfl)
    (hcell : ∀ x ∈ scope.names, x.2 ≠ .cell := by decide) : wpAny (model prog w) A (call (.ref C) rest kw) Q E ⟨h, g, d, tk, os⟩ := by
  refine wpAny_call (make_core (makes_of (G.at R) hm) (looks_findIn (G.at R) hi) (fun self => bind_fn (G.at R) self hf) (.inl rfl) ?_)
  have hsz := R.sz
  have hz' := Nat.le_trans hz hsz
  have R1 : RC P H0 fs (H.set h.objs.size (.dic [])) (h.objs.size + 1) (h.push emptyDict) := R.push (x := .dic []) ⟨[], 0, rfl, .nil⟩ rfl hz'
  have R2 := R1.push (x := .inst C h.objs.size) (o := instObj C h.objs.size) rfl rfl (by rw [Heap.size_push]; walk_at "om")
  rw [Heap.size_push] at R2
  have O1 : Ok (A.under (.builtin "type.__call__" ⟨.ref C :: rest, kw⟩)) (kk - 1) := O.make (by walk_at "om")
  refine r_enter (RR := InitBack (h.objs.size + 1) _) R2 G (by walk_at "om") O1.room ho hcd (hbind _ _ (G.at R2)) (hloc _) (fun L' h₁ tk₁ hl R' => ?_) hco hgen hk hcell
  refine wpAny_mono (k h.objs.size L' h₁ tk₁ hsz hl R' (O1.deep (by walk_at "om"))) (fun fl s' q => ?_) fun _ _ x => x.elim
  exact q
theorem r_callK {f : Value} {first : List Value} {env : Env} {pos : Pos} {e : Expr} {rest : List Expr} {Q : Value → Shared → Prop} (G : Gd K H0) (hk : keepIn K f = true)
    (q : wpAny (model prog w) A (spliced (backTo pos (starEach (e :: rest) env))) (fun vs s₁ => K.In s₁.heap ∧ wpAny (model prog w) A (call f (first ++ vs)) Q E s₁) E ⟨h, g, d, tk, os⟩)
    (he : starEach (e :: rest) env = (false, eval e env) :: starEach rest env := by rfl) (hplain : (backTo pos (starEach rest env)).any (·.1) = false := by rfl) :
    wpAny (model prog w) A (callWith pos f first (backTo pos (starEach (e :: rest) env)) []) Q E ⟨h, g, d, tk, os⟩ := callWith_K G.X hk q he hplain
theorem r_callK0 {f : Value} {first : List Value} {env : Env} {pos : Pos} {Q : Value → Shared → Prop} (R : RC P H0 fs H n h) (G : Gd K H0) (hk : keepIn K f = true)
    (q : wpAny (model prog w) A (call f (first ++ [])) Q E ⟨h, g, d, tk, os⟩) :
    wpAny (model prog w) A (callWith pos f first (backTo pos (starEach [] env)) []) Q E ⟨h, g, d, tk, os⟩ := callWith_K0 (s := ⟨h, g, d, tk, os⟩) (G.at R) hk q
theorem r_callKW {f : Value} {first : List Value} {env : Env} {pos : Pos} {e : Expr} {rest : List Expr} {kws : List Keyword} {Q : Value → Shared → Prop} (G : Gd K H0) (hk : keepIn K f = true) (hall : (backToKw pos (keywordEach kws env)).all (·.1.isSome) = true)
    (q : wpAny (model prog w) A (spliced (backTo pos (starEach (e :: rest) env))) (fun vs s₁ => wpAny (model prog w) A (evalAll ((backToKw pos (keywordEach kws env)).map (·.2)))
      (fun ks s₂ => K.In s₂.heap ∧ wpAny (model prog w) A (call f (first ++ vs) (((backToKw pos (keywordEach kws env)).filterMap (·.1)).zip ks)) Q E s₂) E s₁) E ⟨h, g, d, tk, os⟩)
    (hplain : ((backTo pos (starEach (e :: rest) env)).any (·.1) || (backToKw pos (keywordEach kws env)).any (·.1.isNone)) = false := by rfl) (he : starEach (e :: rest) env = (false, eval e env) :: starEach rest env := by rfl) :
    wpAny (model prog w) A (callWith pos f first (backTo pos (starEach (e :: rest) env)) (backToKw pos (keywordEach kws env))) Q E ⟨h, g, d, tk, os⟩ := callWith_KW G.X hk hall q hplain he
theorem r_callKW0 {f : Value} {first : List Value} {env : Env} {pos : Pos} {kws : List Keyword} {Q : Value → Shared → Prop} (G : Gd K H0) (hk : keepIn K f = true) (hall : (backToKw pos (keywordEach kws env)).all (·.1.isSome) = true)
    (q : wpAny (model prog w) A (evalAll ((backToKw pos (keywordEach kws env)).map (·.2))) (fun ks s₂ => K.In s₂.heap ∧ wpAny (model prog w) A (call f (first ++ []) (((backToKw pos (keywordEach kws env)).filterMap (·.1)).zip ks)) Q E s₂) E ⟨h, g, d, tk, os⟩)
    (hplain : ((backTo pos (starEach [] env)).any (·.1) || (backToKw pos (keywordEach kws env)).any (·.1.isNone)) = false := by rfl) :
    wpAny (model prog w) A (callWith pos f first (backTo pos (starEach [] env)) (backToKw pos (keywordEach kws env))) Q E ⟨h, g, d, tk, os⟩ := callWith_KW0 (h₀ := H0) G.X hk hall q hplain
section
variable {x y : List UInt8} {t u : Tok} {Q : Value → Shared → Prop}
theorem r_badd (hs : x.length + y.length ≤ 16777216) (q : ∀ t' tk', Q (.bytes (x ++ y).toArray t') ⟨h, g, d, tk', os⟩) :
    wpAny (model prog w) A (binaryOp .Add (.bytes x.toArray t) (.bytes y.toArray u)) Q E ⟨h, g, d, tk, os⟩ :=
  KBy.add_bytes (by simpa using hs) fun t' k => by have := q t' k; simpa using this
theorem r_blen (hs : x.length ≤ 1099511627776) (q : ∀ t' tk', Q (.int (x.length : Nat) t') ⟨h, g, d, tk', os⟩) :
    wpAny (model prog w) A (call (.builtin "len") [.bytes x.toArray t]) Q E ⟨h, g, d, tk, os⟩ := len_bytes (by simpa using hs) (by simpa using q _ _)
theorem r_beq (q : Q (.bool (x == y)) ⟨h, g, d, tk, os⟩) : wpAny (model prog w) A (compareOp .Eq (.bytes x.toArray t) (.bytes y.toArray u)) Q E ⟨h, g, d, tk, os⟩ := eq_bytes q
theorem r_bitem {value slice : Expr} {i : Int} {ui : Tok} (hfit : x.length ≤ 1099511627776) (h0 : 0 ≤ i) (h1 : i < x.length)
    (q : ∀ t' tk', Q (.int ((x.getD i.toNat 0).toNat : Nat) t') ⟨h, g, d, tk', os⟩)
    (hs : subscripted slice false (.bytes x.toArray t) (.int i ui) = operate [.bytes x.toArray t, .int i ui] (getItem (.bytes x.toArray t) (.int i ui)) := by with_unfolding_all rfl) :
    wpAny (model prog w) A (subscriptTail value slice (.bytes x.toArray t) (.int i ui)) Q E ⟨h, g, d, tk, os⟩ := KBy.item_N hfit h0 h1 (q _ _) hs (fun _ => by cases value <;> rfl)
end
theorem r_call0 {M : Model} {s : Shared} {env : Env} {x : Str} {np pos : Pos} {args : List Expr} {Q : Value → Shared → Prop}
    (q : wpAny M A (eval (.Name x np) env) (fun f s₁ => wpAny M A (callWith pos f [] (backTo pos (starEach args env)) []) Q E s₁) E s) :
    wpAny M A (eval (.Call (.Name x np) args [] pos) env) Q E s := wpAny_Call_ofName q
theorem r_mcall0 {M : Model} {s : Shared} {env : Env} {name : Str} {o : Expr} {apos pos : Pos} {args : List Expr} {pl : Sem Bool} {Q : Value → Shared → Prop}
    (q : wpAny M A (eval o env) (fun ov s₁ => wpAny M A (getMethod ov name pl) (fun fx s₂ => wpAny M A (callWith pos fx.1 fx.2 (backTo pos (starEach args env)) []) Q E s₂) E s₁) E s)
    (he : eval (.Call (.Attribute o name apos) args [] pos) env = (do
      let ov ← eval o env
      standAt apos.atName
      let (f, first) ← holding [ov] (getMethod ov name pl)
      callWith pos f first (backTo pos (starEach args env)) (backToKw pos (keywordEach [] env))) := by rfl) :
    wpAny M A (eval (.Call (.Attribute o name apos) args [] pos) env) Q E s := methodCall_KW q he
end
noncomputable def holdsIds : List String := ["bytearray.__contains__", "bytearray.__mod__", "bytearray.__rmod__", "_struct.pack_into.held", "bytearray.find.held"] ++ Builtin.Bytes.decodersThatHold
noncomputable def okCode : Code → Bool
  | .builtin id _ => !holdsIds.contains id
  | _ => true
noncomputable def Cl (Γ : PySem.Ctx) : Prop := okCode Γ.code = true ∧ ∀ x ∈ Γ.below, okCode x.1 = true
noncomputable def wpP {α : Type} (M : Model) (A : Around) (t : Sem α) (Q : α → Shared → Prop) (E : Value → Shared → Prop) (s : Shared) : Prop :=
  ∀ Γ p, Γ.In A → Cl Γ → Sem.wp M Γ t (fun a _ s' => Q a s') (fun e _ s' => E e s') p s
noncomputable def codeP (M : Model) (A : Around) (c : Code) (R : Result → Shared → Prop) (s : Shared) : Prop :=
  ∀ Γ p, Γ.code = c → Γ.Below A → Cl Γ → wpCode M Γ R p s
section
variable {α β : Type} {M : Model} {A : Around} {E : Value → Shared → Prop} {s : Shared}
theorem P_any {t : Sem α} {Q : α → Shared → Prop} (h : wpAny M A t Q E s) : wpP M A t Q E s := fun Γ p hΓ _ => h Γ p hΓ
theorem P_mono {t : Sem α} {Q Q' : α → Shared → Prop} {E' : Value → Shared → Prop} (h : wpP M A t Q E s) (hQ : ∀ a s, Q a s → Q' a s) (hE : ∀ e s, E e s → E' e s) : wpP M A t Q' E' s :=
  fun Γ p hΓ hc => Sem.wp_mono M Γ t (fun a _ s => hQ a s) (fun e _ s => hE e s) p s (h Γ p hΓ hc)
theorem P_bind {m : Sem α} {f : α → Sem β} {Q : β → Shared → Prop} (h : wpP M A m (fun a s' => wpP M A (f a) Q E s') E s) : wpP M A (m >>= f) Q E s := fun Γ p hΓ hc => by
  rw [Sem.wp_bind']
  exact Sem.wp_mono M Γ m (fun a p' s' h' => h' Γ p' hΓ hc) (fun _ _ _ h' => h') p s (h Γ p hΓ hc)
theorem P_bindA {m : Sem α} {f : α → Sem β} {Q : β → Shared → Prop} (h : wpAny M A m (fun a s' => wpP M A (f a) Q E s') E s) : wpP M A (m >>= f) Q E s := P_bind (P_any h)
theorem P_pure {a : α} {Q : α → Shared → Prop} (h : Q a s) : wpP M A (pure a) Q E s := fun _ _ _ _ => h
theorem P_holding {vs : List Value} {m : Sem α} {Q : α → Shared → Prop} (h : wpP M A m Q E s) : wpP M A (holding vs m) Q E s := fun Γ p hΓ hc => by rw [Sem.wp_holding]; exact h Γ p hΓ hc
theorem P_onRaise {m : Sem α} {k : Value → Sem Unit} {Q : α → Shared → Prop} (h : wpP M A m Q (fun e s' => wpAny M A (k e) (fun _ s'' => E e s'') E s') s) : wpP M A (m.onRaise k) Q E s := fun Γ p hΓ hc => by
  rw [Sem.wp_onRaise]
  exact Sem.wp_mono M Γ m (fun _ _ _ h' => h') (fun e p' s' h' => h' Γ p' hΓ) p s (h Γ p hΓ hc)
theorem P_attempt {m : Sem α} {Q : Except Value α → Shared → Prop} (h : wpP M A m (fun a => Q (.ok a)) (fun e => Q (.error e)) s) : wpP M A m.attempt Q E s := fun Γ p hΓ hc => by
  rw [Sem.wp_attempt]; exact h Γ p hΓ hc
theorem codeP_mono {c : Code} {R R' : Result → Shared → Prop} (h : codeP M A c R s) (hR : ∀ r s, R r s → R' r s) : codeP M A c R' s :=
  fun Γ p hc hΓ hk => wpCode_mono hR (h Γ p hc hΓ hk)
theorem P_run {c : Code} {h : Option Value} {Q : Flow → Shared → Prop} (ok : okCode c = true)
    (hc : codeP M (A.mark h) c (fun r s' => match r with | .ok f => Q f s' | .error e => E e s') s) (hnb : h ≠ some byPass := by intro x; cases x) : wpP M A (run c h) Q E s :=
  fun Γ p hΓ hk => by
    rw [Sem.wp_run]
    exact hc _ p rfl (hΓ.enter c h p hnb) ⟨ok, fun x hx => by rcases List.mem_cons.mp hx with rfl | hx; exact hk.1; exact hk.2 x hx⟩
theorem P_runValue {c : Code} {Q : Value → Shared → Prop} (ok : okCode c = true)
    (hc : codeP M A c (fun r s' => match r with | .ok (.ret v) => Q v s' | .ok _ => False | .error e => E e s') s) : wpP M A (runValue c) Q E s := fun Γ p hΓ hk => by
  rw [Sem.wp_runValue]
  exact hc _ p rfl (hΓ.enter c none p (by intro x; cases x)) ⟨ok, fun x hx => by rcases List.mem_cons.mp hx with rfl | hx; exact hk.1; exact hk.2 x hx⟩
theorem P_call {f : Value} {pos : List Value} {kw : List (Str × Value)} {Q : Value → Shared → Prop}
    (hc : codeP M A (.call f ⟨pos, kw⟩) (fun r s' => match r with | .ok (.ret v) => Q v s' | .ok _ => False | .error e => E e s') s) : wpP M A (call f pos kw) Q E s := P_runValue rfl hc
theorem codeP_tree {c : Code} {R : Result → Shared → Prop}
    (h : wpP M (A.under c) (M.den c) (fun fin s' => match fin with | .done f => R (.ok f) s' | .again c' => c'.quiet = true ∧ okCode c' = true ∧ codeP M A c' R s')
      (fun e s' => R (.error e) s') s) : codeP M A c R s := fun Γ p hc hΓ hk => by
  rw [wpCode_iff_wp, hc]
  refine Sem.wp_mono M Γ _ (fun fin p' s' h' => ?_) (fun _ _ _ h' => h') p s (h Γ p (hc ▸ hΓ.in) hk)
  cases fin with
  | done f => exact h'
  | again c' => exact ⟨h'.1, h'.2.2 (Γ.goto c') p' rfl (hΓ.goto c') ⟨h'.2.1, hk.2⟩⟩
end
section
variable {prog : Program} {w : World} {A : Around} {E : Value → Shared → Prop} {s : Shared} {R : Result → Shared → Prop}
theorem codeP_func {body : List Stmt} {env : Env}
    (h : wpP (model prog w) (A.deeper env) (execs body env) (fun f s' => R (.ok (.ret (match f with | .ret v => v | _ => .none))) s')
      (fun e s' => wpAny (model prog w) (A.deeper env) (leaving env e) (fun _ s'' => R (.error e) s'') (fun e' s'' => R (.error e') s'') s') s) : codeP (model prog w) A (.func body env) R s := by
  refine codeP_tree ?_
  show wpP _ (A.deeper env) (do point; match ← (execs body env).onRaise (leaving env) with | .ret v => ret v | _ => ret .none) _ _ s
  refine P_bindA (wpAny_point (P_bind (P_onRaise (P_mono h (fun f s' h' => ?_) fun _ _ h' => h'))))
  cases f <;> exact P_pure h'
theorem codeP_function {a : Addr} {args : Args} {o : Obj} {fd : FuncData} {body : List Stmt} (hroom : A.depth < recursionLimit)
    (ho : s.heap.get? a = some o) (hd' : o.data = .func fd) (hco : fd.scope.isCoroutine = false) (hgen : fd.scope.isGenerator = false) (hbody : fd.body = .stmts body) (hcd : s.heap.CodeRec fd.code fd.qualname)
    (h : wpAny (model prog w) A.in1 (bindArgs fd args) (fun binds s₁ =>
      wpAny (model prog w) A.in1 (newFunctionEnv fd.scope fd.globals fd.closure binds (fd.qualname ++ ".<locals>.") (some a) fd.code none fd.builtins)
        (fun env s₂ => s₂.heap.NoLimit ∧ codeP (model prog w) A (.func body env) R s₂) (fun e s' => R (.error e) s') s₁) (fun e s' => R (.error e) s') s) : codeP (model prog w) A (.call (.ref a) args) R s := by
  refine codeP_tree (P_any ?_)
  show wpAny _ A.in1 (callAny (.ref a) args) _ _ s
  simp only [callAny]
  refine wpAny_bind (wpAny_load ho ?_)
  obtain ⟨c, oc, vs, tq, hc, hoc, hdc, hq⟩ := hcd
  simp only [hd', callFunction, hco, hgen, hbody, hc]
  rw [hc] at h
  refine wpAny_bind (m := field (.ref c) 1) (wpAny_field hoc hdc hq (wpAny_bind (wpAny_pure ?_)))
  exact wpAny_bind (wpAny_mono h (fun binds s₁ h₁ => wpAny_bind (wpAny_mono h₁ (fun env s₂ h₂ => wpAny_bind (wpAny_enterFrame h₂.1 hroom
    (wpAny_pure (And.intro rfl ⟨rfl, h₂.2⟩)))) fun _ _ h' => h')) fun _ _ h' => h')
theorem codeP_def {a : Addr} {o : Obj} {fd : FuncData} {body : List Stmt} {args : Args} {binds : List (Str × Value)}
    (hroom : A.depth < recursionLimit) (ho : s.heap.get? a = some o) (hdata : o.data = .func fd) (hlim : s.heap.NoLimit) (hcd : s.heap.CodeRec fd.code fd.qualname)
    (hbody : fd.body = .stmts body) (hbind : BindsTo s fd args binds)
    (hcell : ∀ x ∈ fd.scope.names, x.2 ≠ .cell) (hloc : ∀ x ∈ binds, fd.scope.names.lookup x.1 = some .local)
    (h : ∀ h₀, h₀.Ns s.heap.objs.size (fun x => binds.reverse.lookup x) → (∀ b o, s.heap.get? b = some o → h₀.get? b = some o) →
      wpP (model prog w) (A.deeper (callEnv fd s.heap.objs.size a)) (execs body (callEnv fd s.heap.objs.size a)) (fun f s' => R (.ok (.ret (match f with | .ret v => v | _ => .none))) s')
        (fun e s' => wpAny (model prog w) (A.deeper (callEnv fd s.heap.objs.size a)) (leaving (callEnv fd s.heap.objs.size a) e) (fun _ s'' => R (.error e) s'') (fun e' s'' => R (.error e') s'') s')
        { s with heap := h₀, toks := s.toks + binds.length })
    (hco : fd.scope.isCoroutine = false := by rfl) (hgen : fd.scope.isGenerator = false := by rfl) (hk : fd.scope.kind = .function := by rfl) :
    codeP (model prog w) A (.call (.ref a) args) R s := by
  refine codeP_function hroom ho hdata hco hgen hbody hcd (hbind _ _ _ _ ?_)
  refine wpAny_newFunctionEnv hcell hloc (fun h₀ hns₀ hsb₀ => ⟨hlim.fresh _ hsb₀, codeP_func (h h₀ hns₀ fun b o e => ?_)⟩) hk
  exact hsb₀.extBut b o (Nat.ne_of_lt (Heap.lt_size e)) (Heap.get?_push_of_some _ e)
end
abbrev caller0 : PySem.Ctx := ⟨.builtin "claim.caller" {}, none, none, [], none⟩
theorem caller_clean : Cl caller0 := ⟨by decide +kernel, fun x hx => nomatch hx⟩
theorem callFrom_P {c : ClaimW} {tree : List Value → Sem PySem.Fin} {w : World} {s : Shared} {free : Addr → Prop} {gens : Prop} {kept : Heap → Prop} (hz : s.asleep) (hgens : s.gens = #[])
    (hspec : ∀ args, c.pre args = true → WData.layableAll args = true → ∀ ord : List DictEntry → List DictEntry, (∀ l, (ord l).Perm l) →
      ∃ vs s₁, layAllW c.records (classAt s.heap) w.params ord args s = some (vs, s₁) ∧
        wpP (model c.prog w) callerA (tree vs) (fun fin s' => ∃ f, fin = .done f ∧ (c.Ends s args vs s₁ (.ok f) s' ∧ s'.os = s.os ∧ AllBare s'.gens ∧ kept s'.heap))
          (fun e s' => c.Ends s args vs s₁ (.error e) s' ∧ s'.os = s.os ∧ AllBare s'.gens ∧ kept s'.heap) s₁) :
    c.CallFrom (fun vs => ⟨tree vs, .builtin "claim.caller" {}, default, []⟩) w free gens kept s := by
  intro args hpre hlay ord hord
  obtain ⟨vs, s₁, hlaid, hcode⟩ := hspec args hpre hlay ord hord
  have hal := layAllW_rest _ _ _ hlaid
  have h0 : Sem.wp (model c.prog w) caller0 (tree vs) (Sem.finPost (model c.prog w) caller0 fun r s' => (c.Ends s args vs s₁ r s' ∧ s'.os = s.os ∧ kept s'.heap) ∧ leftWithCleanup s'.gens = false)
      (fun e _ s' => (c.Ends s args vs s₁ (.error e) s' ∧ s'.os = s.os ∧ kept s'.heap) ∧ leftWithCleanup s'.gens = false) default s₁ := by
    refine Sem.wp_mono _ _ _ (fun fin p' s' h' => ?_) (fun e _ s' h' => ⟨⟨h'.1, h'.2.1, h'.2.2.2⟩, leftWithCleanup_false_of_bare h'.2.2.1⟩) _ _ (hcode caller0 default caller_in caller_clean)
    obtain ⟨f, rfl, h1, h2, h3, h4⟩ := h'
    exact ⟨⟨h1, h2, h4⟩, leftWithCleanup_false_of_bare h3⟩
  obtain ⟨k, r, s', s'', hsched, hrun, hfo, hcase, hos, hkp⟩ := wp_halts_full (M := model c.prog w) (R := fun r s' => c.Ends s args vs s₁ r s' ∧ s'.os = s.os ∧ kept s'.heap) (Shared.asleep_of_life hal.2.2.2 hz) h0
  obtain ⟨eh, _, _, eo, _⟩ := Shared.forget_eq hfo
  have hcase := hcase.congr eh
  have hkp : kept s''.heap := by rw [eh]; exact hkp
  rw [← eo] at hos
  have hlife : s''.heap.life = s.heap.life := (runN_life _ _ _ hrun).trans hal.2.2.2
  refine ⟨vs, s₁, hlaid, k, _, s'', hsched, ?_, (fun _ i x hx => by rw [hgens] at hx; simp at hx), hkp, by rw [hlife], Shared.rest_eq hos⟩
  rcases hcase with ⟨v, rfl, d1, d2, d3, d4, d5⟩ | ⟨e, ob, cls, rfl, d1, d2, d3, d4, d5⟩
  · exact .inl ⟨v, rfl, d1, d2, d3, fun b o y _ => d4 b o y, d5⟩
  · exact .inr ⟨e, ob, cls, rfl, d1, d2, d3, d4, fun b o y _ => d5 b o y⟩
abbrev WalkP (q : Program) (loose : List Str) (XP : (Str → Option Value) → Heap → Prop) (YP : World → Heap → Prop) (r : RowW) (d : DefRec) (kwd : List (Str × Expr)) : Prop :=
  ∀ (w : World) (s₀ s₁ : Shared) (mg mb : Str → Option Value), Ground q loose r.records XP w s₀ mg mb s₁.heap → YP w s₁.heap → ∀ (a : Addr) (o : Obj) (pm cd doc dV kV : Value), s₁.heap.get? a = some o →
    o.data = .func { docDef d.name d.params d.body d.scope pm cd doc with defaults := dV, kwdefaults := kV } → s₁.heap.CodeRec cd d.name → Dflts mg s₁.heap d.params kwd dV kV → mg d.name = some (.ref a) → s₁.gens = #[] →
    ∀ (args : List WData) (vals : List Value) (as : List Addr), r.claim.pre args = true → WData.layableAll args = true → ReadsAllW r.records (classAt s₀.heap) s₁.heap vals args as → WellAll w.params s₁.heap vals args → (∀ a ∈ as, (a == sysModules) = false) →
      wpP (model r.prog w) callerA (call (.ref a) vals) (fun v s' => GoodWG r.claim (classAt s₀.heap) (ExcName.means s₀.heap) args s₁ (.ok (.ret v)) s')
        (fun e s' => GoodWG r.claim (classAt s₀.heap) (ExcName.means s₀.heap) args s₁ (.error e) s') s₁
theorem PySem.W.holds_open {r : OpenRow} {q : Program} {loose : List Str} {Xt : Shared → Bool} {XP : (Str → Option Value) → Heap → Prop} {α : Type} {Yf : Shared → α} {Ya : World → α} {YP : World → Heap → Prop} {d : DefRec} {kwd : List (Str × Expr)} {N : Nat}
    (left : LeftO r.prog q loose Xt Yf Ya N) (hY : ∀ w s, Yf s = Ya w → YP w s.heap) (hYk : ∀ w h h', YP w h → (∀ b o, h.get? b = some o → h'.get? b = some o) → YP w h')
    (hX : ∀ s, Xt s = true → XP (s.heap.nsMap mainGlobals) s.heap) (hXk : ∀ mg h h', XP mg h → (∀ b o, h.get? b = some o → h'.get? b = some o) → XP mg h')
    (hdef : defOf q r.name = some (d, kwd)) (hp : r.prog.theDef r.name = some (d.params, d.body, d.scope)) (hk : kwWritten? d.params.kwonlyargs d.params.kw_defaults = some kwd) (hRf : ∀ s, Xt s = true → RecFacts r.records s.heap) (hwr : (!r.writes || r.records.isEmpty) = true)
    (k1 : r.wellSaid = true) (ok : (chainsOk q && opensWell r.prog && (frees r.toRowW && r.within.isEmpty)) = true) (hb : r.prog.bare) (hw : r.toRowW.promised)
    (call : WalkP q loose XP YP r.toRowW d kwd) : r.Holds := by
  obtain ⟨ok, k5⟩ := Bool.and_eq_true_iff.mp ok
  obtain ⟨hch, o1⟩ := Bool.and_eq_true_iff.mp ok
  obtain ⟨k5, k6⟩ := Bool.and_eq_true_iff.mp k5
  obtain ⟨hsame, hu, ha, hap, hm⟩ := frees_parts k5
  refine ⟨k1, hw, ⟨hb, o1, by show r.makers.map _ = []; rw [hm]; rfl⟩, hw.witness, fun w => ⟨(left.behind hX hch w).1, fun s' hs' => ?_⟩⟩
  obtain ⟨s₀, hf, hg0, s, hT, hz, hgens, hg, G00, y⟩ := (left.behind (XP := fun mg h => XP mg h ∧ RecFacts r.records h) (fun s hs => ⟨hX s hs, hRf s hs⟩) hch w).2 s' hs'
  have G0 : Ground q loose [] XP w s (s.heap.nsMap mainGlobals) (s.heap.nsMap builtinsNs) s.heap := ⟨G00.T, G00.B, G00.D, G00.TE, G00.TD, G00.W, G00.X.1, G00.cls, G00.has, G00.apart, G00.once, G00.K⟩
  have RF := G00.X.2
  have pin : ∀ n ∈ (if r.pinned then [r.name] else []), isTheDefsW r.prog s.heap n := fun n hn => by
    obtain rfl : n = r.name := by split at hn <;> simp_all
    exact pinned_of_view hg G0 hdef hp hk
  refine ⟨s₀, hf, hg0, s, hT, pin, RF.1, RF.2.1, ?_⟩
  have hgens : s.gens = #[] := Array.eq_empty_of_size_eq_zero (beq_iff_eq.mp hgens)
  have G : Ground q loose r.records XP w s _ _ s.heap := RF.ground G0
  refine callFrom_P (c := r.toRowW.claim) hz hgens fun args hpre hlay ord hord => ?_
  obtain ⟨⟨vs, s₁⟩, hlaid⟩ := Option.isSome_iff_exists.mp (layAllW_isSome (P := w.params) (ord := ord) G.has args r.args s (pre_splitW hpre).1)
  have keeps := layAllW_keeps _ _ _ hlaid
  have hal := layAllW_rest _ _ _ hlaid
  obtain ⟨as, hrd, hin, hold⟩ := reads_layAllW hord _ _ _ hlaid hlay s₁.heap (fun _ _ e => e)
  have L : Laid r.records w s s₁ args vs as := ⟨⟨ord, hord, hlaid⟩, hrd, hin, hold, keeps, hal.1.trans hgens, hal.2.2.1⟩
  have G₁ := G.keeps hXk keeps
  have hi := ident_freeW hu ha hap
  have hwi : r.toRowW.claim.within = [] := List.isEmpty_iff.mp k6
  obtain ⟨a, o, pm, cd, doc, dV, kV, h1, h2, h3, h4, h5⟩ := G₁.fn hdef
  have h := call w s s₁ _ _ G₁ (hYk _ _ _ (hY w s y) keeps) a o pm cd doc dV kV h2 h3 h4 h5 (defOf_name hdef ▸ h1) L.gens args vs as hpre hlay L.reads L.well (L.low G.low)
  refine ⟨vs, s₁, hlaid, P_bindA (wpAny_nsGet G₁.T.g ?_)⟩
  rw [h1]
  refine P_bind (P_mono h (fun v s' g => P_pure ⟨_, rfl, ?_⟩) fun e s' g => ?_)
  · have z := g.laid (c := r.toRowW.claim) hsame hwi hi L
    exact ⟨z.1, z.2.1, z.2.2, fun q => ⟨namesKept_of hT hg _ keeps g.2.1.old, noTable hwr q⟩⟩
  · have z := g.laid (c := r.toRowW.claim) hsame hwi hi L
    exact ⟨z.1, z.2.1, z.2.2, fun q => ⟨namesKept_of hT hg _ keeps g.2.1.old, noTable hwr q⟩⟩
noncomputable def toBE : Nat → Nat → List UInt8
  | 0, _ => []
  | n + 1, x => toBE n (x / 256) ++ [UInt8.ofNat (x % 256)]
noncomputable def beI (l : List UInt8) : Nat := l.foldl (fun a b => a * 256 + b.toNat) 0
theorem u8lt (x : UInt8) : ((x.toNat : Nat) : Int) < 256 := by have := x.toNat_lt; walk_at "om"
theorem u8nat (x : UInt8) : (((x.toNat : Nat) : Int).toNat).toUInt8 = x := by
  rw [Int.toNat_natCast]; exact UInt8.ofNat_toNat
theorem toBE_length : ∀ n x, (toBE n x).length = n
  | 0, _ => rfl
  | n + 1, x => by rw [toBE, List.length_append, toBE_length n]; rfl
theorem toBE_low (n : Nat) : ∀ (x : Nat), x < 256 ^ n → (KTBy.low (x : Int) n).reverse = toBE n x := by
  intro x hx
  have h1 := KTBy.low_ints (x := (x : Int)) (n := n) (by walk_at "om") (by rw [KTBy.p256]; walk_at "om")
  have inj : ∀ {a b : List UInt8}, a.map (fun c => ((c.toNat : Nat) : Int)) = b.map (fun c => ((c.toNat : Nat) : Int)) → a = b := by
    intro a
    induction a with
    | nil => intro b h; cases b; rfl; simp at h
    | cons c r ih =>
      intro b h
      cases b with
      | nil => simp at h
      | cons c' r' =>
        simp only [List.map_cons, List.cons.injEq] at h
        rw [ih h.2]
        congr 1
        exact UInt8.toNat.inj (by walk_at "om")
  apply inj
  rw [List.map_reverse, h1]
  clear h1 hx inj
  induction n generalizing x with
  | zero => rfl
  | succ n ih =>
    rw [List.range_succ_eq_map, List.map_cons, List.map_map, List.reverse_cons, toBE, List.map_append, ← ih (x / 256)]
    congr 1
    · congr 1
      refine List.map_congr_left fun i _ => ?_
      show (x : Int) / 256 ^ (i + 1) % 256 = ((x / 256 : Nat) : Int) / 256 ^ i % 256
      rw [KTBy.p256, KTBy.p256]
      have : x / 256 ^ (i + 1) = x / 256 / 256 ^ i := by rw [Nat.pow_succ, Nat.mul_comm, Nat.div_div_eq_div_mul]
      rw [← Int.natCast_ediv, ← Int.natCast_ediv, this]
    · simp only [List.map_cons, List.map_nil, List.cons.injEq, and_true]
      rw [Int.pow_zero, Int.ediv_one]
      have : (UInt8.ofNat (x % 256)).toNat = x % 256 := by rw [UInt8.toNat_ofNat']; walk_at "om"
      rw [this]; walk_at "om"
section
variable {prog : Program} {w : World} {A : Around} {K : Frag} {H0 h : Heap} {fs : List (Nat × Map)} {H : PH} {n : Nat} {L : Nat} {m : Map} {g : Array GenState} {d : Drawn} {tk : Nat} {os : OsState}
  {E : Value → Shared → Prop} {P : Params}
theorem eqd {a b : Int} : (a == b) = decide (a = b) := by
  by_cases q : a = b <;> simp [q]
theorem ned {a b : Int} : (a != b) = decide (a ≠ b) := by
  by_cases q : a = b <;> simp [q]
section
variable {a b : Int} {t u : Tok} {Q : Value → Shared → Prop}
theorem r_and (q : ∀ t' tk', Q (.int (Builtin.bitAnd a b) t') ⟨h, g, d, tk', os⟩) : wpAny (model prog w) A (binaryOp .BitAnd (.int a t) (.int b u)) Q E ⟨h, g, d, tk, os⟩ := and_int (q _ _)
theorem r_or (q : ∀ t' tk', Q (.int (Builtin.bitOr a b) t') ⟨h, g, d, tk', os⟩) : wpAny (model prog w) A (binaryOp .BitOr (.int a t) (.int b u)) Q E ⟨h, g, d, tk, os⟩ := or_int (q _ _)
theorem r_xor (q : ∀ t' tk', Q (.int (Builtin.bitXor a b) t') ⟨h, g, d, tk', os⟩) : wpAny (model prog w) A (binaryOp .BitXor (.int a t) (.int b u)) Q E ⟨h, g, d, tk, os⟩ := xor_int (q _ _)
theorem r_ixor (q : ∀ t' tk', Q (.int (Builtin.bitXor a b) t') ⟨h, g, d, tk', os⟩) : wpAny (model prog w) A (inplaceOp .BitXor (.int a t) (.int b u)) Q E ⟨h, g, d, tk, os⟩ := ixor_int (q _ _)
theorem r_inv (q : ∀ t' tk', Q (.int (Builtin.bitNot a) t') ⟨h, g, d, tk', os⟩) : wpAny (model prog w) A (unaryOp .Invert (.int a t)) Q E ⟨h, g, d, tk, os⟩ := invert_int (q _ _)
theorem r_neg (q : ∀ t' tk', Q (.int (-a) t') ⟨h, g, d, tk', os⟩) : wpAny (model prog w) A (unaryOp .USub (.int a t)) Q E ⟨h, g, d, tk, os⟩ := PyProof.Rows.neg_int (q _ _)
theorem r_shl (h0 : 0 ≤ b) (h1 : b ≤ 1000000) (h2 : a.natAbs < 2 ^ 64) (q : ∀ t' tk', Q (.int (a * 2 ^ b.toNat) t') ⟨h, g, d, tk', os⟩) : wpAny (model prog w) A (binaryOp .LShift (.int a t) (.int b u)) Q E ⟨h, g, d, tk, os⟩ := lshift_int_small h0 h1 h2 (q _ _)
theorem r_pow (h0 : 0 ≤ b) (h1 : b ≤ 1000) (h2 : a.natAbs < 2 ^ 64) (q : ∀ t' tk', Q (.int (a ^ b.toNat) t') ⟨h, g, d, tk', os⟩) : wpAny (model prog w) A (binaryOp .Pow (.int a t) (.int b u)) Q E ⟨h, g, d, tk, os⟩ := by
  refine pow_int h0 ?_ (q _ _)
  have h3 : Builtin.Int.intBits a ≤ 64 := intBits_le_iff.mpr h2
  have h5 : ((Builtin.Int.intBits a : Nat) : Int) * b ≤ 64 * b := Int.mul_le_mul_of_nonneg_right (by walk_at "om") h0
  walk_at "om"
theorem r_eqi (q : Q (.bool (decide (a = b))) ⟨h, g, d, tk, os⟩) : wpAny (model prog w) A (compareOp .Eq (.int a t) (.int b u)) Q E ⟨h, g, d, tk, os⟩ := PyProof.Rows.eq_int (by rw [eqd]; exact q)
theorem r_nei (q : Q (.bool (decide (a ≠ b))) ⟨h, g, d, tk, os⟩) : wpAny (model prog w) A (compareOp .NotEq (.int a t) (.int b u)) Q E ⟨h, g, d, tk, os⟩ := PyProof.Rows.ne_int (by rw [ned]; exact q)
theorem r_gt (q : Q (.bool (decide (b < a))) ⟨h, g, d, tk, os⟩) : wpAny (model prog w) A (compareOp .Gt (.int a t) (.int b u)) Q E ⟨h, g, d, tk, os⟩ := PyProof.Rows.gt_int q
theorem r_le (q : Q (.bool (decide (a ≤ b))) ⟨h, g, d, tk, os⟩) : wpAny (model prog w) A (compareOp .LtE (.int a t) (.int b u)) Q E ⟨h, g, d, tk, os⟩ := PyProof.Rows.le_int q
theorem r_ge (q : Q (.bool (decide (b ≤ a))) ⟨h, g, d, tk, os⟩) : wpAny (model prog w) A (compareOp .GtE (.int a t) (.int b u)) Q E ⟨h, g, d, tk, os⟩ := PyProof.Rows.ge_int q
theorem r_truthy_int {Q : Bool → Shared → Prop} (q : Q (decide (a ≠ 0)) ⟨h, g, d, tk, os⟩) : wpAny (model prog w) A (truthy (.int a t)) Q E ⟨h, g, d, tk, os⟩ := PyProof.Rows.truthy_int (by rw [ned]; exact q)
theorem r_boolint (q : Q (.bool (decide (a ≠ 0))) ⟨h, g, d, tk, os⟩) : wpAny (model prog w) A (call (.type "bool") [.int a t]) Q E ⟨h, g, d, tk, os⟩ := call_bool_int (by rw [ned]; exact q)
theorem r_intbool {c : Bool} (q : ∀ t' tk', Q (.int (if c then 1 else 0) t') ⟨h, g, d, tk', os⟩) : wpAny (model prog w) A (call (.type "int") [.bool c]) Q E ⟨h, g, d, tk, os⟩ := call_int_bool (q _ _)
theorem r_max (hh : A.handled = none) (R : RC P H0 fs H n h) (q : ∀ h' t' tk', RC P H0 fs H n h' → Q (.int (max a b) t') ⟨h', g, d, tk', os⟩) :
    wpAny (model prog w) A (call (.builtin "max") [.int a t, .int b u]) Q E ⟨h, g, d, tk, os⟩ := by
  refine with_size (max_two_ints hh fun h' tk' hk => ?_)
  have e : (if b > a then Value.int b u else Value.int a t) = .int (max a b) (if b > a then u else t) := by
    by_cases c : b > a
    · rw [if_pos c, if_pos c]; congr 1; walk_at "om"
    · rw [if_neg c, if_neg c]; congr 1; walk_at "om"
  rw [e]
  exact fun hs => q _ _ _ (R.kept hk hs)
end
theorem r_newlist {vs : List Value} {Q : Value → Shared → Prop} (R : RC P H0 fs H n h) (hz : H0.objs.size ≤ n) (hs : vs.length ≤ 1000000)
    (q : ∀ (a : Nat) h', n ≤ a → RC P H0 fs (H.set a (.lst vs)) (a + 1) h' → Q (.ref a) ⟨h', g, d, tk, os⟩) : wpAny (model prog w) A (newList vs) Q E ⟨h, g, d, tk, os⟩ :=
  wpAny_newList (q _ _ R.sz (R.push (x := .lst vs) ⟨_, rfl⟩ rfl (Nat.le_trans hz R.sz))) (by rw [sizeLine_eq]; walk_at "om")
theorem r_newtuple {vs : List Value} {Q : Value → Shared → Prop} (R : RC P H0 fs H n h) (hz : H0.objs.size ≤ n) (hs : vs.length ≤ 1000000)
    (q : ∀ (a : Nat) h', n ≤ a → RC P H0 fs (H.set a (.tup vs)) (a + 1) h' → Q (.ref a) ⟨h', g, d, tk, os⟩) : wpAny (model prog w) A (newTuple vs) Q E ⟨h, g, d, tk, os⟩ :=
  wpAny_newTuple (q _ _ R.sz (R.push (x := .tup vs) ⟨_, rfl⟩ rfl (Nat.le_trans hz R.sz))) (by rw [sizeLine_eq]; walk_at "om")
theorem r_truthy_list {l : Nat} {vs : List Value} {Q : Bool → Shared → Prop} (R : RC P H0 fs H n h) (e : H l = some (.lst vs)) (hs : vs.length < 2 ^ 62)
    (q : ∀ tk', Q (!vs.isEmpty) ⟨h, g, d, tk', os⟩) : wpAny (model prog w) A (truthy (.ref l)) Q E ⟨h, g, d, tk, os⟩ :=
  wpAny_truthy_list (R.list e) (by simp; walk_at "om") (by have := q (tk + 1 + 1); simpa using this)
theorem r_in_ints {l : Nat} {vs : List Value} {ns : List Int} {k : Int} {t : Tok} {Q : Value → Shared → Prop} (R : RC P H0 fs H n h) (e : H l = some (.lst vs)) (hi : IntsAre vs ns)
    (q : Q (.bool (ns.any (· == k))) ⟨h, g, d, tk, os⟩) : wpAny (model prog w) A (compareOp .In (.int k t) (.ref l)) Q E ⟨h, g, d, tk, os⟩ := in_list_ints (R.list e) hi q
section
variable {x y : List UInt8} {t u : Tok} {Q : Value → Shared → Prop}
theorem r_to_bytes_m {a : Int} {pl : Sem Bool} {Q : Value × List Value → Shared → Prop} (q : Q (.builtin "int.to_bytes", [.int a t]) ⟨h, g, d, tk, os⟩) :
    wpAny (model prog w) A (getMethod (.int a t) (PySem.Str.ofString "to_bytes") pl) Q E ⟨h, g, d, tk, os⟩ := KTBy.method q
theorem r_to_bytes {a k : Int} {v : Tok} (h0 : 0 ≤ a) (h1 : a.toNat < 256 ^ k.toNat) (hk0 : 0 ≤ k) (hk : k ≤ 100000) (q : ∀ t' tk', Q (.bytes (toBE k.toNat a.toNat).toArray t') ⟨h, g, d, tk', os⟩) :
    wpAny (model prog w) A (call (.builtin "int.to_bytes") [.int a t, .int k u, .str (PySem.Str.ofString "big") v]) Q E ⟨h, g, d, tk, os⟩ := by
  obtain ⟨x, rfl⟩ := Int.eq_ofNat_of_zero_le h0
  obtain ⟨k, rfl⟩ := Int.eq_ofNat_of_zero_le hk0
  simp only [Int.toNat_natCast] at h1 q
  have hlow := toBE_low k x h1
  have hll := KTBy.low_length (x : Int) k
  have hlow' : List.reverse (KTBy.low (x : Int) (Int.toNat (k : Int))) = toBE k x := by rw [Int.toNat_natCast]; exact hlow
  refine wpAny_call_entry KTBy.slot (typeIs_int _ _ _) KTBy.entry ?_ (KTBy.args _ _ _)
  have hb := KTBy.bits_le (x := (x : Int)) (k := k) rfl (by walk_at "om") (by rw [KTBy.p256]; walk_at "om")
  show wpAny _ _ (Builtin.Int.intOfSelf (.int (x : Int) t) >>= fun y => _) _ _ _
  refine wpAny_bind (wpAny_of_eq (a := (x : Int)) rfl ?_)
  show wpAny _ _ (Builtin.Int.intBindNamed "to_bytes" ["length", "byteorder", "signed"] 0 2 [.int (k : Int) u, .str (PySem.Str.ofString "big") v] [] >>= fun l => _) _ _ _
  refine wpAny_bind (wpAny_of_eq (a := [some (.int (k : Int) u), some (.str (PySem.Str.ofString "big") v), none]) (by kernel_rfl) ?_)
  show wpAny _ _ (Builtin.Int.intIndex "int.to_bytes" (.int (k : Int) u) >>= fun n => _) _ _ _
  refine wpAny_bind (wpAny_of_eq (a := (k : Int)) rfl ?_)
  refine KTBy.if_not (by show (decide ((k : Int) < -(2 ^ 63 : Int)) || decide ((k : Int) ≥ 2 ^ 63)) = false; rw [decide_eq_false (show ¬ ((k : Int) < -(2 ^ 63 : Int)) by walk_at "om"), decide_eq_false (show ¬ ((k : Int) ≥ 2 ^ 63) by walk_at "om")]; rfl) ?_
  refine wpAny_bind (wpAny_of_eq (a := PySem.Str.ofString "big") (by kernel_rfl) ?_)
  refine wpAny_bind (wpAny_of_eq (a := false) rfl ?_)
  refine wpAny_bind (wpAny_of_eq (a := false) (by kernel_rfl) ?_)
  refine wpAny_ite_false (decide_eq_false (show ¬ ((k : Int) < 0) by walk_at "om")) ?_
  refine wpAny_ite_false (decide_eq_false (show ¬ ((k : Int) > 2 ^ 63 - 1 - 33) by walk_at "om")) ?_
  refine wpAny_ite_false (decide_eq_false (show ¬ ((k : Int) > (sizeLine : Int)) by rw [sizeLine_eq]; walk_at "om")) ?_
  refine KTBy.if_not (by show (decide ((x : Int) < 0) && !false) = false; rw [decide_eq_false (show ¬ (x : Int) < 0 by walk_at "om")]; rfl) ?_
  refine KTBy.if_not (by show (_ && decide ((Builtin.Int.intBits (x : Int) : Int) > 8 * (k : Int))) = false; rw [decide_eq_false (show ¬ ((Builtin.Int.intBits (x : Int) : Int) > 8 * (k : Int)) by walk_at "om"), Bool.and_false]) ?_
  refine wpAny_bind (wpAny_mkBytes (wpAny_pure ⟨_, rfl, ?_⟩) ?_)
  · show Q (.bytes (List.toArray (List.reverse (KTBy.low (x : Int) (Int.toNat (k : Int))))) _) _
    rw [hlow']
    exact q _ _
  · show (List.reverse (KTBy.low (x : Int) (Int.toNat (k : Int)))).length ≤ sizeLine
    rw [hlow', toBE_length, sizeLine_eq]; walk_at "om"
theorem picked_lo {i : Int} (h0 : 0 ≤ i) : (KBy.picked x.toArray (some i) none) = (x.drop i.toNat).toArray := by
  obtain ⟨k, rfl⟩ := Int.eq_ofNat_of_zero_le h0
  rw [KBc.picked_eq]
  congr 1
  simp only [Option.elim, List.size_toArray]
  rw [clipAt_nat]
  by_cases c : k ≤ x.length
  · rw [Nat.min_eq_left c, Int.toNat_natCast]; exact List.take_of_length_le (by simp)
  · have a1 : x.drop (min k x.length) = [] := by rw [List.drop_eq_nil_iff]; walk_at "om"
    have a2 : x.drop k = [] := by rw [List.drop_eq_nil_iff]; walk_at "om"
    rw [a1, Int.toNat_natCast, a2, List.take_nil]
theorem picked_hi {i : Int} (h0 : 0 ≤ i) : (KBy.picked x.toArray none (some i)) = (x.take i.toNat).toArray := by
  obtain ⟨k, rfl⟩ := Int.eq_ofNat_of_zero_le h0
  rw [KBc.picked_eq]
  congr 1
  simp only [Option.elim, List.size_toArray, List.drop_zero, Nat.sub_zero]
  rw [clipAt_nat, Int.toNat_natCast]
  by_cases c : k ≤ x.length
  · rw [Nat.min_eq_left c]
  · rw [Nat.min_eq_right (by walk_at "om"), List.take_of_length_le (by simp), List.take_of_length_le (by walk_at "om")]
theorem picked_both {i j : Int} (h0 : 0 ≤ i) (h1 : 0 ≤ j) : (KBy.picked x.toArray (some i) (some j)) = ((x.take j.toNat).drop i.toNat).toArray := by
  obtain ⟨k, rfl⟩ := Int.eq_ofNat_of_zero_le h0
  obtain ⟨l, rfl⟩ := Int.eq_ofNat_of_zero_le h1
  rw [KBc.picked_eq]
  congr 1
  simp only [Option.elim, List.size_toArray]
  rw [clipAt_nat, clipAt_nat, Int.toNat_natCast, Int.toNat_natCast, List.drop_take]
  by_cases c : k ≤ x.length
  · rw [Nat.min_eq_left c]
    by_cases c2 : l ≤ x.length
    · rw [Nat.min_eq_left c2]
    · rw [Nat.min_eq_right (by walk_at "om"), List.take_of_length_le (by simp), List.take_of_length_le (by simp; walk_at "om")]
  · have a1 : x.drop (min k x.length) = [] := by rw [List.drop_eq_nil_iff]; walk_at "om"
    have a2 : x.drop k = [] := by rw [List.drop_eq_nil_iff]; walk_at "om"
    rw [a1, a2]; simp
theorem r_bslice {value slice : Expr} {l v : Value} {lo hi : Option Int} (R : RC P H0 fs H n h) (hl : IsPart l lo) (hu : IsPart v hi) (hz : x.length ≤ 1000000)
    (q : ∀ h' t' tk', RC P H0 fs H n h' → Q (.bytes (KBy.picked x.toArray lo hi) t') ⟨h', g, d, tk', os⟩)
    (hs : ∀ a, subscripted slice false (.bytes x.toArray t) (.ref a) = operate [.ref a, .bytes x.toArray t] (getItem (.bytes x.toArray t) (.ref a))) (ht : ∀ r, letTemporaryGo value (.bytes x.toArray t) r = pure ()) :
    wpAny (model prog w) A (subscriptTail value slice (.bytes x.toArray t) (.ref h.objs.size)) Q E ⟨h.push { cls := .type "slice", data := .fields #[l, v, .none] }, g, d, tk, os⟩ :=
  tail_of_ItemOn ⟨"bytes", _, FB.slot_bytes_getitem.lookup, typeIs_bytes _ _ _, getItem_meets (typeIs_bytes _ _ _) (by decide) FB.slot_bytes_getitem FB.entry_bytes_getitem (FB.args_bytes_getitem_2 _ _) (KBc.meets_slice2 _ t _ hl hu)
    ⟨Heap.IsSliceOf.new _ _ _ _, Nat.le_trans (KBc.size_picked_le _ lo hi) (by rw [sizeLine_eq]; simp; walk_at "om"), fun t' k => q _ _ _ R.pushed⟩⟩ (hs _) ht
end
end
section
variable {prog : Program} {w : World} {A : Around} {K : Frag} {H0 h : Heap} {fs : List (Nat × Map)} {H : PH} {n : Nat} {L : Nat} {m : Map} {g : Array GenState} {d : Drawn} {tk : Nat} {os : OsState}
  {E : Value → Shared → Prop} {P : Params}
theorem r_fb_m {pl : Sem Bool} {Q : Value × List Value → Shared → Prop} (R : RC P H0 fs H n h) (G : Gd K H0) (hz : H0.objs.size ≤ n)
    (e : findCls K (.type "int") (.type "type") (PySem.Str.ofString "from_bytes") = some (.get (.builtin "classmethod_descriptor.__get__") (.builtin "int.from_bytes") .none (.type "int")))
    (q : ∀ (a : Nat) h', n ≤ a → RC P H0 fs (H.set a (.raw KFB.bound)) (a + 1) h' → Q (.ref a, []) ⟨h', g, d, tk + 1, os⟩) :
    wpAny (model prog w) A (getMethod (.type "int") (PySem.Str.ofString "from_bytes") pl) Q E ⟨h, g, d, tk, os⟩ := by
  have X := G.at R
  have hstub : opaqueClassAbove (.type "int") = pure none := by unfold opaqueClassAbove; dsimp only; rw [show Manifest.isStub "int" = false by decide +kernel]; rfl
  have ht : typeOf (.type "int") = pure (.type "type") := by first | rfl | kernel_rfl
  have L0 : Looks (model prog w) h (typeOf (.type "int")) (.type "type") := Looks.of_pure ht
  have hg : findIn K (.type "type") "__getattribute__" = some (some (.builtin "type.__getattribute__")) := type_tga
  unfold getMethod specialOf
  refine wpAny_bind (wpAny_bind (L0.here ((looks_findIn X hg).here ?_)))
  dsimp only
  rw [if_pos canon_tga]
  refine wpAny_bind (wpAny_mono (Q := fun v => Q (v, [])) (E := E) ?_ (fun _ _ z => wpAny_pure z) fun _ _ z => z)
  have LO : Looks (model prog w) h (opaqueClassAbove (.type "int")) none := Looks.of_pure hstub
  refine cls_open (s := ⟨h, g, d, tk, os⟩) X LO L0 hg (looks_hook X (r := none) (by rfl)) (by show subIn K _ _ = _; rfl) e ?_
  show wpAny _ _ (holding [.builtin "int.from_bytes"] (call (.builtin "classmethod_descriptor.__get__") [.builtin "int.from_bytes", .none, .type "int"]) >>= fun v => ret v) _ _ _
  exact wpAny_bind (wpAny_holding (wpAny_call_entry KFB.slot_get KFB.type_fb KFB.entry_get (KFB.run_get ⟨_, rfl, wpAny_pure (wpAny_pure (q _ _ R.sz (R.push (x := .raw KFB.bound) rfl rfl (Nat.le_trans hz R.sz))))⟩) (KFB.args_get _ _ _)))
theorem r_fb_stands {a : Nat} (R : RC P H0 fs H n h) (e : H a = some (.raw KFB.bound)) : KFB.StandsAt a h := by
  obtain ⟨o, ho, rfl⟩ := R.obj e; exact ho
theorem r_fb_cw {M : Model} {s : Shared} {pos : Pos} {u : Nat} {first : List Value} {env : Env} {e : Expr} {rest : List Expr} {Q : Value → Shared → Prop}
    (h : wpAny M A (spliced (backTo pos (starEach (e :: rest) env))) (fun vs s₁ => KFB.StandsAt u s₁.heap ∧ wpAny M A (call (.ref u) (first ++ vs)) Q E s₁) E s)
    (he : starEach (e :: rest) env = (false, eval e env) :: starEach rest env := by rfl) (hplain : (backTo pos (starEach rest env)).any (·.1) = false := by rfl) :
    wpAny M A (callWith pos (.ref u) first (backTo pos (starEach (e :: rest) env)) []) Q E s := by
  rw [he] at h ⊢
  refine KFB.callWith_fields (by show (false || (backTo pos (starEach rest env)).any (·.1)) = false; rw [hplain]; rfl) ?_
  exact evalArgs_plain h
theorem beI_lt (l : List UInt8) : beI l < 256 ^ l.length := by
  have := KFB.fold_lt l 0
  simpa [beI] using this
theorem grown' {M : Model} {s : Shared} {n N : Nat} {Q : Value → Shared → Prop} (hN : N ≤ 10000) (hn : n < 256 ^ N) (h : Q (.int (n : Int) s.toks) { s with toks := s.toks + 1 }) : wpAny M A (mkIntGrown (n : Int)) Q E s := by
  unfold mkIntGrown
  have hl : ¬ ((n : Int).natAbs.log2 ≥ bitsLine) := by
    rw [Int.natAbs_natCast]
    have hb : bitsLine = 134217728 := by first | rfl | decide
    by_cases hz : n = 0
    · subst hz
      rw [hb]
      decide
    · have e : 256 ^ N = 2 ^ (8 * N) := by rw [Nat.pow_mul]
      have h1 := (Nat.log2_lt hz).mpr (Nat.lt_of_lt_of_eq hn e)
      walk_at "om"
  rw [if_neg hl]
  exact wpAny_mkInt h
theorem fb_tree {M : Model} {s : Shared} {b : List UInt8} {t u : Tok} {P : Fin → Shared → Prop} (hl : b.length ≤ 10000) (h : P (.done (.ret (.int (beI b : Nat) s.toks))) { s with toks := s.toks + 1 }) :
    wpAny M A (Builtin.«int.from_bytes» ⟨[.type "int", .bytes b.toArray t, .str (PySem.Str.ofString "big") u], []⟩) P E s := by
  have hn : beI b < 256 ^ b.length := beI_lt b
  unfold Builtin.«int.from_bytes»
  refine wpAny_bind (wpAny_of_eq (a := true) KFB.type_int ?_)
  refine KFB.if_not rfl ?_
  refine wpAny_bind (wpAny_of_eq (a := true) F.conv_sub_int ?_)
  refine KFB.if_not rfl ?_
  refine wpAny_bind (wpAny_of_eq (a := [some (.bytes b.toArray t), some (.str (PySem.Str.ofString "big") u), none]) (by kernel_rfl) ?_)
  refine wpAny_bind (wpAny_of_eq (a := PySem.Str.ofString "big") (by kernel_rfl) ?_)
  refine wpAny_bind (wpAny_of_eq (a := false) rfl ?_)
  refine wpAny_bind (wpAny_of_eq (a := false) (by kernel_rfl) ?_)
  refine wpAny_bind (wpAny_of_eq (a := b.toArray) rfl ?_)
  show wpAny _ _ (mkIntGrown (b.toArray.toList.foldl (fun (acc : Int) (b : UInt8) => acc * 256 + (b.toNat : Int)) ((0 : Nat) : Int)) >>= fun v => _) _ _ _
  rw [KFB.foldI_eq]
  refine wpAny_bind (grown' hl hn ?_)
  refine KFB.if_so (by decide +kernel) ?_
  exact wpAny_bind (wpAny_pure (wpAny_pure h))
theorem r_fb {a : Nat} {b : List UInt8} {t u : Tok} {Q : Value → Shared → Prop} (R : RC P H0 fs H n h) (e : H a = some (.raw KFB.bound)) (hl : b.length ≤ 10000)
    (q : ∀ t' tk', Q (.int (beI b : Nat) t') ⟨h, g, d, tk', os⟩) : wpAny (model prog w) A (call (.ref a) [.bytes b.toArray t, .str (PySem.Str.ofString "big") u]) Q E ⟨h, g, d, tk, os⟩ :=
  KFB.call_of (s := ⟨h, g, d, tk, os⟩) (r_fb_stands R e) (fun z => fb_tree hl z) (q _ _)
theorem r_bytes_ints {l : Nat} {vs : List Value} {ns : List Int} {Q : Value → Shared → Prop} (R : RC P H0 fs H n h) (hh : A.handled = none) (e : H l = some (.lst vs)) (hi : IntsAre vs ns) (hr : ∀ k ∈ ns, 0 ≤ k ∧ k < 256) (hs : ns.length ≤ 100000)
    (q : ∀ h' t tk', RC P H0 fs H n h' → Q (.bytes (ns.map fun k => k.toNat.toUInt8).toArray t) ⟨h', g, d, tk', os⟩) : wpAny (model prog w) A (call (.type "bytes") [.ref l]) Q E ⟨h, g, d, tk, os⟩ := by
  refine with_size (call_bytes_ints (R.list e) hi hr (by rw [hi.length, sizeLine_eq]; walk_at "om") hh fun h' t k hk => ?_)
  exact fun hs => q _ _ _ (R.kept hk hs)
theorem no_bytes_int : typeLookup (.type "int") "__bytes__" = pure none := by rw [typeLookup_type, builtinLookup_eq_fast]; kernel_rfl
theorem fits_of {i : Int} (h0 : 0 ≤ i) (h1 : i < 2 ^ 62) : Builtin.Bytes.fitsIndex i = true := by
  unfold Builtin.Bytes.fitsIndex
  rw [decide_eq_true (show -(2 ^ 63 : Int) ≤ i by walk_at "om"), decide_eq_true (show i < 2 ^ 63 by walk_at "om")]; rfl
theorem r_bytes_zero {i : Int} {t : Tok} {Q : Value → Shared → Prop} (h0 : 0 ≤ i) (h1 : i ≤ 100000)
    (q : ∀ t' tk', Q (.bytes (List.replicate i.toNat (0 : UInt8)).toArray t') ⟨h, g, d, tk', os⟩) : wpAny (model prog w) A (call (.type "bytes") [.int i t]) Q E ⟨h, g, d, tk, os⟩ := by
  refine callType_codes (Q₁ := fun obj s₁ => s₁.TypeIs obj "bytes" ∧ Q obj s₁) F.bm_called (F.bm_typeCall _) F.entry_object_init ?_ fun obj s₁ h₁ => ?_
  · refine codeAny_of_tree ?_
    show wpAny _ A.in1.in1 (do checkBuiltinCall "bytes.__new__" ⟨[.type "bytes", .int i t], []⟩; again (.builtin "bytes.__new__" ⟨[.type "bytes", .int i t], []⟩)) _ _ _
    refine wpAny_bind (wpAny_of_eq (F.bm_newCall _) (wpAny_pure ⟨plainId_quiet F.bm_plain _, codeAny_builtin F.bm_entry ?_⟩))
    rw [Around.under_plainId F.bm_plain _]
    unfold Builtin.«bytes.__new__»
    refine wpAny_bind (wpAny_of_eq (a := true) rfl ?_)
    refine bm_if_false rfl ?_
    refine wpAny_bind (wpAny_of_eq F.bm_sub ?_)
    refine bm_if_false rfl ?_
    refine wpAny_bind (wpAny_of_eq (F.bm_bind _) ?_)
    refine wpAny_bind (wpAny_of_eq (a := ()) rfl ?_)
    refine wpAny_bind (wpAny_of_eq (a := ()) rfl ?_)
    refine bm_if_false rfl ?_
    refine wpAny_bind (wpAny_specialOf (T := "int") (typeIs_int _ _ _) no_bytes_int ?_)
    refine wpAny_bind (wpAny_of_eq (a := false) rfl ?_)
    refine bm_if_false rfl ?_
    refine wpAny_bind (wpAny_specialOf (T := "int") (typeIs_int _ _ _) F.slot_int_index.lookup ?_)
    refine bm_if_false rfl ?_
    refine wpAny_bind (wpAny_attempt ?_)
    refine wpAny_of_eq (a := i) rfl ?_
    dsimp only
    refine bm_if_false (by rw [fits_of h0 (by walk_at "om")]; rfl) ?_
    refine wpAny_ite_false (decide_eq_false (by walk_at "om")) ?_
    refine wpAny_ite_false (decide_eq_false (by walk_at "om")) ?_
    refine bm_if_false (KBy.tooLong_not (by walk_at "om")) ?_
    refine wpAny_bind (wpAny_rule ?_)
    refine wpAny_bind (wpAny_mkBytes ?_ (by rw [sizeLine_eq]; simp; walk_at "om"))
    refine wpAny_pure ⟨PySem.W.typeIs_bytes _ _ _, ?_⟩
    have := q (tk) (tk + 1)
    simpa using this
  · exact ⟨h₁.1, F.args_object_init_2 obj _, object_init_meets F.bm_called.init.lookup F.bm_called.made (by decide) prog w A.in1 _ s₁ ⟨h₁.1, rfl, h₁.2⟩⟩
end
inductive D where
  | b (x : List UInt8)
  | i (x : Int)
  | s (x : Str)
  | none
  | bool (x : Bool)
  deriving DecidableEq
inductive DIs : Value → D → Prop
  | b (x : List UInt8) (t : Tok) : DIs (.bytes x.toArray t) (.b x)
  | i (x : Int) (t : Tok) : DIs (.int x t) (.i x)
inductive DAre : List Value → List D → Prop
  | nil : DAre [] []
  | cons {v d vs ds} : DIs v d → DAre vs ds → DAre (v :: vs) (d :: ds)
inductive BytesAre : List Value → List (List UInt8) → Prop
  | nil : BytesAre [] []
  | cons (x : List UInt8) (t : Tok) {vs xs} : BytesAre vs xs → BytesAre (.bytes x.toArray t :: vs) (x :: xs)
section
variable {prog : Program} {w : World} {A : Around} {E : Value → Shared → Prop} {s : Shared}
theorem eqBool_bytes {x y : Array UInt8} {t u : Tok} {Q : Bool → Shared → Prop} (h : Q (x.toList == y.toList) s) : wpAny (model prog w) A (eqBool (.bytes x t) (.bytes y u)) Q E s := by
  unfold eqBool
  show wpAny _ _ (if (Value.bytes x t == Value.bytes y u) = true then _ else _) Q E s
  by_cases hab : (Value.bytes x t == Value.bytes y u) = true
  · rw [if_pos hab]
    have e : x = y := by have := eq_of_beq hab; injection this
    subst e
    exact wpAny_bind (wpAny_rule (wpAny_pure (by simpa using h)))
  · rw [if_neg hab]
    exact wpAny_bind (eq_bytes (wpAny_truthy_bool h))
theorem eqG_bytes (x y : List UInt8) (t u : Tok) : MeetsSeq.EqGives (.bytes x.toArray t) (.bytes y.toArray u) (x == y) := fun _ _ _ _ _ _ h => eqBool_bytes (by simpa using h)
noncomputable def dEq : Value → Value → Bool
  | .bytes x _, .bytes y _ => x.toList == y.toList
  | .int x _, .int y _ => x == y
  | _, _ => false
end
section
variable {prog : Program} {w : World} {A : Around} {K : Frag} {H0 h : Heap} {fs : List (Nat × Map)} {H : PH} {n : Nat} {L : Nat} {m : Map} {g : Array GenState} {d : Drawn} {tk : Nat} {os : OsState}
  {E : Value → Shared → Prop} {P : Params}
noncomputable def isB (k : List UInt8) : Value → Bool
  | .bytes b _ => b.toList == k
  | _ => false
theorem isB_any (k : List UInt8) : ∀ {vs : List Value} {xs : List (List UInt8)}, BytesAre vs xs → vs.any (isB k) = xs.any (· == k)
  | _, _, .nil => rfl
  | _, _, .cons x t r => by rw [List.any_cons, List.any_cons, isB_any k r]; rfl
theorem isB_eq (k : List UInt8) (t : Tok) : ∀ {vs : List Value} {xs : List (List UInt8)}, BytesAre vs xs → ∀ y, y ∈ vs → MeetsSeq.EqGives y (.bytes k.toArray t) (isB k y)
  | _, _, .nil => fun y hy => nomatch hy
  | _, _, .cons x u r => fun y hy => by
    rcases List.mem_cons.mp hy with rfl | hy
    · exact eqG_bytes x k u t
    · exact isB_eq k t r y hy
theorem RC.tupO (R : RC P H0 fs H n h) {a : Nat} {vs : List Value} (e : H a = some (.tup vs)) : ∃ k, h.get? a = some { cls := .type "tuple", data := .seq vs.toArray k } := by
  obtain ⟨o, ho, k, rfl⟩ := R.obj e; exact ⟨k, ho⟩
theorem r_in_btup {a : Nat} {vs : List Value} {xs : List (List UInt8)} {k : List UInt8} {t : Tok} {Q : Value → Shared → Prop} (R : RC P H0 fs H n h) (e : H a = some (.tup vs)) (hi : BytesAre vs xs)
    (q : Q (.bool (xs.any (· == k))) ⟨h, g, d, tk, os⟩) : wpAny (model prog w) A (compareOp .In (.bytes k.toArray t) (.ref a)) Q E ⟨h, g, d, tk, os⟩ := by
  obtain ⟨kk, ho⟩ := R.tupO e
  exact SeqRoads2.in_tuple (isB k) (fun y hy => isB_eq k t hi y (by simpa using hy)) ho (by rw [← Array.any_toList]; show Q (.bool (vs.any (isB k))) _; rw [isB_any k hi]; exact q)
theorem r_notin_btup {a : Nat} {vs : List Value} {xs : List (List UInt8)} {k : List UInt8} {t : Tok} {Q : Value → Shared → Prop} (R : RC P H0 fs H n h) (e : H a = some (.tup vs)) (hi : BytesAre vs xs)
    (q : Q (.bool (!(xs.any (· == k)))) ⟨h, g, d, tk, os⟩) : wpAny (model prog w) A (compareOp .NotIn (.bytes k.toArray t) (.ref a)) Q E ⟨h, g, d, tk, os⟩ := by
  obtain ⟨kk, ho⟩ := R.tupO e
  exact SeqRoads2.notIn_tuple (isB k) (fun y hy => isB_eq k t hi y (by simpa using hy)) ho (by rw [← Array.any_toList]; show Q (.bool (!(vs.any (isB k)))) _; rw [isB_any k hi]; exact q)
inductive Kin : List D → List D → Prop
  | nil : Kin [] []
  | b (x y : List UInt8) {ds es} : Kin ds es → Kin (.b x :: ds) (.b y :: es)
  | i (x y : Int) {ds es} : Kin ds es → Kin (.i x :: ds) (.i y :: es)
theorem dEq_all {x y : D} {vs us : List Value} {v u : Value} {ds es : List D} (e : dEq v u = decide (x = y)) (h3 : (List.range vs.length).all (fun j => dEq (vs.getD j .none) (us.getD j .none)) = decide (ds = es)) :
    (List.range (v :: vs).length).all (fun j => dEq ((v :: vs).getD j .none) ((u :: us).getD j .none)) = decide (x :: ds = y :: es) := by
  rw [List.length_cons, List.range_succ_eq_map, List.all_cons, List.all_map]
  show (dEq v u && List.all (List.range vs.length) (fun j => dEq (vs.getD j .none) (us.getD j .none))) = _
  rw [h3, e]
  by_cases c : x = y
  · subst c; simp
  · simp [c]
theorem eqG_all {vs us : List Value} {v u : Value} (e : MeetsSeq.EqGives v u (dEq v u)) (h : ∀ j (h1 : j < vs.length) (h2 : j < us.length), MeetsSeq.EqGives vs[j] us[j] (dEq vs[j] us[j])) :
    ∀ j (h1 : j < (v :: vs).length) (h2 : j < (u :: us).length), MeetsSeq.EqGives (v :: vs)[j] (u :: us)[j] (dEq (v :: vs)[j] (u :: us)[j])
  | 0, _, _ => e
  | j + 1, j1, j2 => h j (Nat.lt_of_succ_lt_succ j1) (Nat.lt_of_succ_lt_succ j2)
theorem Kin.all {ds es : List D} (k : Kin ds es) : ∀ {vs us : List Value}, DAre vs ds → DAre us es →
    vs.length = us.length ∧ (∀ j (h1 : j < vs.length) (h2 : j < us.length), MeetsSeq.EqGives vs[j] us[j] (dEq vs[j] us[j])) ∧
    ((List.range vs.length).all (fun j => dEq (vs.getD j .none) (us.getD j .none)) = decide (ds = es)) := by
  induction k with
  | nil =>
    intro vs us p q
    cases p; cases q
    exact ⟨rfl, fun j h1 => absurd h1 (Nat.not_lt_zero _), rfl⟩
  | b x y r ih =>
    intro vs us p q
    cases p with | cons a p =>
    cases q with | cons a' q =>
    cases a; cases a'
    obtain ⟨h1, h2, h3⟩ := ih p q
    exact ⟨congrArg Nat.succ h1, eqG_all (eqG_bytes x y _ _) h2, dEq_all (by show (x == y) = _; by_cases c : x = y <;> simp [c]) h3⟩
  | i x y r ih =>
    intro vs us p q
    cases p with | cons a p =>
    cases q with | cons a' q =>
    cases a; cases a'
    obtain ⟨h1, h2, h3⟩ := ih p q
    exact ⟨congrArg Nat.succ h1, eqG_all (MeetsSeq.EqGives.int x y _ _) h2, dEq_all (by show (x == y) = _; by_cases c : x = y <;> simp [c]) h3⟩
theorem r_eq_tup {a b : Nat} {vs us : List Value} {ds es : List D} {Q : Value → Shared → Prop} {k : Nat} (R : RC P H0 fs H n h) (O : Ok A k) (e : H a = some (.tup vs)) (e' : H b = some (.tup us)) (hv : DAre vs ds) (hu : DAre us es) (hk : Kin ds es)
    (q : Q (.bool (decide (ds = es))) ⟨h, g, d, tk, os⟩) : wpAny (model prog w) A (compareOp .Eq (.ref a) (.ref b)) Q E ⟨h, g, d, tk, os⟩ := by
  obtain ⟨k1, ho1⟩ := R.tupO e
  obtain ⟨k2, ho2⟩ := R.tupO e'
  obtain ⟨h1, h2, h3⟩ := hk.all hv hu
  have t1 : h.IsTuple a vs.toArray := ⟨_, ho1, rfl, _, rfl⟩
  have t2 : h.IsTuple b us.toArray := ⟨_, ho2, rfl, _, rfl⟩
  refine SeqAt.eq_tupleAt (s := ⟨h, g, d, tk, os⟩) (e := fun j => dEq (vs.getD j .none) (us.getD j .none)) t1 t2 (by have := O.un; show _ < 9900; walk_at "om") (fun j j1 j2 => ?_) ?_
  · have j1' : j < vs.length := by simpa using j1
    have j2' : j < us.length := by simpa using j2
    have e1 : dEq (vs.getD j .none) (us.getD j .none) = dEq vs[j] us[j] := by simp [List.getD, j1', j2']
    rw [e1]
    exact (h2 j j1' j2').at _ _
  · have : (List.all (List.range (min vs.toArray.size us.toArray.size)) (fun j => dEq (vs.getD j .none) (us.getD j .none)) && vs.toArray.size == us.toArray.size) = decide (ds = es) := by
      simp only [List.size_toArray, ← h1, Nat.min_self]
      rw [h3]; simp
    rw [this]; exact q
end
section
variable {prog : Program} {w : World} {A : Around} {K : Frag} {H0 h : Heap} {fs : List (Nat × Map)} {H : PH} {n : Nat} {L : Nat} {m : Map} {g : Array GenState} {d : Drawn} {tk : Nat} {os : OsState}
  {E : Value → Shared → Prop} {P : Params}
theorem of_rcne' {s : Shared} {x y : Value} {b : Bool} {Q : Value → Shared → Prop} (hr : SeqAt.RcNeAt A s x y b) (q : Q (.bool b) s) : wpAny (model prog w) A (compareOp .NotEq x y) Q E s := hr prog w E Q q
theorem r_ne_nil {a b : Nat} {vs : List Value} {Q : Value → Shared → Prop} {k : Nat} (R : RC P H0 fs H n h) (O : Ok A k) (e : H a = some (.lst vs)) (e' : H b = some (.lst []))
    (q : Q (.bool (!vs.isEmpty)) ⟨h, g, d, tk, os⟩) : wpAny (model prog w) A (compareOp .NotEq (.ref a) (.ref b)) Q E ⟨h, g, d, tk, os⟩ := by
  cases vs with
  | nil => exact of_rcne' (SeqAt.RcNeAt.lists (s := ⟨h, g, d, tk, os⟩) (e := fun _ => true) (R.list e) (R.list e') rfl (by have := O.un; show _ < 9900; walk_at "om") (fun j j1 => absurd j1 (Nat.not_lt_zero _))) q
  | cons v r => exact of_rcne' (SeqAt.RcNeAt.lists_lengths (s := ⟨h, g, d, tk, os⟩) (R.list e) (R.list e') (by simp) (by have := O.un; show _ < 9900; walk_at "om")) q
theorem r_addlist {a b : Nat} {vs us : List Value} {Q : Value → Shared → Prop} (R : RC P H0 fs H n h) (hz : H0.objs.size ≤ n) (e : H a = some (.lst vs)) (e' : H b = some (.lst us)) (hs : vs.length + us.length ≤ 1000000)
    (q : ∀ (c : Nat) h', n ≤ c → RC P H0 fs (H.set c (.lst (vs ++ us))) (c + 1) h' → Q (.ref c) ⟨h', g, d, tk, os⟩) : wpAny (model prog w) A (binaryOp .Add (.ref a) (.ref b)) Q E ⟨h, g, d, tk, os⟩ := by
  obtain ⟨o1, ho1, k1, rfl⟩ := R.obj e
  obtain ⟨o2, ho2, k2, rfl⟩ := R.obj e'
  refine PySem.P.add_list (items := vs.toArray) (items2 := us.toArray) (n := k1) (n2 := k2) ho1 ho2 ?_ (by rw [sizeLine_eq]; simp; walk_at "om")
  exact q _ _ R.sz (R.push (x := .lst (vs ++ us)) ⟨0, by simp⟩ rfl (Nat.le_trans hz R.sz))
theorem r_item_neg {value slice : Expr} {l : Nat} {vs : List Value} {i : Int} {u : Tok} {v : Value} {Q : Value → Shared → Prop} (R : RC P H0 fs H n h) (e : H l = some (.lst vs))
    (h0 : i < 0) (h1 : -(vs.length : Int) ≤ i) (hf : vs.length < 2 ^ 62) (hx : vs[(i + vs.length).toNat]? = some v) (q : Q v ⟨h, g, d, tk, os⟩)
    (hs : subscripted slice false (.ref l) (.int i u) = operate [.ref l, .int i u] (getItem (.ref l) (.int i u)) := by with_unfolding_all rfl) :
    wpAny (model prog w) A (subscriptTail value slice (.ref l) (.int i u)) Q E ⟨h, g, d, tk, os⟩ :=
  tail_any (R.list e).typeIs slot_list_getitem.lookup (wpAny_getItem_list_neg (R.list e) h0 (by simpa using h1) (by walk_at "om") (by simpa using hx) q) hs
theorem r_lslice {value slice : Expr} {l : Addr} {vs : List Value} {i : Int} {t : Tok} {Q : Value → Shared → Prop} (R : RC P H0 fs H n h) (hz' : H0.objs.size ≤ n) (e : h.IsList l vs.toArray) (hz : vs.length ≤ 1000000) (h0 : 0 ≤ i)
    (q : ∀ (b : Nat) h', n ≤ b → RC P H0 fs (H.set b (.lst (vs.take i.toNat))) (b + 1) h' → Q (.ref b) ⟨h', g, d, tk, os⟩)
    (hs : ∀ b : Addr, subscripted slice false (.ref l) (.ref b) = operate [.ref b, .ref l] (getItem (.ref l) (.ref b)) := by intro b; with_unfolding_all rfl) :
    wpAny (model prog w) A (subscriptTail value slice (.ref l) (.ref h.objs.size)) Q E ⟨h.push { cls := .type "slice", data := .fields #[.none, .int i t, .none] }, g, d, tk, os⟩ := by
  have R1 : RC P H0 fs H n (h.push { cls := .type "slice", data := .fields #[.none, .int i t, .none] }) := R.pushed
  have e1 : (h.push { cls := .type "slice", data := .fields #[.none, .int i t, .none] }).IsList l vs.toArray := e.push _
  refine tail_any (e1.typeIs (s := ⟨_, g, d, tk, os⟩)) slot_list_getitem.lookup (wpAny_getItem_list_slice (s := ⟨_, g, d, tk, os⟩) e1 (Heap.IsSliceOf.new _ _ _ _) .none (.int _ _) .none (fun x => nomatch x) ?_ (by rw [sizeLine_eq]; simp; walk_at "om")) (hs _)
  have e2 : slicePick vs.toArray none (some i) none = (vs.take i.toNat).toArray := by
    obtain ⟨k, rfl⟩ := Int.eq_ofNat_of_zero_le h0
    unfold slicePick
    rw [sliceBounds_plain]
    simp only [sliceRange_one, pick_run]
    simp only [Option.elim, List.size_toArray, List.drop_zero, Nat.sub_zero]
    rw [clipAt_nat, Int.toNat_natCast]
    congr 1
    by_cases c : k ≤ vs.length
    · rw [Nat.min_eq_left c]
    · rw [Nat.min_eq_right (by walk_at "om"), List.take_of_length_le (by simp), List.take_of_length_le (by walk_at "om")]
  rw [e2]
  exact q _ _ R1.sz (R1.push (x := .lst (vs.take i.toNat)) ⟨_, rfl⟩ rfl (Nat.le_trans hz' R1.sz))
theorem r_unpack {elts : List Expr} {k : Nat} {pos : Pos} {env : Env} {t : Addr} {vs : List Value} {Q : Unit → Shared → Prop} (R : RC P H0 fs H n h) (hh : A.handled = none) (e : IsTup h t vs.toArray)
    (hl : (assignEach elts env).length = vs.length) (hi : (assignEach elts env).findIdx? (·.1) = none)
    (q : ∀ h', RC P H0 fs H n h' → wpAny (model prog w) A (assignInOrder ((assignEach elts env).map (·.2)) vs) Q E ⟨h', g, d, tk, os⟩) :
    wpAny (model prog w) A (assign (.Tuple elts k pos) env (.ref t)) Q E ⟨h, g, d, tk, os⟩ := by
  rw [assign_Tuple]
  refine wpAny_bind (wpAny_standAt ?_)
  unfold unpack
  rw [hi, hl]
  refine wpAny_bind (wpAny_holding (with_size (wpAny_mono (unpackItems_tuple (s := ⟨h, g, d, tk, os⟩) (items := vs.toArray) hh e (Q := fun items s' => items = vs ∧ ∃ h', s' = ⟨h', g, d, tk, os⟩ ∧ Heap.ExtBut h.objs.size h h') fun h' hk => ⟨by simp, h', rfl, hk⟩) (fun items s' x hs => ?_) fun _ _ x _ => x)))
  obtain ⟨rfl, h', rfl, hk⟩ := x
  exact q h' (R.kept (fun b o e => hk b o (Nat.ne_of_lt (ltsz e)) e) hs)
abbrev SD (prog : Program) (w : World) (kvs : List (Str × Value)) : AO := .prp fun o => o.IsDictOf (PySem.strKind prog w) kvs
abbrev ID (prog : Program) (w : World) (kvs : List (Int × Value)) : AO := .prp fun o => o.IsDictOf (intKind prog w) kvs
theorem RC.sd (R : RC P H0 fs H n h) {a : Nat} {kvs : List (Str × Value)} (e : H a = some (SD prog w kvs)) : h.DictOf (PySem.strKind prog w) a kvs := by
  obtain ⟨o, ho, hi⟩ := R.obj e; exact Heap.dictOf_iff.mpr ⟨o, ho, hi⟩
theorem r_item_sd {value slice : Expr} {a : Nat} {kvs : List (Str × Value)} {k : Str} {u : Tok} {v : Value} {Q : Value → Shared → Prop} (R : RC P H0 fs H n h) (e : H a = some (SD prog w kvs)) (hv : valueAt kvs k = some v)
    (q : ∀ tk', Q v ⟨h, g, d, tk', os⟩)
    (hs : subscripted slice false (.ref a) (.str k u) = operate [.ref a, .str k u] (getItem (.ref a) (.str k u)) := by with_unfolding_all rfl) :
    wpAny (model prog w) A (subscriptTail value slice (.ref a) (.str k u)) Q E ⟨h, g, d, tk, os⟩ :=
  tail_any (Heap.MapOf.typeIs (s := ⟨h, g, d, tk, os⟩) (R.sd e).mapOf) slot_dict_getitem.lookup (wpAny_getItem_of (strKind_is prog w k u) (R.sd e).mapOf hv (q _)) hs
theorem r_eqs {x y : Str} {t u : Tok} {b : Bool} {Q : Value → Shared → Prop} (hb : (x == y) = b) (q : Q (.bool b) ⟨h, g, d, tk, os⟩) : wpAny (model prog w) A (compareOp .Eq (.str x t) (.str y u)) Q E ⟨h, g, d, tk, os⟩ :=
  PySem.P.eq_str (by rw [eq_meets, hb]; exact q)
theorem setF_nil {name : Str} {v : Value} : setF name v [] = [(name, v)] := rfl
theorem setF_hit {name a : Str} {v x : Value} {r : List (Str × Value)} (h : (a == name) = true) : setF name v ((a, x) :: r) = (a, v) :: r := by rw [setF, if_pos h]
theorem setF_miss {name a : Str} {v x : Value} {r r' : List (Str × Value)} (h : (a == name) = false) (e : setF name v r = r') : setF name v ((a, x) :: r) = (a, x) :: r' := by rw [setF, if_neg (by rw [h]; decide), e]
theorem r_setattr2 {x C dx : Nat} {l l' : List (Str × Value)} {name : Str} {v : Value} {Q : Unit → Shared → Prop} (hP : P = w.params) (R : RC P H0 ((L, m) :: fs) H n h) (G : Gd K H0) (e : H x = some (.inst C dx)) (e' : H dx = some (.dic l)) (hl : setF name v l = l')
    (hs : findIn K (.ref C) "__setattr__" = some (some (.builtin "object.__setattr__"))) (hp : plainOver K C = true) (ht : takerIn K C name = some none) (hh : hasDictIn K C = true)
    (hz : l.length ≤ 900) (q : ∀ h' tk', RC P H0 ((L, m) :: fs) (H.set dx (.dic l')) n h' → Q () ⟨h', g, d, tk', os⟩) :
    wpAny (model prog w) A (setAttr (.ref x) name v) Q E ⟨h, g, d, tk, os⟩ := r_setattr hP R G e e' hs hp ht hh hz (by rw [hl]; exact q)
end
theorem ba_mro : mroOf (.type "bytearray") = pure [.type "bytearray", .type "object"] := by rw [mroOf_type]; kernel_rfl
theorem ba_lookup_new : typeLookup (.type "bytearray") "__new__" = pure (some (.builtin "bytearray.__new__")) := by rw [typeLookup_type, builtinLookup_eq_fast]; kernel_rfl
theorem ba_slot_init : Slot "bytearray" "__init__" "bytearray.__init__" :=
  .of (owner := "bytearray") (n := "__init__") (by rw [typeLookup_type, builtinLookup_eq_fast]; kernel_rfl) (by decide +kernel) (by decide +kernel) (by decide +kernel)
    (by first | exact .inl (by decide +kernel) | exact .inr (by decide +kernel)) (by rw [isSubtype_type]; kernel_rfl)
theorem ba_called : TypeCalled "bytearray" "bytearray.__new__" "bytearray.__init__" :=
  ⟨by decide +kernel, by decide +kernel, ⟨_, _, ba_mro⟩, madeBy_type ba_mro ba_lookup_new (by decide +kernel), by decide +kernel, by rw [isSubtype_type]; kernel_rfl, ba_slot_init⟩
theorem ba_typeCall (a : Value) : checkTypeCall "bytearray" ⟨[a], []⟩ = pure () := by kernel_rfl
theorem ba_newCall (a : Value) : checkBuiltinCall "bytearray.__new__" ⟨[.type "bytearray", a], []⟩ = pure () := by kernel_rfl
theorem ba_entry_new : entryFor table "bytearray.__new__" = some Builtin.«list.__new__» := entryFor_alias (id' := "list.__new__") (by kernel_rfl) rfl (by decide +kernel) (by kernel_rfl)
theorem ba_entry_init : entryFor table "bytearray.__init__" = some Builtin.«bytearray.__init__» := by first | exact entryFor_of_fast (by kernel_rfl) | exact entryFor_of_tree (by kernel_rfl)
theorem ba_plain_new : plainId "bytearray.__new__" = true := by decide +kernel
theorem ba_args_init (a b : Value) : argsOk "bytearray.__init__" ⟨[a, b], []⟩ := by unfold argsOk; kernel_rfl
theorem ba_sub : isSubtype (.type "bytearray") (.type "bytearray") = pure true := by rw [isSubtype_type]; kernel_rfl
set_option maxRecDepth 1000000 in
set_option maxHeartbeats 4000000 in
theorem ba_owner : ("bytearray.__new__".splitOn ".__new__").headD "" = "bytearray" := by simp +decide [String.splitOn, String.splitOnAux]
section
variable {prog : Program} {w : World} {A : Around} {E : Value → Shared → Prop} {s : Shared}
theorem ba_new (a : Value) {Q₁ : Value → Shared → Prop}
    (h : Q₁ (.ref s.heap.objs.size) { s with heap := s.heap.push { cls := .type "bytearray", data := .bytearray #[] } }) :
    codeAny (model prog w) A (.call (.builtin "bytearray.__new__") ⟨[.type "bytearray", a], []⟩) (wants Q₁ E) s := by
  refine codeAny_of_tree ?_
  show wpAny _ A.in1 (do checkBuiltinCall "bytearray.__new__" ⟨[.type "bytearray", a], []⟩; again (.builtin "bytearray.__new__" ⟨[.type "bytearray", a], []⟩)) _ _ s
  refine wpAny_bind (wpAny_of_eq (ba_newCall a) (wpAny_pure ⟨plainId_quiet ba_plain_new _, codeAny_builtin_stack ba_entry_new rfl fun p st => ?_⟩))
  rw [Around.under_plainId ba_plain_new _]
  have hsub := ba_sub
  have hown := ba_owner
  obtain ⟨hp, g, d, tk, os⟩ := s
  simp only [hown]
  wp_walk
  exact h
end
theorem okCode_b {id : String} {args : Args} (h : okCode (.builtin id args) = true) : holdsIds.contains id = false := by
  have h2 : (!holdsIds.contains id) = true := h
  simpa using h2
theorem exported_P {M : Model} {A : Around} {E : Value → Shared → Prop} {s : Shared} {v : Value} {Q : Bool → Shared → Prop} (q : Q false s) : wpP M A (Builtin.Bytes.exported v) Q E s := fun Γ p hΓ hk => by
  unfold Builtin.Bytes.exported
  show Sem.wp _ Γ (Sem.bind stack _) _ _ p s
  unfold stack
  rw [Sem.wp_bind, Sem.wp_stack]
  rw [Sem.wp_pure]
  show Sem.wp _ Γ (Sem.pure (List.any ((Γ.code, p) :: Γ.below) _)) _ _ p s
  rw [Sem.wp_pure]
  show Q (List.any ((Γ.code, p) :: Γ.below) _) s
  have e : ∀ (f : Code × Pos → Bool) (l : List (Code × Pos)), (∀ x, okCode x.1 = true → f x = false) → (∀ x ∈ l, okCode x.1 = true) → l.any f = false := by
    intro f l hf hl
    rw [List.any_eq_false]
    intro x hx
    rw [hf x (hl x hx)]; decide
  rw [e _ _ ?_ ?_]
  · exact q
  · rintro ⟨c, p⟩ hc
    cases c with
    | builtin id args =>
      have hc' := okCode_b hc
      obtain ⟨pos, kw⟩ := args
      have n1 : id ≠ "bytearray.__contains__" := fun e => by subst e; exact absurd hc' (by decide +kernel)
      have n2 : id ≠ "bytearray.__mod__" := fun e => by subst e; exact absurd hc' (by decide +kernel)
      have n3 : id ≠ "bytearray.__rmod__" := fun e => by subst e; exact absurd hc' (by decide +kernel)
      have n4 : id ≠ "_struct.pack_into.held" := fun e => by subst e; exact absurd hc' (by decide +kernel)
      have n5 : id ≠ "bytearray.find.held" := fun e => by subst e; exact absurd hc' (by decide +kernel)
      have n6 : Builtin.Bytes.decodersThatHold.contains id = false := by
        simp only [holdsIds, List.contains_eq_mem, List.mem_append, decide_eq_false_iff_not, not_or] at hc'
        rw [List.contains_eq_mem]
        exact decide_eq_false hc'.2
      cases pos with
      | nil => delta Builtin.Bytes.exported.match_1; simp only [n1, n2, n3, n4, n5, dif_neg, not_false_eq_true]
      | cons v r => delta Builtin.Bytes.exported.match_1; simp only [n1, n2, n3, n4, n5, n6, dif_neg, not_false_eq_true, Bool.and_false]
    | _ => rfl
  · intro x hx
    rcases List.mem_cons.mp hx with rfl | hx
    · exact hk.1
    · exact hk.2 x hx
theorem P_if_false {α : Type} {M : Model} {A : Around} {E : Value → Shared → Prop} {s : Shared} {c : Prop} [Decidable c] {a b : Sem α} {Q : α → Shared → Prop} (hc : ¬ c) (h : wpP M A b Q E s) : wpP M A (if c then a else b) Q E s := by
  rw [if_neg hc]; exact h
theorem codeP_builtin {prog : Program} {w : World} {A : Around} {s : Shared} {R : Result → Shared → Prop} {id : String} {args : Args} {b : Builtin} (hb : entryFor table id = some b)
    (h : wpP (model prog w) (A.under (.builtin id args)) (b args)
      (fun fin s' => match fin with | .done f => R (.ok f) s' | .again c' => c'.quiet = true ∧ okCode c' = true ∧ codeP (model prog w) A c' R s') (fun e s' => R (.error e) s') s) :
    codeP (model prog w) A (.builtin id args) R s := by
  refine codeP_tree ?_
  show wpP _ _ (match entryFor table id with | some b => b args | none => unsupported ((withoutEnding? id "#data").getD id)) _ _ s
  rw [hb]; exact h
theorem ba_look_release : typeLookup (.type "bytearray") "__release_buffer__" = pure (some (.builtin "bytearray.__release_buffer__")) := by rw [typeLookup_type, builtinLookup_eq_fast]; kernel_rfl
theorem ba_look_buffer : typeLookup (.type "bytearray") "__buffer__" = pure (some (.builtin "bytearray.__buffer__")) := by rw [typeLookup_type, builtinLookup_eq_fast]; kernel_rfl
theorem bytes_no_index : typeLookup (.type "bytes") "__index__" = pure none := by rw [typeLookup_type, builtinLookup_eq_fast]; kernel_rfl
theorem ba_bind (v : Value) : Builtin.Bytes.bindOptional "bytearray.__init__" "bytearray" ["source", "encoding", "errors"] [v] [] = pure [some v, none, none] := by kernel_rfl
theorem ba_ends : ("bytearray.__release_buffer__".endsWith ("." ++ "__release_buffer__")) = true := by decide +kernel
theorem ba_drop : "bytearray.__release_buffer__".dropRight ("__release_buffer__".length + 1) = "bytearray" := by decide +kernel
theorem ba_ends2 : ("bytearray.__buffer__".endsWith ("." ++ "__buffer__")) = true := by decide +kernel
theorem ba_drop2 : "bytearray.__buffer__".dropRight ("__buffer__".length + 1) = "bytearray" := by decide +kernel
section
variable {prog : Program} {w : World} {A : Around} {E : Value → Shared → Prop} {s : Shared} {a : Addr} {x y : Array UInt8}
abbrev baObj (b : Array UInt8) : Obj := { cls := .type "bytearray", data := .bytearray b 0 }
theorem ba_type (ho : s.heap.get? a = some (baObj x)) : s.TypeIs (.ref a) "bytearray" := ⟨_, ho, rfl⟩
theorem ba_ownRelease {Q : Bool → Shared → Prop} (ho : s.heap.get? a = some (baObj x)) (q : Q false s) : wpAny (model prog w) A (Builtin.Bytes.ownRelease (.ref a)) Q E s := by
  unfold Builtin.Bytes.ownRelease Builtin.Bytes.slotIsOwn
  refine wpAny_bind (wpAny_bind (wpAny_specialOf (ba_type ho) ba_look_release ?_))
  dsimp only
  refine bm_if_false (by rw [ba_ends]; rfl) ?_
  rw [ba_drop]
  exact wpAny_isInstance (ba_type ho) ba_sub (wpAny_pure q)
theorem ba_slotBuffer {Q : Bool → Shared → Prop} (ho : s.heap.get? a = some (baObj x)) (q : Q true s) : wpAny (model prog w) A (Builtin.Bytes.slotIsOwn (.ref a) "__buffer__") Q E s := by
  unfold Builtin.Bytes.slotIsOwn
  refine wpAny_bind (wpAny_specialOf (ba_type ho) ba_look_buffer ?_)
  dsimp only
  refine bm_if_false (by rw [ba_ends2]; rfl) ?_
  rw [ba_drop2]
  exact wpAny_isInstance (ba_type ho) ba_sub q
theorem ba_payload {Q : Array UInt8 → Shared → Prop} (ho : s.heap.get? a = some (baObj x)) (q : Q x s) : wpAny (model prog w) A (Builtin.Bytes.payload (.ref a)) Q E s := by
  unfold Builtin.Bytes.payload Builtin.Bytes.payload?
  exact wpAny_bind (wpAny_bind (wpAny_load ho (wpAny_pure (wpAny_pure q))))
theorem ba_exports {Q : Nat → Shared → Prop} (ho : s.heap.get? a = some (baObj x)) (q : Q 0 s) : wpAny (model prog w) A (Builtin.Bytes.exportsOf (.ref a)) Q E s := by
  unfold Builtin.Bytes.exportsOf
  exact wpAny_bind (wpAny_load ho (wpAny_pure q))
theorem ba_write {f : Array UInt8 → Array UInt8} {Q : Unit → Shared → Prop} (ho : s.heap.get? a = some (baObj x)) (hz : (f x).size ≤ sizeLine)
    (q : Q () { s with heap := s.heap.update a (Obj.mapBytearray f) }) : wpAny (model prog w) A (Builtin.Bytes.write (.ref a) f) Q E s := by
  show wpAny _ _ (updateBytearray a f) _ _ _
  unfold updateBytearray
  refine wpAny_bind (wpAny_load ho ?_)
  show wpAny _ _ (update a (Obj.mapBytearray f) >>= fun _ => lookBehind a) _ _ _
  refine wpAny_bind (wpAny_update ho ?_)
  refine wpAny_lookBehind (Heap.get?_update_self (Obj.mapBytearray f) ho rfl) ?_ q
  show (if (f x).size > sizeLine then some "bytearray:memory" else none) = none
  rw [if_neg (by walk_at "om")]
theorem ba_after (f : Array UInt8 → Array UInt8) (ho : s.heap.get? a = some (baObj x)) : (s.heap.update a (Obj.mapBytearray f)).get? a = some (baObj (f x)) := Heap.get?_update_self (Obj.mapBytearray f) ho rfl
theorem ba_init {t : Tok} {R : Result → Shared → Prop} (ho : s.heap.get? a = some (baObj #[])) (hz : x.size ≤ 1000000)
    (q : R (.ok (.ret .none)) { s with heap := (s.heap.update a (Obj.mapBytearray fun _ => #[])).update a (Obj.mapBytearray fun _ => x) }) :
    codeP (model prog w) A (.call (.builtin "bytearray.__init__") ⟨[.ref a, .bytes x t], []⟩) R s := by
  refine codeP_tree ?_
  show wpP _ A.in1 (do checkBuiltinCall "bytearray.__init__" ⟨[.ref a, .bytes x t], []⟩; again (.builtin "bytearray.__init__" ⟨[.ref a, .bytes x t], []⟩)) _ _ s
  refine P_bindA (ba_slot_init.check _ _ _ _ _ _ _ _ (ba_type ho) (ba_args_init _ _) ?_)
  refine P_pure ⟨plainId_quiet ba_slot_init.plain _, (by show (!holdsIds.contains "bytearray.__init__") = true; decide +kernel), codeP_builtin ba_entry_init ?_⟩
  unfold Builtin.«bytearray.__init__»
  refine P_bindA (ba_ownRelease ho ?_)
  refine P_if_false (by decide) ?_
  refine P_bindA (wpAny_of_eq (ba_bind _) ?_)
  refine P_bindA (wpAny_of_eq (a := ()) rfl ?_)
  refine P_bindA (wpAny_of_eq (a := ()) rfl ?_)
  refine P_bind (P_bind (exported_P ?_))
  show wpP _ _ (Builtin.Bytes.exportsOf (.ref a) >>= fun y => pure (decide (y > 0))) _ _ _
  refine P_bindA (ba_exports ho ?_)
  refine P_pure ?_
  refine P_if_false (by decide) ?_
  refine P_bindA (ba_write ho (by simp) ?_)
  have ho1 := ba_after (fun _ => #[]) ho
  refine P_any ?_
  refine wpAny_bind (wpAny_of_eq (a := none) rfl ?_)
  refine bm_if_false rfl ?_
  refine wpAny_bind ?_
  refine bm_if_false rfl ?_
  refine bm_if_false rfl ?_
  refine wpAny_pure ?_
  refine wpAny_bind (wpAny_specialOf (T := "bytes") (PySem.W.typeIs_bytes _ _ _) bytes_no_index ?_)
  refine bm_if_false rfl ?_
  refine wpAny_bind (wpAny_of_eq KBy.buffer_eq ?_)
  refine wpAny_bind (wpAny_rule ?_)
  refine wpAny_bind (ba_write ho1 (by rw [sizeLine_eq]; walk_at "om") ?_)
  exact wpAny_pure q
end
section
variable {prog : Program} {w : World} {A : Around} {E : Value → Shared → Prop} {s : Shared}
theorem ba_call {x : Array UInt8} {t : Tok} {Q : Value → Shared → Prop} (hz : x.size ≤ 1000000)
    (q : Q (.ref s.heap.objs.size) { s with heap := ((s.heap.push (baObj #[])).update s.heap.objs.size (Obj.mapBytearray fun _ => #[])).update s.heap.objs.size (Obj.mapBytearray fun _ => x) }) :
    wpP (model prog w) A (call (.type "bytearray") [.bytes x t]) Q E s := by
  have ft := ba_called
  obtain ⟨c, tl, hmro⟩ := ft.mro
  have hmade := ft.made
  have hsub := ft.sub
  refine P_call (codeP_tree ?_)
  show wpP _ _ (callAny (.type "bytearray") _) _ _ _
  refine P_pure ⟨Code.quiet_builtin _ (by decide +kernel), by show (!holdsIds.contains "type.__call__") = true; decide +kernel, codeP_builtin F.entry_type_call ?_⟩
  rw [Around.under_plain (weight_type_call_type "bytearray" [.bytes x t] []) rfl]
  have h1 := ft.notType
  have h2 := ft.canCreate
  have hct := ba_typeCall (.bytes x t)
  unfold Builtin.«type.__call__»
  dsimp only
  refine P_if_false (by decide) ?_
  refine P_if_false (by rw [h2]; decide) ?_
  refine P_bindA (wpAny_of_eq hct ?_)
  refine P_bindA (wpAny_of_eq hmro ?_)
  refine P_if_false (by simp) ?_
  refine P_bindA (wpAny_of_eq hmade ?_)
  refine P_bindA (wpAny_pure ?_)
  refine P_bindA (wpAny_holding (wpAny_call ?_))
  refine codeAny_mono (ba_new (.bytes x t) (Q₁ := fun v s' => v = .ref s.heap.objs.size ∧ s' = { s with heap := s.heap.push { cls := .type "bytearray", data := .bytearray #[] } }) (E := fun _ _ => False) ⟨rfl, rfl⟩) fun r s₁ hr => ?_
  cases r with
  | error e => exact hr.elim
  | ok fl =>
    cases fl with
    | ret obj =>
      obtain ⟨rfl, rfl⟩ := hr
      have ho : (s.heap.push { cls := .type "bytearray", data := .bytearray #[] }).get? s.heap.objs.size = some (baObj #[]) := Heap.get?_push_size _ rfl
      refine P_bindA (wpAny_isInstance (T := "bytearray") ⟨_, ho, rfl⟩ hsub ?_)
      refine P_if_false (by decide) ?_
      refine P_bind (P_holding ?_)
      unfold callSpecial?
      refine P_bindA (wpAny_specialOf (T := "bytearray") ⟨_, ho, rfl⟩ ft.init.lookup ?_)
      dsimp only
      refine P_holding ?_
      refine P_bindA (wpAny_of_eq (ft.init.bind _) ?_)
      refine P_bind (P_call ?_)
      refine codeP_mono (ba_init (s := { s with heap := s.heap.push { cls := .type "bytearray", data := .bytearray #[] } }) (x := x) (t := t) (R := fun r s' => r = .ok (.ret .none) ∧ s' = { s with heap := ((s.heap.push (baObj #[])).update s.heap.objs.size (Obj.mapBytearray fun _ => #[])).update s.heap.objs.size (Obj.mapBytearray fun _ => x) }) ho hz ⟨rfl, rfl⟩) fun r s₂ hr => ?_
      obtain ⟨rfl, rfl⟩ := hr
      refine P_pure ?_
      dsimp only
      refine P_if_false (by decide) ?_
      exact P_pure q
    | _ => exact hr.elim
end
section
variable {prog : Program} {w : World} {A : Around} {K : Frag} {H0 h : Heap} {fs : List (Nat × Map)} {H : PH} {n : Nat} {L : Nat} {m : Map} {g : Array GenState} {d : Drawn} {tk : Nat} {os : OsState}
  {E : Value → Shared → Prop} {P : Params}
theorem r_bytearray {x : List UInt8} {t : Tok} {Q : Value → Shared → Prop} (R : RC P H0 fs H n h) (hz : H0.objs.size ≤ n) (hs : x.length ≤ 1000000)
    (q : ∀ (a : Nat) h', n ≤ a → RC P H0 fs (H.set a (.ba x)) (a + 1) h' → Q (.ref a) ⟨h', g, d, tk, os⟩) : wpP (model prog w) A (call (.type "bytearray") [.bytes x.toArray t]) Q E ⟨h, g, d, tk, os⟩ := by
  refine ba_call (by simpa using hs) (q h.objs.size _ R.sz ?_)
  have R1 : RC P H0 fs (H.set h.objs.size (.ba [])) (h.objs.size + 1) (h.push (baObj #[])) := R.push (x := .ba []) rfl rfl (Nat.le_trans hz R.sz)
  have ho : (h.push (baObj #[])).get? h.objs.size = some (baObj #[]) := Heap.get?_push_size _ rfl
  have ho1 := ba_after (s := ⟨h.push (baObj #[]), g, d, tk, os⟩) (fun _ => #[]) ho
  have ho2 := ba_after (s := ⟨(h.push (baObj #[])).update h.objs.size (Obj.mapBytearray fun _ => #[]), g, d, tk, os⟩) (fun _ => x.toArray) ho1
  have R2 := R1.put (y := .ba x) (PH.set_self _ _ _) ho2 rfl (fun b o' hb e' => (Heap.get?_update_other _ _ (Ne.symm hb)).trans ((Heap.get?_update_other _ _ (Ne.symm hb)).trans e')) (by rw [Heap.size_after_update, Heap.size_after_update]; exact Nat.le_refl _)
  rw [PH.set_set] at R2
  exact R2
end
theorem ba_slot_get : Slot "bytearray" "__getitem__" "bytearray.__getitem__" :=
  .of (owner := "bytearray") (n := "__getitem__") (by rw [typeLookup_type, builtinLookup_eq_fast]; kernel_rfl) (by decide +kernel) (by decide +kernel) (by decide +kernel)
    (by first | exact .inl (by decide +kernel) | exact .inr (by decide +kernel)) (by rw [isSubtype_type]; kernel_rfl)
theorem ba_slot_set : Slot "bytearray" "__setitem__" "bytearray.__setitem__" :=
  .of (owner := "bytearray") (n := "__setitem__") (by rw [typeLookup_type, builtinLookup_eq_fast]; kernel_rfl) (by decide +kernel) (by decide +kernel) (by decide +kernel)
    (by first | exact .inl (by decide +kernel) | exact .inr (by decide +kernel)) (by rw [isSubtype_type]; kernel_rfl)
theorem ba_entry_get : entryFor table "bytearray.__getitem__" = some Builtin.«bytearray.__getitem__» := by first | exact entryFor_of_fast (by kernel_rfl) | exact entryFor_of_tree (by kernel_rfl)
theorem ba_entry_set : entryFor table "bytearray.__setitem__" = some Builtin.«bytearray.__setitem__» := by first | exact entryFor_of_fast (by kernel_rfl) | exact entryFor_of_tree (by kernel_rfl)
theorem ba_args_get (a b : Value) : argsOk "bytearray.__getitem__" ⟨[a, b], []⟩ := by unfold argsOk; kernel_rfl
theorem ba_args_set (a b c : Value) : argsOk "bytearray.__setitem__" ⟨[a, b, c], []⟩ := by unfold argsOk; kernel_rfl
theorem ba_no_bytes : typeLookup (.type "bytearray") "__bytes__" = pure none := by rw [typeLookup_type, builtinLookup_eq_fast]; kernel_rfl
theorem ba_no_index : typeLookup (.type "bytearray") "__index__" = pure none := by rw [typeLookup_type, builtinLookup_eq_fast]; kernel_rfl
section
variable {prog : Program} {w : World} {A : Around} {E : Value → Shared → Prop} {s : Shared} {a : Addr} {x y : Array UInt8}
theorem ba_subscript {M : Model} {i : Int} {t : Tok} {Q : Option Int → Shared → Prop} (h0 : 0 ≤ i) (h1 : i < 2 ^ 62) (q : Q (some i) s) : wpAny M A (Builtin.Bytes.subscript? (.int i t)) Q E s := by
  unfold Builtin.Bytes.subscript?
  refine wpAny_bind (wpAny_specialOf (T := "int") (typeIs_int _ _ _) F.slot_int_index.lookup ?_)
  refine bm_if_false rfl ?_
  refine wpAny_bind (wpAny_of_eq (a := i) rfl ?_)
  refine bm_if_false (by rw [fits_of h0 h1]; rfl) ?_
  exact wpAny_pure q
theorem seqIndex_in {i : Int} {k : Nat} (h0 : 0 ≤ i) (h1 : i < k) : seqIndex? i k = some i.toNat := by
  have h3 : ¬ i < 0 := by walk_at "om"
  simp [seqIndex?, h0, h1, h3]
theorem ba_getItem {i : Int} {t : Tok} {Q : Value → Shared → Prop} (ho : s.heap.get? a = some (baObj x)) (h0 : 0 ≤ i) (h1 : i < x.size) (hz : x.size ≤ 1000000)
    (q : Q (.int (x.getD i.toNat 0).toNat s.toks) { s with toks := s.toks + 1 }) : wpAny (model prog w) A (getItem (.ref a) (.int i t)) Q E s := by
  refine wpAny_getItem_slot (ba_type ho) (by decide) ba_slot_get (wpAny_call_entry ba_slot_get (ba_type ho) ba_entry_get ?_ (ba_args_get _ _))
  unfold Builtin.«bytearray.__getitem__»
  refine wpAny_bind (wpAny_of_eq (a := (.ref a, [.int i t])) rfl ?_)
  dsimp only
  refine wpAny_bind (ba_subscript h0 (by walk_at "om") ?_)
  dsimp only
  refine wpAny_bind (ba_payload ho ?_)
  rw [seqIndex_in h0 h1]
  have hx : x[i.toNat]? = some (x.getD i.toNat 0) := by
    have : i.toNat < x.size := by walk_at "om"
    simp [Array.getD, this]
  dsimp only [Option.bind]
  rw [hx]
  dsimp only
  exact wpAny_bind (wpAny_mkInt (wpAny_pure ⟨_, rfl, q⟩))
theorem ba_setItem {i : Int} {t : Tok} {v : Int} {u : Tok} {Q : Unit → Shared → Prop} (ho : s.heap.get? a = some (baObj x)) (h0 : 0 ≤ i) (h1 : i < x.size) (hz : x.size ≤ 1000000) (v0 : 0 ≤ v) (v1 : v < 256)
    (q : Q () { s with heap := s.heap.update a (Obj.mapBytearray (·.setIfInBounds i.toNat v.toNat.toUInt8)) }) : wpAny (model prog w) A (setItem (.ref a) (.int i t) (.int v u)) Q E s := by
  unfold setItem
  try with_reducible refine wpAny_holding ?_
  first | refine wpAny_bind (wpAny_pure ?_) | skip
  refine wpAny_bind (wpAny_sequenceKey (ba_type ho) (by decide) ?_)
  refine wpAny_bind (wpAny_callSpecial?_slot (name := Str.ofString "__setitem__") (ba_type ho) ba_slot_set (wpAny_call_entry ba_slot_set (ba_type ho) ba_entry_set ?_ (ba_args_set _ _ _)))
  unfold Builtin.«bytearray.__setitem__»
  refine bm_if_false rfl ?_
  dsimp only
  refine wpAny_bind (ba_subscript h0 (by walk_at "om") ?_)
  dsimp only
  refine wpAny_bind (m := Builtin.Bytes.byteValue (.int v u)) ?_
  unfold Builtin.Bytes.byteValue
  refine wpAny_bind (wpAny_of_eq (a := v) rfl ?_)
  refine bm_if_false (by rw [decide_eq_false (show ¬ v < 0 by walk_at "om"), decide_eq_false (show ¬ v ≥ 256 by walk_at "om")]; rfl) ?_
  refine wpAny_pure ?_
  refine wpAny_bind (ba_payload ho ?_)
  rw [seqIndex_in h0 h1]
  dsimp only
  refine wpAny_bind (ba_write ho (by simp; rw [sizeLine_eq]; walk_at "om") ?_)
  exact wpAny_bind (wpAny_pure (wpAny_pure ⟨_, rfl, wpAny_pure q⟩))
theorem ba_slice {i : Addr} {l u : Value} {lo hi : Option Int} {Q : Value → Shared → Prop} (ho : s.heap.get? a = some (baObj x)) (hi' : s.heap.IsSliceOf i l u .none) (hl : IsPart l lo) (hu : IsPart u hi)
    (hsz : (KBy.picked x lo hi).size ≤ sizeLine)
    (q : Q (.ref s.heap.objs.size) { s with heap := s.heap.push (baObj (KBy.picked x lo hi)) }) : wpAny (model prog w) A (getItem (.ref a) (.ref i)) Q E s := by
  obtain ⟨o, hoi, hc, hd⟩ := hi'
  have hT : s.TypeIs (.ref i) "slice" := ⟨o, hoi, hc⟩
  refine wpAny_getItem_slot (ba_type ho) (by decide) ba_slot_get (wpAny_call_entry ba_slot_get (ba_type ho) ba_entry_get ?_ (ba_args_get _ _))
  unfold Builtin.«bytearray.__getitem__»
  refine wpAny_bind (wpAny_of_eq (a := (.ref a, [.ref i])) rfl ?_)
  dsimp only
  refine wpAny_bind ?_
  unfold Builtin.Bytes.subscript?
  refine wpAny_bind (wpAny_specialOf hT slice_no_index (wpAny_pure ?_))
  dsimp only
  refine wpAny_bind (wpAny_typeOf hT ?_)
  refine bm_if_false (by decide) ?_
  show wpAny _ _ (Builtin.Bytes.sliceParts (.ref i) >>= fun r => _) _ _ _
  refine wpAny_bind ?_
  unfold Builtin.Bytes.sliceParts
  refine wpAny_bind (wpAny_field (x := .none) hoi hd rfl ?_)
  kby_none
  refine wpAny_ite (KBy.ite_no (show ¬ ((Value.none == rawInt 0) = true) from Bool.false_ne_true) ?_)
  refine wpAny_bind (wpAny_field (x := l) hoi hd rfl ?_)
  have go : wpAny (model prog w) A.in1 (sliceIndices (rawPart lo) (rawPart hi) (rawPart none) x.size) (fun r s' => r = sliceBounds lo hi none x.size ∧ s' = s) (fun _ _ => False) s :=
    wpAny_of_eq (sliceIndices_raw lo hi none x.size (fun e => nomatch e)) ⟨rfl, rfl⟩
  cases hl <;> cases hu <;> (first
    | (kby_none; (refine wpAny_bind (wpAny_field (x := .none) hoi hd rfl ?_)); kby_none)
    | (kby_none; (refine wpAny_bind (wpAny_field (x := .int _ _) hoi hd rfl ?_)); kby_int)
    | (kby_int; (refine wpAny_bind (wpAny_field (x := .none) hoi hd rfl ?_)); kby_none)
    | (kby_int; (refine wpAny_bind (wpAny_field (x := .int _ _) hoi hd rfl ?_)); kby_int)) <;> refine wpAny_pure ?_
  all_goals
    refine wpAny_bind (ba_payload ho ?_)
    refine wpAny_bind (wpAny_mono go (fun r s' hr => ?_) fun _ _ e => e.elim)
    obtain ⟨hr1, hr2⟩ := hr
    subst hr1 hr2
    refine wpAny_bind ?_
    unfold Builtin.Bytes.newBytearray
    refine wpAny_newObj_type ?_ hsz
    exact wpAny_pure ⟨_, rfl, q⟩
theorem bytes_of_ba {Q : Value → Shared → Prop} (ho : s.heap.get? a = some (baObj x)) (hz : x.size ≤ 1000000)
    (q : Q (.bytes x s.toks) { s with toks := s.toks + 1 }) : wpAny (model prog w) A (call (.type "bytes") [.ref a]) Q E s := by
  refine callType_codes (Q₁ := fun obj s₁ => s₁.TypeIs obj "bytes" ∧ Q obj s₁) F.bm_called (F.bm_typeCall _) F.entry_object_init ?_ fun obj s₁ h₁ => ?_
  · refine codeAny_of_tree ?_
    show wpAny _ A.in1.in1 (do checkBuiltinCall "bytes.__new__" ⟨[.type "bytes", .ref a], []⟩; again (.builtin "bytes.__new__" ⟨[.type "bytes", .ref a], []⟩)) _ _ _
    refine wpAny_bind (wpAny_of_eq (F.bm_newCall _) (wpAny_pure ⟨plainId_quiet F.bm_plain _, codeAny_builtin F.bm_entry ?_⟩))
    rw [Around.under_plainId F.bm_plain _]
    unfold Builtin.«bytes.__new__»
    refine wpAny_bind (wpAny_of_eq (a := true) rfl ?_)
    refine bm_if_false rfl ?_
    refine wpAny_bind (wpAny_of_eq F.bm_sub ?_)
    refine bm_if_false rfl ?_
    refine wpAny_bind (wpAny_of_eq (F.bm_bind _) ?_)
    refine wpAny_bind (wpAny_of_eq (a := ()) rfl ?_)
    refine wpAny_bind (wpAny_of_eq (a := ()) rfl ?_)
    refine bm_if_false rfl ?_
    refine wpAny_bind (wpAny_specialOf (ba_type ho) ba_no_bytes ?_)
    refine wpAny_bind (wpAny_bind ?_)
    show wpAny _ _ (load a >>= _) _ _ _
    refine wpAny_bind (wpAny_load ho ?_)
    refine wpAny_pure (wpAny_pure ?_)
    refine bm_if_false rfl ?_
    refine wpAny_bind (wpAny_specialOf (ba_type ho) ba_no_index ?_)
    refine bm_if_true rfl ?_
    first
      | show wpAny _ _ (Builtin.Bytes.buffer? "bytes.__new__" (.ref a) true >>= _) _ _ _
      | (refine wpAny_bind ?_; show wpAny _ _ (Builtin.Bytes.buffer? "bytes.__new__" (.ref a) true >>= _) _ _ _)
    refine wpAny_bind ?_
    unfold Builtin.Bytes.buffer?
    refine wpAny_bind (wpAny_specialOf (ba_type ho) ba_look_buffer ?_)
    dsimp only
    refine wpAny_bind (ba_slotBuffer ho ?_)
    refine bm_if_false rfl ?_
    refine wpAny_bind (wpAny_specialOf (ba_type ho) ba_look_buffer ?_)
    refine wpAny_bind (ba_ownRelease ho ?_)
    refine bm_if_false rfl ?_
    refine wpAny_bind (ba_payload ho ?_)
    refine wpAny_pure ?_
    dsimp only
    first
      | (refine wpAny_bind (wpAny_rule ?_); refine wpAny_bind ?_; refine wpAny_bind (wpAny_mkBytes ?_ (by rw [sizeLine_eq]; walk_at "om")))
      | (refine wpAny_bind (wpAny_rule ?_); refine wpAny_bind (wpAny_mkBytes ?_ (by rw [sizeLine_eq]; walk_at "om")))
    exact wpAny_pure ⟨PySem.W.typeIs_bytes _ _ _, q⟩
  · exact ⟨h₁.1, F.args_object_init_2 obj _, object_init_meets F.bm_called.init.lookup F.bm_called.made (by decide) prog w A.in1 _ s₁ ⟨h₁.1, rfl, h₁.2⟩⟩
end
section
variable {prog : Program} {w : World} {A : Around} {K : Frag} {H0 h : Heap} {fs : List (Nat × Map)} {H : PH} {n : Nat} {L : Nat} {m : Map} {g : Array GenState} {d : Drawn} {tk : Nat} {os : OsState}
  {E : Value → Shared → Prop} {P : Params} {a : Nat} {x : List UInt8} {i : Int} {t : Tok}
theorem RC.bar (R : RC P H0 fs H n h) (e : H a = some (.ba x)) : h.get? a = some (baObj x.toArray) := by
  obtain ⟨o, ho, rfl⟩ := R.obj e; exact ho
theorem r_bagetitem {Q : Value → Shared → Prop} (R : RC P H0 fs H n h) (e : H a = some (.ba x)) (hz : x.length ≤ 1000000) (h0 : 0 ≤ i) (h1 : i < x.length)
    (q : ∀ t' tk', Q (.int ((x.getD i.toNat 0).toNat : Nat) t') ⟨h, g, d, tk', os⟩) : wpAny (model prog w) A (getItem (.ref a) (.int i t)) Q E ⟨h, g, d, tk, os⟩ :=
  ba_getItem (R.bar e) h0 (by simpa using h1) (by simpa using hz) (by have := q tk (tk + 1); simpa using this)
theorem r_baitem {value slice : Expr} {Q : Value → Shared → Prop} (R : RC P H0 fs H n h) (e : H a = some (.ba x)) (hz : x.length ≤ 1000000) (h0 : 0 ≤ i) (h1 : i < x.length)
    (q : ∀ t' tk', Q (.int ((x.getD i.toNat 0).toNat : Nat) t') ⟨h, g, d, tk', os⟩)
    (hs : subscripted slice false (.ref a) (.int i t) = operate [.ref a, .int i t] (getItem (.ref a) (.int i t)) := by with_unfolding_all rfl) :
    wpAny (model prog w) A (subscriptTail value slice (.ref a) (.int i t)) Q E ⟨h, g, d, tk, os⟩ :=
  tail_any (ba_type (R.bar e)) ba_slot_get.lookup (r_bagetitem R e hz h0 h1 q) hs
theorem r_basetitem {v : Int} {u : Tok} {Q : Unit → Shared → Prop} (R : RC P H0 fs H n h) (e : H a = some (.ba x)) (hz : x.length ≤ 1000000) (h0 : 0 ≤ i) (h1 : i < x.length) (v0 : 0 ≤ v) (v1 : v < 256)
    (q : ∀ h', RC P H0 fs (H.set a (.ba (x.set i.toNat v.toNat.toUInt8))) n h' → Q () ⟨h', g, d, tk, os⟩) : wpAny (model prog w) A (setItem (.ref a) (.int i t) (.int v u)) Q E ⟨h, g, d, tk, os⟩ := by
  refine ba_setItem (R.bar e) h0 (by simpa using h1) (by simpa using hz) v0 v1 (q _ ?_)
  refine R.put e (ba_after (s := ⟨h, g, d, tk, os⟩) (fun b => b.setIfInBounds i.toNat v.toNat.toUInt8) (R.bar e)) ?_ (fun b o' hb e' => (Heap.get?_update_other _ _ (Ne.symm hb)).trans e') (by rw [Heap.size_after_update]; exact Nat.le_refl _)
  show baObj _ = baObj _
  congr 1
  simp
theorem r_baslice_hi {value slice : Expr} {Q : Value → Shared → Prop} (R : RC P H0 fs H n h) (hz' : H0.objs.size ≤ n) (e : H a = some (.ba x)) (hz : x.length ≤ 1000000) (h0 : 0 ≤ i)
    (q : ∀ (b : Nat) h' tk', n ≤ b → RC P H0 fs (H.set b (.ba (x.take i.toNat))) (b + 1) h' → Q (.ref b) ⟨h', g, d, tk', os⟩)
    (hs : ∀ b : Addr, subscripted slice false (.ref a) (.ref b) = operate [.ref b, .ref a] (getItem (.ref a) (.ref b)) := by intro b; with_unfolding_all rfl) :
    wpAny (model prog w) A (subscriptTail value slice (.ref a) (.ref h.objs.size)) Q E ⟨h.push { cls := .type "slice", data := .fields #[.none, .int i t, .none] }, g, d, tk, os⟩ := by
  have R1 : RC P H0 fs H n (h.push { cls := .type "slice", data := .fields #[.none, .int i t, .none] }) := R.pushed
  refine tail_any (ba_type (s := ⟨_, g, d, tk, os⟩) (R1.bar e)) ba_slot_get.lookup (ba_slice (s := ⟨_, g, d, tk, os⟩) (R1.bar e) (Heap.IsSliceOf.new _ _ _ _) .none (.int _ _) ?_ ?_) (hs _)
  · exact Nat.le_trans (KBc.size_picked_le _ _ _) (by rw [sizeLine_eq]; simp; walk_at "om")
  · rw [picked_hi h0]
    exact q _ _ _ (R1.sz) (R1.push (x := .ba (x.take i.toNat)) rfl rfl (Nat.le_trans hz' R1.sz))
theorem r_bytes_ba {Q : Value → Shared → Prop} (R : RC P H0 fs H n h) (e : H a = some (.ba x)) (hz : x.length ≤ 1000000)
    (q : ∀ t' tk', Q (.bytes x.toArray t') ⟨h, g, d, tk', os⟩) : wpAny (model prog w) A (call (.type "bytes") [.ref a]) Q E ⟨h, g, d, tk, os⟩ := bytes_of_ba (R.bar e) (by simpa using hz) (q _ _)
theorem r_bslice_hi {value slice : Expr} {Q : Value → Shared → Prop} (R : RC P H0 fs H n h) (h0 : 0 ≤ i) (hz : x.length ≤ 1000000)
    (q : ∀ h' t' tk', RC P H0 fs H n h' → Q (.bytes (x.take i.toNat).toArray t') ⟨h', g, d, tk', os⟩)
    (hs : ∀ b : Addr, subscripted slice false (.bytes x.toArray u) (.ref b) = operate [.ref b, .bytes x.toArray u] (getItem (.bytes x.toArray u) (.ref b)) := by intro b; with_unfolding_all rfl) (ht : ∀ r, letTemporaryGo value (.bytes x.toArray u) r = pure () := by intro _; with_unfolding_all rfl) :
    wpAny (model prog w) A (subscriptTail value slice (.bytes x.toArray u) (.ref h.objs.size)) Q E ⟨h.push { cls := .type "slice", data := .fields #[.none, .int i t, .none] }, g, d, tk, os⟩ :=
  r_bslice R .none (.int _ _) hz (fun h' t' tk' r => by rw [picked_hi h0]; exact q _ _ _ r) hs ht
theorem r_bslice_lo {value slice : Expr} {Q : Value → Shared → Prop} (R : RC P H0 fs H n h) (h0 : 0 ≤ i) (hz : x.length ≤ 1000000)
    (q : ∀ h' t' tk', RC P H0 fs H n h' → Q (.bytes (x.drop i.toNat).toArray t') ⟨h', g, d, tk', os⟩)
    (hs : ∀ b : Addr, subscripted slice false (.bytes x.toArray u) (.ref b) = operate [.ref b, .bytes x.toArray u] (getItem (.bytes x.toArray u) (.ref b)) := by intro b; with_unfolding_all rfl) (ht : ∀ r, letTemporaryGo value (.bytes x.toArray u) r = pure () := by intro _; with_unfolding_all rfl) :
    wpAny (model prog w) A (subscriptTail value slice (.bytes x.toArray u) (.ref h.objs.size)) Q E ⟨h.push { cls := .type "slice", data := .fields #[.int i t, .none, .none] }, g, d, tk, os⟩ :=
  r_bslice R (.int _ _) .none hz (fun h' t' tk' r => by rw [picked_lo h0]; exact q _ _ _ r) hs ht
theorem r_bslice_both {value slice : Expr} {j : Int} {v : Tok} {Q : Value → Shared → Prop} (R : RC P H0 fs H n h) (h0 : 0 ≤ i) (h1 : 0 ≤ j) (hz : x.length ≤ 1000000)
    (q : ∀ h' t' tk', RC P H0 fs H n h' → Q (.bytes ((x.take j.toNat).drop i.toNat).toArray t') ⟨h', g, d, tk', os⟩)
    (hs : ∀ b : Addr, subscripted slice false (.bytes x.toArray u) (.ref b) = operate [.ref b, .bytes x.toArray u] (getItem (.bytes x.toArray u) (.ref b)) := by intro b; with_unfolding_all rfl) (ht : ∀ r, letTemporaryGo value (.bytes x.toArray u) r = pure () := by intro _; with_unfolding_all rfl) :
    wpAny (model prog w) A (subscriptTail value slice (.bytes x.toArray u) (.ref h.objs.size)) Q E ⟨h.push { cls := .type "slice", data := .fields #[.int i t, .int j v, .none] }, g, d, tk, os⟩ :=
  r_bslice R (.int _ _) (.int _ _) hz (fun h' t' tk' r => by rw [picked_both h0 h1]; exact q _ _ _ r) hs ht
end
section
variable {M : Model} {A : Around} {E : Value → Shared → Prop} {s : Shared} {env : Env}
theorem P_keep {α : Type} {vs : List Value} {m : Sem α} {Q : α → Shared → Prop} (h : wpP M A m Q E s) : wpP M A (m.keep vs) Q E s :=
  fun Γ p hΓ hk => by rw [Sem.wp_keep]; exact h Γ p hΓ hk
theorem P_standAt {α : Type} {pos : Pos} {f : Unit → Sem α} {Q : α → Shared → Prop} (h : wpP M A (f ()) Q E s) : wpP M A (standAt pos >>= f) Q E s := P_bindA (wpAny_standAt h)
theorem P_execs_cons {st : Stmt} {rest : List Stmt} {Q : Flow → Shared → Prop}
    (h : wpP M A (exec st env) (fun f s' => match f with | .next => wpP M A (execs rest env) Q E s' | f => Q f s') E s) : wpP M A (execs (st :: rest) env) Q E s := by
  rw [execs_cons]
  refine P_bind (P_mono h (fun f s' h' => ?_) fun _ _ h' => h')
  cases f <;> first | exact h' | exact P_pure h'
theorem P_execs_consA {st : Stmt} {rest : List Stmt} {Q : Flow → Shared → Prop}
    (h : wpAny M A (exec st env) (fun f s' => match f with | .next => wpP M A (execs rest env) Q E s' | f => Q f s') E s) : wpP M A (execs (st :: rest) env) Q E s := P_execs_cons (P_any h)
theorem P_Assign_Name {x : Str} {pos' pos : Pos} {value : Expr} {Q : Flow → Shared → Prop}
    (h : wpP M A (eval value env) (fun v s₁ => wpAny M A (storeName env x v) (fun _ => Q .next) E s₁) E s)
    (hs : swapsWith value (some (.Name x pos')) pos.line env = pure false := by rfl) : wpP M A (exec (.Assign [.Name x pos'] value pos) env) Q E s := by
  rw [exec_Assign_Name env x pos' value pos hs]
  refine P_standAt (P_bind (P_mono h (fun v s₁ h₁ => ?_) fun _ _ x => x))
  refine P_standAt (P_bindA ?_)
  have e : wpAny M A (bindName env x v) (fun _ s' => Q .next s') E s₁ := fun Γ p hΓ => by rw [Sem.wp_bindName]; exact h₁ Γ p hΓ
  exact wpAny_mono e (fun _ _ q => P_pure q) fun _ _ x => x
theorem P_Assign_Tuple {elts : List Expr} {k : Nat} {tpos pos : Pos} {value : Expr} {Q : Flow → Shared → Prop}
    (h : wpP M A (eval value env) (fun v s₁ => wpAny M A (assign (.Tuple elts k tpos) env v) (fun _ => Q .next) E s₁) E s)
    (hs : swapsWithSole [.Tuple elts k tpos] value pos.line env = pure false := by rfl)
    (hw : swappedStores [.Tuple elts k tpos] value env = pure none := by rfl) :
    wpP M A (exec (.Assign [.Tuple elts k tpos] value pos) env) Q E s := by
  rw [exec_Assign]
  refine P_standAt ?_
  rw [hs]
  refine P_bindA (wpAny_pure ?_)
  rw [if_neg (by decide)]
  refine P_bind (P_mono h (fun v s₁ h₁ => ?_) fun _ _ x => x)
  rw [hw]
  refine P_bindA (wpAny_pure ?_)
  show wpP M A (do assignAll v [assign (.Tuple elts k tpos) env]; pure .next) Q E s₁
  exact P_bindA (wpAny_mono h₁ (fun _ _ x => P_pure x) fun _ _ x => x)
theorem P_Return_some {e : Expr} {pos : Pos} {Q : Flow → Shared → Prop} (h : wpP M A (eval e env) (fun v => Q (.ret v)) E s) : wpP M A (exec (.Return (some e) pos) env) Q E s := by
  rw [exec_Return_some]
  exact P_standAt (P_bind (P_mono h (fun _ _ q => P_pure q) fun _ _ x => x))
theorem P_If {test : Expr} {body orelse : List Stmt} {pos : Pos} {Q : Flow → Shared → Prop}
    (h : wpP M A (isTrue test env (eval test env)) (fun b s₂ => if b then wpP M A (execs body env) Q E s₂ else wpP M A (execs orelse env) Q E s₂) E s) :
    wpP M A (exec (.If test body orelse pos) env) Q E s := by
  rw [exec_If]
  refine P_standAt (P_bind (P_mono h (fun b s₂ h₂ => ?_) fun _ _ x => x))
  cases b <;> exact h₂
theorem P_Call_ofName {x : Str} {np pos : Pos} {args : List Expr} {keywords : List Keyword} {Q : Value → Shared → Prop}
    (h : wpAny M A (eval (.Name x np) env) (fun f s₁ => wpP M A (callWith pos f [] (backTo pos (starEach args env)) (backToKw pos (keywordEach keywords env))) Q E s₁) E s) :
    wpP M A (eval (.Call (.Name x np) args keywords pos) env) Q E s := by
  show wpP M A (do callWith pos (← eval (.Name x np) env) [] (backTo pos (starEach args env)) (backToKw pos (keywordEach keywords env))) Q E s
  exact P_bindA h
theorem P_methodCall {name : Str} {o : Expr} {apos pos : Pos} {args : List Expr} {kws : List Keyword} {pl : Sem Bool} {Q : Value → Shared → Prop}
    (h : wpAny M A (eval o env) (fun ov s₁ => wpAny M A (getMethod ov name pl) (fun fx s₂ => wpP M A (callWith pos fx.1 fx.2 (backTo pos (starEach args env)) (backToKw pos (keywordEach kws env))) Q E s₂) E s₁) E s)
    (he : eval (.Call (.Attribute o name apos) args kws pos) env = (do
      let ov ← eval o env
      standAt apos.atName
      let (f, first) ← holding [ov] (getMethod ov name pl)
      callWith pos f first (backTo pos (starEach args env)) (backToKw pos (keywordEach kws env))) := by rfl) :
    wpP M A (eval (.Call (.Attribute o name apos) args kws pos) env) Q E s := by
  rw [he]
  refine P_bindA (wpAny_mono h (fun ov s₁ h₁ => P_standAt (P_bindA (wpAny_holding (wpAny_mono h₁ (fun fx s₂ h₂ => ?_) fun _ _ x => x)))) fun _ _ x => x)
  exact h₂
theorem P_callWith_of {pos : Pos} {f : Value} {first : List Value} {P : Heap → Prop} {args : List (Bool × Sem Value)} {keywords : List (Option Str × Sem Value)} {Q : Value → Shared → Prop} (hplain : (args.any (·.1) || keywords.any (·.1.isNone)) = false)
    (hk : ∀ h, P h → ∃ k, (k = Keeper.frame ∨ k = Keeper.machine ∨ k = Keeper.boundFrame) ∧ Looks M h (keeperOf f) k)
    (h : wpAny M A (evalArgs f true args keywords) (fun a s₁ => P s₁.heap ∧ wpP M A (call f (first ++ a.pos) a.kw) Q E s₁) E s) : wpP M A (callWith pos f first args keywords) Q E s := by
  unfold callWith
  refine P_bindA (wpAny_holding (wpAny_mono h (fun a s₁ h₁ => P_standAt ?_) fun _ _ x => x))
  obtain ⟨k, hk', L⟩ := hk _ h₁.1
  simp only [hplain]
  refine P_bindA (L.here ?_)
  have tail : ∀ {t : Sem Value}, wpP M A t Q E s₁ → wpP M A (t >>= fun r => holding [r] point >>= fun _ => pure r) Q E s₁ :=
    fun ht => P_bind (P_mono ht (fun r s₂ hr => P_bindA (wpAny_holding (wpAny_point (P_pure hr)))) fun _ _ x => x)
  have marked (mk : Value) : wpP M A (callMarked mk f (first ++ a.pos) a.kw) Q E s₁ := by unfold callMarked; exact P_keep h₁.2
  rcases hk' with rfl | rfl | rfl <;> dsimp only <;> first | exact tail h₁.2 | (split <;> first | exact tail h₁.2 | exact tail (marked _))
theorem P_callWith_type {pos : Pos} {T : String} {first : List Value} {args : List (Bool × Sem Value)} {Q : Value → Shared → Prop} (hplain : args.any (·.1) = false)
    (h : wpAny M A (evalArgs (.type T) true args []) (fun a s₁ => wpP M A (call (.type T) (first ++ a.pos) a.kw) Q E s₁) E s) :
    wpP M A (callWith pos (.type T) first args []) Q E s := by
  unfold callWith
  refine P_bindA (wpAny_holding (wpAny_mono h (fun a s₁ h₁ => P_standAt ?_) fun _ _ x => x))
  simp only [hplain, List.any_nil, Bool.or_false]
  refine P_bindA (wpAny_pure ?_)
  exact P_bind (P_mono h₁ (fun r s₂ hr => P_bindA (wpAny_holding (wpAny_point (P_pure hr)))) fun _ _ x => x)
end
section
variable {prog : Program} {w : World} {A : Around} {K : Frag} {H0 h : Heap} {fs : List (Nat × Map)} {H : PH} {n : Nat} {L : Nat} {m : Map} {g : Array GenState} {d : Drawn} {tk : Nat} {os : OsState}
  {E : Value → Shared → Prop} {P : Params} {s : Shared} {env : Env} {pos : Pos} {f : Value} {first : List Value}
theorem P_callK {M : Model} {e : Expr} {rest : List Expr} {Q : Value → Shared → Prop} (hk : keepIn K f = true) (h : wpAny M A (spliced (backTo pos (starEach (e :: rest) env))) (fun vs s₁ => K.In s₁.heap ∧ wpP M A (call f (first ++ vs)) Q E s₁) E s)
    (he : starEach (e :: rest) env = (false, eval e env) :: starEach rest env := by rfl) (hplain : (backTo pos (starEach rest env)).any (·.1) = false := by rfl) :
    wpP M A (callWith pos f first (backTo pos (starEach (e :: rest) env)) []) Q E s := by
  rw [he] at h ⊢
  exact P_callWith_of (by show ((false || (backTo pos (starEach rest env)).any (·.1)) || false) = false; rw [hplain]; rfl) (keeps_K hk) (evalArgs_plain h)
theorem P_callT {M : Model} {T : String} {e : Expr} {rest : List Expr} {Q : Value → Shared → Prop} (h : wpAny M A (spliced (backTo pos (starEach (e :: rest) env))) (fun vs s₁ => wpP M A (call (.type T) (first ++ vs)) Q E s₁) E s)
    (he : starEach (e :: rest) env = (false, eval e env) :: starEach rest env := by rfl) (hplain : (backTo pos (starEach rest env)).any (·.1) = false := by rfl) :
    wpP M A (callWith pos (.type T) first (backTo pos (starEach (e :: rest) env)) []) Q E s := by
  rw [he] at h ⊢
  exact P_callWith_type (by show (false || (backTo pos (starEach rest env)).any (·.1)) = false; rw [hplain]; rfl) (evalArgs_plain h)
theorem P_enter {RR : Result → Shared → Prop} {name qual : Str} {params : Arguments} {body : List Stmt} {scope : Scope} {dV kV doc pm cdv ct oc : Value} {an od : Option Addr} {osl : Array (Option Value)} {f : Addr} {args : Args} {binds : List (Str × Value)}
    (R : RC P H0 fs H n h) (G : Gd K H0) (hz : H0.objs.size ≤ n) (hroom : A.depth < recursionLimit)
    (ho : K.lookup f = some ⟨oc, od, .func (fnOf name qual params body scope dV kV doc pm an cdv ct), osl⟩) (hcd : codeIn K cdv qual = true)
    (hbind : BindsTo ⟨h, g, d, tk, os⟩ (fnOf name qual params body scope dV kV doc pm an cdv ct) args binds) (hloc : (binds.all fun x => decide (scope.names.lookup x.1 = some .local)) = true)
    (k : ∀ (L' : Nat) h₁ tk₁, n ≤ L' → RC P H0 ((L', fun y => binds.reverse.lookup y) :: fs) H (L' + 1) h₁ →
      wpP (model prog w) (A.deeper (envOf qual scope L' f cdv)) (execs body (envOf qual scope L' f cdv))
        (fun fl s' => RR (.ok (.ret (match fl with | .ret v => v | _ => .none))) s')
        (fun e s' => wpAny (model prog w) (A.deeper (envOf qual scope L' f cdv)) (leaving (envOf qual scope L' f cdv) e) (fun _ s'' => RR (.error e) s'') (fun e' s'' => RR (.error e') s'') s')
        ⟨h₁, g, d, tk₁, os⟩)
    (hco : scope.isCoroutine = false := by rfl) (hgen : scope.isGenerator = false := by rfl) (hk : scope.kind = .function := by rfl)
    (hcell : ∀ x ∈ scope.names, x.2 ≠ .cell := by decide) : codeP (model prog w) A (.call (.ref f) args) RR ⟨h, g, d, tk, os⟩ := by
  refine codeP_def (fd := fnOf name qual params body scope dV kV doc pm an cdv ct) (body := body) (binds := binds) hroom (G.at R _ _ ho) rfl (G.nolimit R) (codeRec_of (G.at R) hcd) rfl hbind hcell (locs hloc) (fun h₁ hns hk₁ => ?_) hco hgen hk
  have hsz := R.sz
  exact k h.objs.size h₁ _ hsz (R.enter (Nat.le_trans hz hsz) hns hk₁)
theorem P_def {Q : Value → Shared → Prop} {name qual : Str} {params : Arguments} {body : List Stmt} {scope : Scope} {dV kV doc pm cdv ct oc : Value} {an od : Option Addr} {osl : Array (Option Value)} {f : Addr} {pos : List Value} {kw : List (Str × Value)} {binds : List (Str × Value)}
    (R : RC P H0 fs H n h) (G : Gd K H0) (hz : H0.objs.size ≤ n) (hroom : A.depth < recursionLimit)
    (ho : K.lookup f = some ⟨oc, od, .func (fnOf name qual params body scope dV kV doc pm an cdv ct), osl⟩) (hcd : codeIn K cdv qual = true)
    (hbind : BindsTo ⟨h, g, d, tk, os⟩ (fnOf name qual params body scope dV kV doc pm an cdv ct) ⟨pos, kw⟩ binds) (hloc : (binds.all fun x => decide (scope.names.lookup x.1 = some .local)) = true)
    (k : ∀ (L' : Nat) h₁ tk₁, n ≤ L' → RC P H0 ((L', fun y => binds.reverse.lookup y) :: fs) H (L' + 1) h₁ →
      wpP (model prog w) (A.deeper (envOf qual scope L' f cdv)) (execs body (envOf qual scope L' f cdv))
        (fun fl s' => Q (match fl with | .ret v => v | _ => .none) s') (fun _ _ => False) ⟨h₁, g, d, tk₁, os⟩)
    (hco : scope.isCoroutine = false := by rfl) (hgen : scope.isGenerator = false := by rfl) (hk : scope.kind = .function := by rfl)
    (hcell : ∀ x ∈ scope.names, x.2 ≠ .cell := by decide) : wpP (model prog w) A (call (.ref f) pos kw) Q E ⟨h, g, d, tk, os⟩ :=
  P_call (P_enter R G hz hroom ho hcd hbind hloc (fun L' h₁ tk₁ hl R' => P_mono (k L' h₁ tk₁ hl R') (fun fl s' q => q) fun _ _ x => x.elim) hco hgen hk hcell)
theorem P_Try_except {body orelse : List Stmt} {h₀ : ExceptHandler} {hs : List ExceptHandler} {pos : Pos} {Q : Flow → Shared → Prop}
    (h : wpP (model prog w) A (execs body env) (fun f s₁ => match f with | .next => wpP (model prog w) A (execs orelse env) Q E s₁ | f => Q f s₁)
      (fun e s₁ => wpAny (model prog w) A (noteFrame e env) (fun _ s₂ => wpAny (model prog w) A (setFlight e none) (fun _ s₃ => wpAny (model prog w) A (handleBy e env (h₀ :: hs)) Q E s₃) E s₂) E s₁) s) :
    wpP (model prog w) A (exec (.Try body (h₀ :: hs) orelse [] pos) env) Q E s := by
  rw [arm_exec_Try]
  refine P_bindA (wpAny_standAt ?_)
  unfold tryStmt
  simp only [List.isEmpty_nil, if_true, List.isEmpty_cons, Bool.false_and, Bool.false_eq_true, if_false]
  refine P_bind (P_attempt (P_mono h (fun f s₁ h₁ => ?_) fun e s₁ h₁ => ?_))
  · cases f <;> first | exact h₁ | exact P_pure h₁
  · exact P_bindA (wpAny_mono h₁ (fun _ _ h₂ => P_bindA (wpAny_mono h₂ (fun _ _ h₃ => P_any h₃) fun _ _ x => x)) fun _ _ x => x)
end
theorem Qb {Q : Value → Shared → Prop} {y z : List UInt8} {t : Tok} {s : Shared} (e : y = z) (h : Q (.bytes y.toArray t) s) : Q (.bytes z.toArray t) s := e ▸ h
theorem ite_tt {X Y : Prop} (h : X) : if true = true then X else Y := by rw [if_pos rfl]; exact h
theorem ite_ff {X Y : Prop} (h : Y) : if false = true then X else Y := by rw [if_neg (by decide)]; exact h
theorem boot_ba : bootBuiltins "bytearray" = some (.type "bytearray") := by decide +kernel
noncomputable def Only (S : List Nat) (H H' : PH) : Prop := ∀ a x, a ∉ S → H a = some x → H' a = some x
theorem Only.at {S : List Nat} {H H' : PH} {a : Nat} {x : AO} (o : Only S H H') (hn : a ∉ S) (e : H a = some x) : H' a = some x := o a x hn e
theorem Only.refl (S : List Nat) (H : PH) : Only S H H := fun _ _ _ e => e
theorem Only.trans {S : List Nat} {H H' H'' : PH} (o : Only S H H') (o' : Only S H' H'') : Only S H H'' := fun a x n e => o' a x n (o a x n e)
theorem Only.mono {S S' : List Nat} {H H' : PH} (o : Only S H H') (h : ∀ a ∈ S, a ∈ S') : Only S' H H' := fun a x n e => o a x (fun q => n (h a q)) e
theorem Only.set (S : List Nat) {H H' : PH} {a : Nat} {x : AO} (o : Only S H H') (h : a ∈ S) : Only S H (H'.set a x) := fun b y n e => by
  rw [PH.set_ne (fun q => n (by rw [q]; exact h))]; exact o b y n e
theorem Only.new (S : List Nat) {H H' : PH} {a : Nat} {x : AO} (o : Only S H H') (h : H a = none) : Only S H (H'.set a x) := fun b y n e => by
  rw [PH.set_ne (fun q => by rw [q, h] at e; cases e)]; exact o b y n e
theorem Only.le (S : List Nat) {H H' H'' : PH} (o : Only S H H') (l : H'.le H'') : Only S H H'' := fun a x n e => l a x (o a x n e)
theorem ne_of {H : PH} {a b : Nat} {x y : AO} (e : H a = some x) (e' : H b = some y) (h : x ≠ y) : a ≠ b := fun q => by
  subst q; rw [e] at e'; exact h (Option.some.inj e')
theorem PH.set_same {H : PH} {a : Nat} {x : AO} (e : H a = some x) : H.set a x = H := by
  funext b
  simp only [PH.set]
  split
  · rename_i q; rw [q, e]
  · rfl
theorem ints_take : ∀ {vs : List Value} {ns : List Int} (k : Nat), IntsAre vs ns → IntsAre (vs.take k) (ns.take k)
  | _, _, 0, _ => .nil
  | _, _, _ + 1, .nil => .nil
  | _, _, k + 1, .cons n t r => .cons n t (ints_take k r)
noncomputable def StAt (H : PH) (st : Nat) (b : Int) : Prop :=
  ∃ (cl : Nat) (at_ : Int) (t : Tok) (vs : List Value) (cells : List Int), H st = some (.lst [.int at_ t, .ref cl]) ∧ H cl = some (.lst vs) ∧ IntsAre vs cells ∧ cl ≠ st ∧ 0 < cells.length ∧ cells.length < 2 ^ 20 ∧ 0 ≤ at_ ∧ at_ ≤ b
noncomputable def StOf (H : PH) (st : Nat) (cl : Nat) : Prop := ∃ v vs, H st = some (.lst [v, .ref cl]) ∧ H cl = some (.lst vs)
noncomputable def Imm : AO → Prop
  | .inst _ _ => True
  | .tup _ => True
  | .dic l => (l.head?.map Prod.fst) = some "_cipher_name"
  | _ => False
noncomputable def KeepI (H H' : PH) : Prop := ∀ a z, Imm z → H a = some z → H' a = some z
theorem KeepI.refl (H : PH) : KeepI H H := fun _ _ _ e => e
theorem KeepI.le {H H' H'' : PH} (k : KeepI H H') (l : H'.le H'') : KeepI H H'' := fun a z i e => l a z (k a z i e)
theorem KeepI.trans {H H' H'' : PH} (k : KeepI H H') (l : KeepI H' H'') : KeepI H H'' := fun a z i e => l a z i (k a z i e)
theorem KeepI.set {H H' : PH} {a : Nat} {x y : AO} (k : KeepI H H') (e : H a = some y) (hy : ¬ Imm y) : KeepI H (H'.set a x) := fun b z i e' => by
  by_cases q : b = a
  · subst q; rw [e] at e'; cases e'; exact absurd i hy
  · rw [PH.set_ne q]; exact k b z i e'
theorem KeepI.new {H H' : PH} {a : Nat} {x : AO} (k : KeepI H H') (e : H a = none) : KeepI H (H'.set a x) := fun b z i e' => by
  by_cases q : b = a
  · subst q; rw [e] at e'; cases e'
  · rw [PH.set_ne q]; exact k b z i e'
theorem KeepI.only {S : List Nat} {H H' H'' : PH} (k : KeepI H H') (o : Only S H' H'') (h : ∀ b ∈ S, ∀ z, H b = some z → ¬ Imm z) : KeepI H H'' := fun a z i e => by
  by_cases q : a ∈ S
  · exact absurd i (h a q z e)
  · exact o a z q (k a z i e)
theorem nimm_ctx {v : Value} {l : List (Str × Value)} : ¬ Imm (.dic (("aead", v) :: l)) := fun q => absurd (show some (Str.ofString "aead") = some (Str.ofString "_cipher_name") from q) (by decide)
theorem nimm_pair {v : Value} {l : List (Str × Value)} : ¬ Imm (.dic (("aead_tag_size", v) :: l)) := fun q => absurd (show some (Str.ofString "aead_tag_size") = some (Str.ofString "_cipher_name") from q) (by decide)
theorem nimm_lst {vs : List Value} : ¬ Imm (.lst vs) := id
theorem nimm_raw {o : Obj} : ¬ Imm (.raw o) := id
noncomputable def rngObj (x left : Int) : Obj := { cls := .type "range_iterator", dict := none, data := .fields #[rawInt x, rawInt left, rawInt 1], slots := #[] }
noncomputable abbrev AO.rng (x left : Int) : AO := .raw (rngObj x left)
theorem codeP_loop' {M : Model} {A : Around} {s : Shared} {c : Code} {R : Result → Shared → Prop} (hq : c.quiet = true) (hk : okCode c = true) (I : Nat → Shared → Prop)
    (turn : ∀ n s, I n s → wpP M (A.under c) (M.den c)
      (fun fin s' => match fin with
        | .done f => R (.ok f) s'
        | .again c' => (c' = c ∧ ∃ m, m < n ∧ I m s') ∨ (c'.quiet = true ∧ okCode c' = true ∧ codeP M A c' R s')) (fun e s' => R (.error e) s') s)
    (n : Nat) (h : I n s) : codeP M A c R s := by
  induction n using Nat.strongRecOn generalizing s with
  | ind n ih =>
    refine codeP_tree (P_mono (turn n s h) (fun fin s' hf => ?_) fun _ _ h' => h')
    cases fin with
    | done f => exact hf
    | again c' =>
      rcases hf with ⟨rfl, m, hm, hI⟩ | hf
      · exact ⟨hq, hk, ih m hm hI⟩
      · exact hf
section
variable {prog : Program} {w : World} {A : Around} {s : Shared} {env : Env}
theorem codeP_block {stmts : List Stmt} {R : Result → Shared → Prop} (h : wpP (model prog w) A (execs stmts env) (fun f s' => R (.ok f) s') (fun _ _ => False) s) : codeP (model prog w) A (.block stmts env) R s := by
  refine codeP_tree ?_
  show wpP _ A (do return Fin.done (← (execs stmts env).onRaise (fun x => do noteFrame x env; theTreesLotGoes x))) _ _ s
  exact P_bind (P_onRaise (P_mono h (fun f s' q => P_pure q) fun _ _ x => x.elim))
theorem codeP_forLoop {R : Result → Shared → Prop} {target : Expr} {it : Value} {body orelse : List Stmt} (I : Nat → Shared → Prop)
    (turn : ∀ n s, I n s → wpP (model prog w) A (pyNext it) (fun r s₁ => match r with
      | none => wpP (model prog w) A (execs orelse env) (fun f s₃ => R (.ok f) s₃) (fun _ _ => False) s₁
      | some v => wpP (model prog w) A (assign target env v) (fun _ s₂ => wpP (model prog w) A (execs body env) (fun f s₃ => match f with
          | .next | .cont => ∃ m, m < n ∧ I m s₃
          | .brk => R (.ok .next) s₃
          | .ret v => R (.ok (.ret v)) s₃) (fun _ _ => False) s₂) (fun _ _ => False) s₁) (fun _ _ => False) s)
    (n : Nat) (h : I n s) (ht : ∀ v, letOwnedTupleGo target it v = pure () := by intro _; rfl) : codeP (model prog w) A (.forLoop target it body orelse env) R s := by
  refine codeP_loop' rfl rfl I (fun n s hI => ?_) n h
  show wpP _ _ ((forTurn target it body orelse env).onRaise (fun x => do noteFrame x env; theTreesLotGoes x)) _ _ s
  refine P_onRaise ?_
  simp only [forTurn]
  refine P_standAt (P_bind (P_onRaise (P_mono (turn n s hI) (fun r s₁ h₁ => ?_) fun _ _ h' => h'.elim)))
  cases r with
  | none => exact P_pure (.inr ⟨rfl, rfl, codeP_block h₁⟩)
  | some v =>
    refine P_bindA (wpAny_of_eq (ht v) ?_)
    refine P_bind (P_mono h₁ (fun _ s₂ h₂ => P_bind (P_mono h₂ (fun f s₃ h₃ => ?_) fun _ _ h' => h'.elim)) fun _ _ h' => h'.elim)
    cases f with
    | next => exact P_pure (.inl ⟨rfl, h₃⟩)
    | cont => exact P_pure (.inl ⟨rfl, h₃⟩)
    | brk => exact P_pure h₃
    | ret v => exact P_pure h₃
end
theorem P_runOwn {M : Model} {A : Around} {E : Value → Shared → Prop} {s : Shared} {env : Env} {c : Code} {Q : Flow → Shared → Prop} (ok : okCode c = true)
    (hc : codeP M (A.mark none) c (fun r s' => match r with | .ok f => Q f s' | .error e => False) s) : wpP M A (runOwn c env) Q E s := by
  unfold runOwn
  refine P_onRaise (P_run ok (codeP_mono hc fun r s' h => ?_))
  cases r with
  | ok f => exact h
  | error e => exact h.elim
theorem P_For {M : Model} {A : Around} {E : Value → Shared → Prop} {s : Shared} {env : Env} {target iter : Expr} {body orelse : List Stmt} {pos : Pos} {Q : Flow → Shared → Prop}
    (h : wpAny M A (eval iter env) (fun x s₁ => wpAny M A (pyIter x) (fun it s₂ =>
      codeP M (A.mark none) (.forLoop target it body orelse env) (fun r s' => match r with | .ok f => Q f s' | .error e => False) s₂) E s₁) E s)
    (hf : ∀ x, foldedSetIterable iter env x = pure x := by intro _; rfl) : wpP M A (exec (.For target iter body orelse pos) env) Q E s := by
  rw [exec_For]
  refine P_standAt (P_bindA (wpAny_mono h (fun x s₁ h₁ => ?_) fun _ _ x => x))
  refine P_bindA (wpAny_of_eq (hf x) ?_)
  refine P_standAt (P_bindA (wpAny_holding (wpAny_mono h₁ (fun it s₂ h₂ => ?_) fun _ _ x => x)))
  exact P_runOwn rfl h₂
section
variable {prog : Program} {w : World} {A : Around} {K : Frag} {H0 h : Heap} {fs : List (Nat × Map)} {H : PH} {n : Nat} {L : Nat} {m : Map} {g : Array GenState} {d : Drawn} {tk : Nat} {os : OsState}
  {E : Value → Shared → Prop} {P : Params}
theorem r_range {i : Int} {t : Tok} {Q : Value → Shared → Prop} (R : RC P H0 fs H n h) (hz : H0.objs.size ≤ n)
    (q : ∀ (a : Nat) h' u v tk', n ≤ a → RC P H0 fs (H.set a (.raw { cls := .type "range", data := .fields #[.int 0 u, .int i t, .int 1 v] })) (a + 1) h' → Q (.ref a) ⟨h', g, d, tk', os⟩) :
    wpAny (model prog w) A (call (.type "range") [.int i t]) Q E ⟨h, g, d, tk, os⟩ :=
  call_range_1 (q _ _ _ _ _ R.sz (R.push (x := .raw _) rfl rfl (Nat.le_trans hz R.sz)))
theorem range_small {i : Int} (h0 : 0 ≤ i) (h1 : i < 1000000) : Builtin.Range.small 0 i 1 = true := by
  have e : Builtin.Range.rangeSize 0 i 1 = i := by
    unfold Builtin.Range.rangeSize
    rw [if_pos (by decide)]
    split
    · rw [Int.ediv_one]; walk_at "om"
    · walk_at "om"
  unfold Builtin.Range.small Builtin.Range.rangeFitsLong
  rw [e]
  simp only [Bool.and_eq_true, Bool.or_eq_true, decide_eq_true_eq]
  refine ⟨⟨⟨⟨⟨by omega, by walk_at "om"⟩, ⟨by omega, by walk_at "om"⟩⟩, ⟨by omega, by walk_at "om"⟩⟩, ⟨by omega, by walk_at "om"⟩⟩, .inr ?_⟩
  rw [if_pos (by decide)]
  simp only [Bool.and_eq_true, decide_eq_true_eq]
  walk_at "om"
theorem r_iter_range {a : Nat} {i : Int} {t u v : Tok} {Q : Value → Shared → Prop} (R : RC P H0 fs H n h) (hz : H0.objs.size ≤ n) (e : H a = some (.raw { cls := .type "range", data := .fields #[.int 0 u, .int i t, .int 1 v] })) (h0 : 0 ≤ i) (h1 : i < 1000000)
    (q : ∀ (b : Nat) h', n ≤ b → RC P H0 fs (H.set b (.rng 0 i)) (b + 1) h' → Q (.ref b) ⟨h', g, d, tk, os⟩) : wpAny (model prog w) A (pyIter (.ref a)) Q E ⟨h, g, d, tk, os⟩ := by
  obtain ⟨o, ho, rfl⟩ := R.obj e
  refine wpAny_pyIter_range (s := ⟨h, g, d, tk, os⟩) ho (range_small h0 h1) ?_
  have e : Builtin.Range.rangeSize 0 i 1 = i := by
    unfold Builtin.Range.rangeSize
    rw [if_pos (by decide)]
    split
    · rw [Int.ediv_one]; walk_at "om"
    · walk_at "om"
  rw [e]
  exact q _ _ R.sz (R.push (x := .rng 0 i) rfl rfl (Nat.le_trans hz R.sz))
noncomputable def PH.del (H : PH) (a : Nat) : PH := fun b => if b = a then none else H b
theorem PH.del_only (H : PH) (a : Nat) : Only [a] H (H.del a) := fun b x hn e => by
  have : b ≠ a := fun q => hn (List.mem_singleton.mpr q)
  simp only [PH.del, if_neg this]; exact e
theorem RC.del {h' : Heap} {a : Nat} {x : AO} (R : RC P H0 fs H n h) (e : H a = some x) (k : Heap.ExtBut a h h') (hs : h.objs.size ≤ h'.objs.size) : RC P H0 fs (H.del a) n h' where
  ext := fun b o e' => by
    refine k b o (fun q => ?_) (R.ext b o e')
    subst q
    have := ltsz e'
    have := R.ge e
    walk_at "om"
  sz := Nat.le_trans R.sz hs
  at_ := fun b z e' => by
    simp only [PH.del] at e'
    split at e'
    · cases e'
    · rename_i q
      obtain ⟨⟨o, ho', hi⟩, r⟩ := R.at_ b z e'
      exact ⟨⟨o, k _ _ q ho', hi⟩, r⟩
  fr := fun p hp => by
    obtain ⟨⟨o, es, ep, ho', r⟩, b⟩ := R.fr p hp
    exact ⟨⟨o, es, ep, k _ _ (fun q => (R.at_ _ _ e).2.2.2 p hp q.symm) ho', r⟩, b⟩
  nd := R.nd
theorem PH.le_only {H H' H'' : PH} {a : Nat} (l : H.le H') (o : Only [a] H' H'') (e : H a = none) : H.le H'' := fun b x q => by
  refine o b x (fun hb => ?_) (l b x q)
  rw [List.mem_singleton.mp hb, e] at q; cases q
noncomputable def Turn (P : Params) (H0 : Heap) (fs : List (Nat × Map)) (L it : Nat) (N : Nat) (n : Nat) (g : Array GenState) (d : Drawn) (os : OsState) (Inv : Nat → PH → Map → Prop) (Q : Flow → Shared → Prop) (i : Nat) (f : Flow) (s : Shared) : Prop :=
  match f with
  | .next | .cont => ∃ H' m' n' h' tk', s = ⟨h', g, d, tk', os⟩ ∧ n ≤ n' ∧ H' it = some (.rng (i + 1 : Nat) (N - (i + 1 : Nat))) ∧ Inv (i + 1) H' m' ∧ RC P H0 ((L, m') :: fs) H' n' h'
  | .brk => Q .next s
  | .ret v => Q (.ret v) s
theorem turn_next {it N i : Nat} {Inv : Nat → PH → Map → Prop} {Q : Flow → Shared → Prop} {H' : PH} {m' : Map} {n' : Nat} {h' : Heap} {tk' : Nat} (R : RC P H0 ((L, m') :: fs) H' n' h') (hn : n ≤ n') (hit : H' it = some (.rng (i + 1 : Nat) (N - (i + 1 : Nat)))) (hI : Inv (i + 1) H' m') :
    Turn P H0 fs L it N n g d os Inv Q i .next ⟨h', g, d, tk', os⟩ := ⟨H', m', n', h', tk', rfl, hn, hit, hI, R⟩
theorem range_turns2 {x : Str} {px : Pos} {body : List Stmt} {cn : Str} {cs : Scope} {f : Addr} {cdv : Value} {it N : Nat} {Q : Flow → Shared → Prop} (hh : A.handled = none)
    (R : RC P H0 ((L, m) :: fs) H n h) (e : H it = some (.rng 0 N)) (Inv : Nat → PH → Map → Prop) (i0 : Inv 0 H m)
    (turn : ∀ i H' m' n' h' tk' tk'', i < N → Inv i H' m' → n ≤ n' → H' it = some (.rng (i + 1 : Nat) (N - (i + 1 : Nat))) → RC P H0 ((L, upd m' x (.int (i : Nat) tk'')) :: fs) H' n' h' →
      wpAny (model prog w) A (execs body (envOf cn cs L f cdv)) (Turn P H0 fs L it N n g d os Inv Q i) (fun _ _ => False) ⟨h', g, d, tk', os⟩)
    (fin : ∀ H' m' n' h' tk', Inv N H' m' → n ≤ n' → RC P H0 ((L, m') :: fs) H' n' h' → Q .next ⟨h', g, d, tk', os⟩)
    (hinv : ∀ i H' H'' m', Only [it] H' H'' → (∃ o, H' it = some (.raw o)) → Inv i H' m' → Inv i H'' m')
    (hk : cs.kind = .function) (hl : (envOf cn cs L f cdv).kindOf x = some .local) :
    codeAny (model prog w) A (.forLoop (.Name x px) (.ref it) body [] (envOf cn cs L f cdv)) (fun r s' => match r with | .ok f => Q f s' | .error e => False) ⟨h, g, d, tk, os⟩ := by
  refine codeAny_forLoop (fun k s => ∃ i H' m' n' h' tk', k + i = N + 1 ∧ i ≤ N ∧ s = ⟨h', g, d, tk', os⟩ ∧ n ≤ n' ∧ H' it = some (.rng (i : Nat) (N - (i : Nat))) ∧ Inv i H' m' ∧ RC P H0 ((L, m') :: fs) H' n' h') ?_ (N + 1)
    ⟨0, H, m, n, h, tk, rfl, Nat.zero_le _, rfl, Nat.le_refl _, by rw [e]; simp, i0, R⟩
  rintro k s ⟨i, H', m', n', h', tk', hki, hi, rfl, hn, hit, hI, R'⟩
  obtain ⟨o, ho, rfl⟩ := R'.obj hit
  by_cases hlt : i < N
  · refine with_size (wpAny_pyNext_range_item (s := ⟨h', g, d, tk', os⟩) (x := (i : Nat)) (left := (N : Int) - (i : Nat)) (step := 1) ho (by walk_at "om") fun h1 ho1 hs1 hsz => ?_)
    have R1 : RC P H0 ((L, m') :: fs) (H'.set it (.rng (i + 1 : Nat) (N - (i + 1 : Nat)))) n' h1 := by
      refine R'.put hit ho1 ?_ (fun b o hb e => (hs1.2 b hb).trans e) hsz
      show rngObj _ _ = rngObj _ _
      congr 1; walk_at "om"
    refine wpAny_assign_Name (r_store R1 (fun h2 tk2 R2 => ?_) hk hl)
    refine wpAny_mono (turn i _ m' n' h2 _ _ hlt (hinv i H' _ m' (Only.set _ (Only.refl _ _) (List.mem_singleton.mpr rfl)) ⟨_, hit⟩ hI) hn (PH.set_self _ _ _) R2) (fun f s3 q => ?_) fun _ _ x => x.elim
    cases f with
    | next =>
      obtain ⟨H3, m3, n3, h3, tk3, rfl, hn3, hit3, hI3, R3⟩ := q
      exact ⟨k - 1, by omega, i + 1, H3, m3, n3, h3, tk3, by omega, hlt, rfl, hn3, hit3, hI3, R3⟩
    | cont =>
      obtain ⟨H3, m3, n3, h3, tk3, rfl, hn3, hit3, hI3, R3⟩ := q
      exact ⟨k - 1, by omega, i + 1, H3, m3, n3, h3, tk3, by omega, hlt, rfl, hn3, hit3, hI3, R3⟩
    | brk => exact q
    | ret v => exact q
  · have : i = N := by walk_at "om"
    subst this
    refine with_size (wpAny_pyNext_range_end (s := ⟨h', g, d, tk', os⟩) (x := (i : Nat)) (left := (i : Int) - (i : Nat)) (step := 1) hh ho (by walk_at "om") fun h1 hs1 hsz => ?_)
    refine wpAny_execs_nil ?_
    exact fin (H'.del it) m' n' h1 _ (hinv i H' _ m' (PH.del_only _ _) ⟨_, hit⟩ hI) hn (R'.del hit hs1 hsz)
theorem range_turns {x : Str} {px : Pos} {body : List Stmt} {cn : Str} {cs : Scope} {f : Addr} {cdv : Value} {it N : Nat} {Q : Flow → Shared → Prop} (hh : A.handled = none)
    (R : RC P H0 ((L, m) :: fs) H n h) (e : H it = some (.rng 0 N)) (Inv : Nat → PH → Map → Prop) (i0 : Inv 0 H m)
    (turn : ∀ i H' m' n' h' tk' tk'', i < N → Inv i H' m' → n ≤ n' → H' it = some (.rng (i + 1 : Nat) (N - (i + 1 : Nat))) → RC P H0 ((L, upd m' x (.int (i : Nat) tk'')) :: fs) H' n' h' →
      wpAny (model prog w) A (execs body (envOf cn cs L f cdv)) (Turn P H0 fs L it N n g d os Inv Q i) (fun _ _ => False) ⟨h', g, d, tk', os⟩)
    (fin : ∀ H' m' n' h' tk', Inv N H' m' → n ≤ n' → RC P H0 ((L, m') :: fs) H' n' h' → Q .next ⟨h', g, d, tk', os⟩)
    (hinv : ∀ i H' H'' m', Only [it] H' H'' → Inv i H' m' → Inv i H'' m')
    (hk : cs.kind = .function) (hl : (envOf cn cs L f cdv).kindOf x = some .local) :
    codeAny (model prog w) A (.forLoop (.Name x px) (.ref it) body [] (envOf cn cs L f cdv)) (fun r s' => match r with | .ok f => Q f s' | .error e => False) ⟨h, g, d, tk, os⟩ := 
  range_turns2 hh R e Inv i0 turn fin (fun i H1 H2 m1 o _ x => hinv i H1 H2 m1 o x) hk hl
theorem wpAny_For_noraise {M : Model} {A : Around} {E : Value → Shared → Prop} {s : Shared} {env : Env} {target iter : Expr} {body orelse : List Stmt} {pos : Pos} {Q : Flow → Shared → Prop}
    (h : wpAny M A (eval iter env) (fun x s₁ => wpAny M A (pyIter x) (fun it s₂ =>
      codeAny M A (.forLoop target it body orelse env) (fun r s' => match r with | .ok f => Q f s' | .error e => False) s₂) E s₁) E s)
    (hf : ∀ x, foldedSetIterable iter env x = pure x := by intro _; rfl) : wpAny M A (exec (.For target iter body orelse pos) env) Q E s := by
  refine wpAny_For (wpAny_mono h (fun x s₁ h₁ => wpAny_mono h₁ (fun it s₂ h₂ => codeAny_mono h₂ fun r s' q => ?_) fun _ _ x => x) fun _ _ x => x) hf
  cases r with
  | ok f => exact q
  | error e => exact q.elim
end
theorem nat_xor_and (a : Nat) : ∀ b : Nat, (a ^^^ b) + 2 * (a &&& b) = a + b := by
  induction a using Nat.strongRecOn with
  | ind a ih =>
    intro b
    by_cases ha : a = 0
    · subst ha; simp
    · have h := ih (a / 2) (by walk_at "om") (b / 2)
      have x1 : (a ^^^ b) / 2 = a / 2 ^^^ b / 2 := Nat.xor_div_two
      have x2 : (a ^^^ b) % 2 = (a + b) % 2 := by
        have q : (a ^^^ b) % 2 = (a % 2) ^^^ (b % 2) := by
          have := Nat.xor_mod_two_pow (a := a) (b := b) (n := 1)
          simpa using this
        rw [q]
        rcases Nat.mod_two_eq_zero_or_one a with e | e <;> rcases Nat.mod_two_eq_zero_or_one b with e' | e' <;> rw [e, e'] <;> (try simp) <;> walk_at "om"
      have a1 : (a &&& b) / 2 = a / 2 &&& b / 2 := Nat.and_div_two
      have a2 : (a &&& b) % 2 = (a % 2) * (b % 2) := by
        have q : (a &&& b) % 2 = (a % 2) &&& (b % 2) := by
          have := Nat.and_mod_two_pow (a := a) (b := b) (n := 1)
          simpa using this
        rw [q]
        rcases Nat.mod_two_eq_zero_or_one a with e | e <;> rcases Nat.mod_two_eq_zero_or_one b with e' | e' <;> rw [e, e'] <;> rfl
      rcases Nat.mod_two_eq_zero_or_one a with e | e <;> rcases Nat.mod_two_eq_zero_or_one b with e' | e' <;> rw [e, e'] at a2 <;> walk_at "om"
theorem bitXor_nat (a b : Nat) : Builtin.bitXor (a : Int) (b : Int) = ((a ^^^ b : Nat) : Int) := by
  rw [bitXor_and, bitAnd_pp (by walk_at "om") (by walk_at "om"), Int.toNat_natCast, Int.toNat_natCast]
  have := nat_xor_and a b
  walk_at "om"
theorem bitAnd_nat (a b : Nat) : Builtin.bitAnd (a : Int) (b : Int) = ((a &&& b : Nat) : Int) := by
  rw [bitAnd_pp (by walk_at "om") (by walk_at "om"), Int.toNat_natCast, Int.toNat_natCast]
theorem xorU (x y : UInt8) : Builtin.bitXor ((x.toNat : Nat) : Int) ((y.toNat : Nat) : Int) = (((x ^^^ y).toNat : Nat) : Int) := by
  rw [bitXor_nat, UInt8.toNat_xor]
theorem and15U (x : UInt8) : Builtin.bitAnd ((x.toNat : Nat) : Int) 15 = (((x &&& 15).toNat : Nat) : Int) := by
  rw [show (15 : Int) = ((15 : Nat) : Int) from rfl, bitAnd_nat, UInt8.toNat_and]; rfl
theorem and31U (x : UInt8) : Builtin.bitAnd ((x.toNat : Nat) : Int) 31 = (((x &&& 31).toNat : Nat) : Int) := by
  rw [show (31 : Int) = ((31 : Nat) : Int) from rfl, bitAnd_nat, UInt8.toNat_and]; rfl
theorem and3U (x : UInt8) : Builtin.bitAnd ((x.toNat : Nat) : Int) 3 = ((x.toNat % 4 : Nat) : Int) := by
  rw [bitAnd_m2]; walk_at "om"
theorem and128U (x : UInt8) : decide (Builtin.bitAnd ((x.toNat : Nat) : Int) 128 ≠ 0) = decide (128 ≤ x.toNat) := by
  have h := kbt_bit ((x.toNat : Nat) : Int) 7
  have e : (2 : Int) ^ 7 = 128 := by decide
  rw [e] at h
  rw [h]
  have := x.toNat_lt
  by_cases c : 128 ≤ x.toNat
  · rw [decide_eq_true c, decide_eq_true]; walk_at "om"
  · rw [decide_eq_false c, decide_eq_false]; walk_at "om"
theorem and0 (b T : Nat) (hb : b < 256) : b &&& (T * 256) = 0 := by
  apply Nat.eq_of_testBit_eq
  intro i
  rw [Nat.testBit_and, Nat.zero_testBit]
  by_cases hi : i < 8
  · have : (T * 256).testBit i = false := by
      rw [show T * 256 = 2 ^ 8 * T by omega, Nat.testBit_two_pow_mul]
      simp; walk_at "om"
    rw [this, Bool.and_false]
  · have : b.testBit i = false := Nat.testBit_lt_two_pow (Nat.lt_of_lt_of_le hb (Nat.pow_le_pow_right (n := 2) (by decide) (Nat.le_of_not_lt hi)))
    rw [this, Bool.false_and]
theorem orU (x : UInt8) (T : Nat) : Builtin.bitOr ((x.toNat : Nat) : Int) ((T : Int) * 2 ^ Int.toNat 8) = ((T * 256 + x.toNat : Nat) : Int) := by
  have e : (T : Int) * 2 ^ Int.toNat 8 = ((T * 256 : Nat) : Int) := by
    show (T : Int) * 2 ^ 8 = _
    walk_at "om"
  rw [e, bitOr_and, bitAnd_nat, and0 _ _ x.toNat_lt]
  walk_at "om"
section
variable {prog : Program} {w : World} {A : Around} {K : Frag} {H0 h : Heap} {fs : List (Nat × Map)} {H : PH} {n : Nat} {L : Nat} {m : Map} {g : Array GenState} {d : Drawn} {tk : Nat} {os : OsState}
  {E : Value → Shared → Prop} {P : Params} {t u : Tok} {Q : Value → Shared → Prop}
theorem r_ixor8 {x y : UInt8} (q : ∀ t' tk', Q (.int ((x ^^^ y).toNat : Nat) t') ⟨h, g, d, tk', os⟩) : wpAny (model prog w) A (inplaceOp .BitXor (.int (x.toNat : Nat) t) (.int (y.toNat : Nat) u)) Q E ⟨h, g, d, tk, os⟩ :=
  r_ixor (by rw [xorU]; exact q)
theorem r_and15 {x : UInt8} (q : ∀ t' tk', Q (.int ((x &&& 15).toNat : Nat) t') ⟨h, g, d, tk', os⟩) : wpAny (model prog w) A (binaryOp .BitAnd (.int (x.toNat : Nat) t) (.int 15 u)) Q E ⟨h, g, d, tk, os⟩ :=
  r_and (by rw [and15U]; exact q)
theorem r_and31 {x : UInt8} (q : ∀ t' tk', Q (.int ((x &&& 31).toNat : Nat) t') ⟨h, g, d, tk', os⟩) : wpAny (model prog w) A (binaryOp .BitAnd (.int (x.toNat : Nat) t) (.int 31 u)) Q E ⟨h, g, d, tk, os⟩ :=
  r_and (by rw [and31U]; exact q)
theorem r_and3 {x : UInt8} (q : ∀ t' tk', Q (.int ((x.toNat % 4 : Nat) : Int) t') ⟨h, g, d, tk', os⟩) : wpAny (model prog w) A (binaryOp .BitAnd (.int (x.toNat : Nat) t) (.int 3 u)) Q E ⟨h, g, d, tk, os⟩ :=
  r_and (by rw [and3U]; exact q)
theorem r_baset8 {a : Nat} {x : List UInt8} {i : Int} {y : UInt8} {Q : Unit → Shared → Prop} (R : RC P H0 fs H n h) (e : H a = some (.ba x)) (hz : x.length ≤ 1000000) (h0 : 0 ≤ i) (h1 : i < x.length)
    (q : ∀ h', RC P H0 fs (H.set a (.ba (x.set i.toNat y))) n h' → Q () ⟨h', g, d, tk, os⟩) : wpAny (model prog w) A (setItem (.ref a) (.int i t) (.int (y.toNat : Nat) u)) Q E ⟨h, g, d, tk, os⟩ :=
  r_basetitem R e hz h0 h1 (by walk_at "om") (u8lt y) (by rw [u8nat]; exact q)
theorem r_or8 {x : UInt8} {T : Nat} (q : ∀ t' tk', Q (.int ((T * 256 + x.toNat : Nat) : Int) t') ⟨h, g, d, tk', os⟩) : wpAny (model prog w) A (binaryOp .BitOr (.int (x.toNat : Nat) t) (.int ((T : Int) * 2 ^ Int.toNat 8) u)) Q E ⟨h, g, d, tk, os⟩ :=
  r_or (by rw [orU]; exact q)
end
section
variable {prog : Program} {w : World} {A : Around} {K : Frag} {H0 h : Heap} {fs : List (Nat × Map)} {H : PH} {n : Nat} {L : Nat} {m : Map} {g : Array GenState} {d : Drawn} {tk : Nat} {os : OsState}
  {E : Value → Shared → Prop} {P : Params}
theorem istup_ext {t : Addr} {items : Array Value} (R : RC P H0 fs H n h) (e : IsTup H0 t items) : IsTup h t items := by
  obtain ⟨o, ho, r⟩ := e; exact ⟨o, R.ext _ _ ho, r⟩
theorem dictOf_ext {a : Addr} {kvs : List (Int × Value)} (R : RC P H0 fs H n h) (e : H0.DictOf (intKind prog w) a kvs) : h.DictOf (intKind prog w) a kvs := by
  obtain ⟨o, es, ep, ho, r⟩ := e; exact ⟨o, es, ep, R.ext _ _ ho, r⟩
inductive IEnts : List DictEntry → List (Int × Value) → Prop
  | nil : IEnts [] []
  | cons {hs : Int} {k : Int} {t : Tok} {v : Value} {es kvs} (e : hs = PySem.hashInt k) : IEnts es kvs → IEnts ({ hash := hs, key := .int k t, val := v } :: es) ((k, v) :: kvs)
theorem idict_K {a : Addr} {es : List DictEntry} {n : Nat} {kvs : List (Int × Value)} (X : K.In h) (hl : K.lookup a = some ⟨.type "dict", none, .dict es.toArray n, #[]⟩) (hc : IEnts es kvs) (hn : (kvs.map (·.1)).Nodup) : h.DictOf (intKind prog w) a kvs := by
  refine ⟨_, es.toArray, n, X _ _ hl, ⟨rfl, rfl, rfl⟩, rfl, ?_, ?_, hn⟩
  · suffices hh : ∀ e ∈ es, ∃ k, (intKind prog w).is k e.key = true ∧ e.hash = (intKind prog w).hash k from fun e he => hh e (by simpa using he)
    intro e he
    clear hl hn
    induction hc with
    | nil => cases he
    | cons q _ ih =>
      rcases List.mem_cons.mp he with rfl | he
      · exact ⟨_, intKind_is prog w _ _, q⟩
      · exact ih he
  · show Pairs (intKind prog w) es kvs
    clear hl hn
    induction hc with
    | nil => exact .nil
    | cons q _ ih => exact .cons (intKind_is prog w _ _) rfl ih
theorem r_item_idH0 {value slice : Expr} {a : Addr} {kvs : List (Int × Value)} {k : Int} {u : Tok} {v : Value} {Q : Value → Shared → Prop} (R : RC P H0 fs H n h) (e : H0.DictOf (intKind prog w) a kvs) (hv : valueAt kvs k = some v)
    (q : ∀ tk', Q v ⟨h, g, d, tk', os⟩)
    (hs : subscripted slice false (.ref a) (.int k u) = operate [.ref a, .int k u] (getItem (.ref a) (.int k u)) := by with_unfolding_all rfl) :
    wpAny (model prog w) A (subscriptTail value slice (.ref a) (.int k u)) Q E ⟨h, g, d, tk, os⟩ :=
  tail_any (Heap.MapOf.typeIs (s := ⟨h, g, d, tk, os⟩) (dictOf_ext R e).mapOf) slot_dict_getitem.lookup (wpAny_getItem_of (intKind_is prog w k u) (dictOf_ext R e).mapOf hv (q _)) hs
theorem r_prop {expr : Bool} {Q : Value → Shared → Prop} {x C dx : Nat} {l : List (Str × Value)} {name : Str} {p fget : Addr} {rest : List Value} (R : RC P H0 ((L, m) :: fs) H n h) (G : Gd K H0) (e : H x = some (.inst C dx)) (e' : H dx = some (.dic l))
    (hg : plainGet K C name = true) (hh : hasDictIn K C = true) (hf : findIn K (.ref C) name = some (some (.ref p))) (hs : specialIn K (.ref p) "__get__" = some (some (.builtin "property.__get__"))) (ht : takesIn K (.ref p) = some true) (hr : recIn K p "property" = some (.ref fget :: rest))
    (q : ∀ tk', codeAny (model prog w) A.in1 (.call (.ref fget) ⟨[.ref x], []⟩) (fun r s' => match r with | .ok (.ret v) => handedIn v = true ∧ Q v s' | _ => False) ⟨h, g, d, tk', os⟩) : wpAny (model prog w) A (getAttr (.ref x) name expr) Q E ⟨h, g, d, tk, os⟩ := by
  obtain ⟨es, k, I, hE⟩ := R.inst e e'
  refine get_prop (s := ⟨h, g, d, tk, os⟩) R.Fr G.X I hg hh hf hs ht hr (codeAny_mono (q _) fun r s' hr' => ?_)
  cases r with
  | error e => exact hr'.elim
  | ok f =>
    cases f with
    | ret v => exact handed_on hr'.1 hr'.2
    | _ => exact hr'.elim
theorem r_shr {a b : Int} {t u : Tok} {Q : Value → Shared → Prop} (h0 : 0 ≤ b) (q : ∀ t' tk', Q (.int (a.fdiv (2 ^ b.toNat)) t') ⟨h, g, d, tk', os⟩) : wpAny (model prog w) A (binaryOp .RShift (.int a t) (.int b u)) Q E ⟨h, g, d, tk, os⟩ := rshift_int h0 (q _ _)
theorem r_isnot_self {x : Nat} {Q : Value → Shared → Prop} (q : Q (.bool false) ⟨h, g, d, tk, os⟩) : wpAny (model prog w) A (compareOp .IsNot (.ref x) (.ref x)) Q E ⟨h, g, d, tk, os⟩ := wpAny_isNot_ref_self q
theorem r_isnot_inst {x y C dx D dy : Nat} {Q : Value → Shared → Prop} (R : RC P H0 fs H n h) (e : H x = some (.inst C dx)) (e' : H y = some (.inst D dy)) (hne : x ≠ y) (q : Q (.bool true) ⟨h, g, d, tk, os⟩) : wpAny (model prog w) A (compareOp .IsNot (.ref x) (.ref y)) Q E ⟨h, g, d, tk, os⟩ := by
  obtain ⟨o, ho, rfl⟩ := R.obj e
  obtain ⟨o', ho', rfl⟩ := R.obj e'
  exact wpAny_isNot_ref_other hne ho ho' (fun q => nomatch q) q
end
noncomputable def u8 (n : Nat) : UInt8 := n.toUInt8
noncomputable def sealB (name key nonce data assoc : List UInt8) : List UInt8 :=
  data ++ data ++ [name.length.toUInt8, key.length.toUInt8] ++ name ++ key ++ nonce ++ assoc ++ [assoc.length.toUInt8, data.length.toUInt8] ++ List.replicate 16 0
noncomputable def cutB (data : List UInt8) : List UInt8 := data.take (((data.getD ((data.length : Int) - 17).toNat 0).toNat : Nat) : Int).toNat
noncomputable def openB (name key nonce data assoc : List UInt8) : Option (List UInt8) :=
  if data.length < 18 then none
  else if sealB name key nonce (cutB data) assoc = data then some (cutB data) else none
theorem cutB_length (data : List UInt8) : (cutB data).length < 256 := by
  have := (data.getD ((data.length : Int) - 17).toNat 0).toNat_lt
  unfold cutB
  rw [List.length_take]
  walk_at "om"
noncomputable def maskB (name key sample : List UInt8) : List UInt8 := [key.getD 5 0, key.getD 4 0, key.getD 3 0, 255, 7]
noncomputable def kuL : List UInt8 := [113, 117, 105, 99, 32, 107, 117]
noncomputable def kuL2 : List UInt8 := [113, 117, 105, 99, 118, 50, 32, 107, 117]
noncomputable def expandB (size : Nat) (secret label : List UInt8) (length : Nat) : List UInt8 :=
  if label = kuL ∨ label = kuL2 then toBE 6 (beI (secret.take 6) + 1) ++ (secret.take length).drop 6 ++ List.replicate (length - secret.length) 0
  else (toBE 6 (beI (secret.take 6)) ++ label.drop (label.length - 3) ++ List.replicate length 0).take length
noncomputable def ExpandPre (secret label : List UInt8) : Prop := beI (secret.take 6) + 1 < 256 ^ 6 ∧ 3 ≤ label.length
noncomputable def SecOk (b : Nat) (secret : List UInt8) : Prop := 6 ≤ secret.length ∧ secret.length ≤ 100 ∧ beI (secret.take 6) + b < 256 ^ 6
theorem SecOk.pre {b : Nat} {s l : List UInt8} (h : SecOk (b + 1) s) (hl : 3 ≤ l.length) : ExpandPre s l := ⟨by have := h.2.2; omega, hl⟩
theorem SecOk.le {b : Nat} {s : List UInt8} (h : SecOk b s) : s.length ≤ 100 := h.2.1
noncomputable def keyL : Bool → List UInt8
  | true => [113, 117, 105, 99, 118, 50, 32, 107, 101, 121]
  | false => [113, 117, 105, 99, 32, 107, 101, 121]
noncomputable def ivL : Bool → List UInt8
  | true => [113, 117, 105, 99, 118, 50, 32, 105, 118]
  | false => [113, 117, 105, 99, 32, 105, 118]
noncomputable def hpL : Bool → List UInt8
  | true => [113, 117, 105, 99, 118, 50, 32, 104, 112]
  | false => [113, 117, 105, 99, 32, 104, 112]
noncomputable def kuLb : Bool → List UInt8
  | true => kuL2
  | false => kuL
noncomputable def isV2 (version : Int) : Bool := decide (version = 1798521807)
noncomputable def algI (suite : Int) : Int := if suite = 4866 then 48 else 32
noncomputable def keySize (suite : Int) : Int := if suite = 4866 ∨ suite = 4867 then 32 else 16
noncomputable def keyB (suite version : Int) (secret : List UInt8) : List UInt8 := expandB (algI suite).toNat secret (keyL (isV2 version)) (keySize suite).toNat
noncomputable def ivB (suite version : Int) (secret : List UInt8) : List UInt8 := expandB (algI suite).toNat secret (ivL (isV2 version)) 12
noncomputable def hpB (suite version : Int) (secret : List UInt8) : List UInt8 := expandB (algI suite).toNat secret (hpL (isV2 version)) (keySize suite).toNat
noncomputable def nextB (suite version : Int) (secret : List UInt8) : List UInt8 := expandB (algI suite).toNat secret (kuLb (isV2 version)) (algI suite).toNat
noncomputable def aeadNames : List (List UInt8) := [[97, 101, 115, 45, 49, 50, 56, 45, 103, 99, 109], [97, 101, 115, 45, 50, 53, 54, 45, 103, 99, 109], [99, 104, 97, 99, 104, 97, 50, 48, 45, 112, 111, 108, 121, 49, 51, 48, 53]]
noncomputable def hpNames : List (List UInt8) := [[97, 101, 115, 45, 49, 50, 56, 45, 101, 99, 98], [97, 101, 115, 45, 50, 53, 54, 45, 101, 99, 98], [99, 104, 97, 99, 104, 97, 50, 48]]
noncomputable def maskRun (b : List UInt8) (off : Nat) (mask : List UInt8) : Nat → List UInt8
  | 0 => b
  | i + 1 => (maskRun b off mask i).set (off + i) ((maskRun b off mask i).getD (off + i) 0 ^^^ mask.getD (1 + i) 0)
theorem maskRun_length (b : List UInt8) (off : Nat) (mask : List UInt8) : ∀ i, (maskRun b off mask i).length = b.length
  | 0 => rfl
  | i + 1 => by rw [maskRun, List.length_set, maskRun_length b off mask i]
noncomputable def maskFirst (b mask : List UInt8) : List UInt8 := b.set 0 (b.getD 0 0 ^^^ (mask.getD 0 0 &&& (if 128 ≤ (b.getD 0 0).toNat then 15 else 31)))
theorem maskFirst_length (b mask : List UInt8) : (maskFirst b mask).length = b.length := by rw [maskFirst, List.length_set]
noncomputable def applyB (name key ph pp : List UInt8) : List UInt8 :=
  maskRun (maskFirst (ph ++ pp) (maskB name key ((pp.take (4 - ((ph.getD 0 0).toNat % 4 + 1) + 16)).drop (4 - ((ph.getD 0 0).toNat % 4 + 1))))) (ph.length - ((ph.getD 0 0).toNat % 4 + 1))
    (maskB name key ((pp.take (4 - ((ph.getD 0 0).toNat % 4 + 1) + 16)).drop (4 - ((ph.getD 0 0).toNat % 4 + 1)))) ((ph.getD 0 0).toNat % 4 + 1)
noncomputable def truncRun (b : List UInt8) (off : Nat) (mask : List UInt8) : Nat → Nat
  | 0 => 0
  | i + 1 => truncRun b off mask i * 256 + ((maskRun b off mask (i + 1)).getD (off + i) 0).toNat
theorem truncRun_lt (b : List UInt8) (off : Nat) (mask : List UInt8) : ∀ i, truncRun b off mask i < 256 ^ i
  | 0 => by simp [truncRun]
  | i + 1 => by
    have := truncRun_lt b off mask i
    have h := ((maskRun b off mask (i + 1)).getD (off + i) 0).toNat_lt
    rw [truncRun, Nat.pow_succ]
    walk_at "om"
noncomputable def unFirst (name key packet : List UInt8) (off : Nat) : List UInt8 := maskFirst packet (maskB name key ((packet.take (off + 4 + 16)).drop (off + 4)))
noncomputable def unLen (name key packet : List UInt8) (off : Nat) : Nat := ((unFirst name key packet off).getD 0 0).toNat % 4 + 1
noncomputable def unMask (name key packet : List UInt8) (off : Nat) : List UInt8 := maskB name key ((packet.take (off + 4 + 16)).drop (off + 4))
noncomputable def unHdr (name key packet : List UInt8) (off : Nat) : List UInt8 := (maskRun (unFirst name key packet off) off (unMask name key packet off) (unLen name key packet off)).take (off + unLen name key packet off)
noncomputable def unTrunc (name key packet : List UInt8) (off : Nat) : Nat := truncRun (unFirst name key packet off) off (unMask name key packet off) (unLen name key packet off)
theorem expandB_length {size : Nat} {secret label : List UInt8} {len : Nat} (h : ¬ (label = kuL ∨ label = kuL2)) : (expandB size secret label len).length = len := by
  unfold expandB
  rw [if_neg h, List.length_take, List.length_append, List.length_append, toBE_length, List.length_replicate]
  walk_at "om"
theorem keyB_length {b : Nat} {suite version : Int} {secret : List UInt8} (_ : SecOk b secret) : (keyB suite version secret).length = (keySize suite).toNat := expandB_length (by cases isV2 version <;> decide)
theorem ivB_length {b : Nat} {suite version : Int} {secret : List UInt8} (_ : SecOk b secret) : (ivB suite version secret).length = 12 := expandB_length (by cases isV2 version <;> decide)
theorem keySize_in (suite : Int) : 16 ≤ keySize suite ∧ keySize suite ≤ 32 := by unfold keySize; split <;> decide
theorem algI_in (suite : Int) : 32 ≤ algI suite ∧ algI suite ≤ 48 := by unfold algI; split <;> decide
theorem beI_app (a b : List UInt8) : beI (a ++ b) = beI a * 256 ^ b.length + beI b := by
  have gen : ∀ (b : List UInt8) (x : Nat), b.foldl (fun (a : Nat) (c : UInt8) => a * 256 + c.toNat) x = x * 256 ^ b.length + beI b := by
    intro b
    induction b with
    | nil => intro x; simp [beI]
    | cons c r ih =>
      intro x
      rw [List.foldl_cons, ih, List.length_cons, Nat.pow_succ]
      have : beI (c :: r) = c.toNat * 256 ^ r.length + beI r := by
        show (c :: r).foldl _ 0 = _
        rw [List.foldl_cons, ih]; simp
      rw [this, Nat.add_mul, Nat.mul_comm (256 ^ r.length) 256, Nat.mul_assoc]; walk_at "om"
  show (a ++ b).foldl _ 0 = _
  rw [List.foldl_append, gen b]; rfl
theorem beI_toBE : ∀ (n x : Nat), x < 256 ^ n → beI (toBE n x) = x
  | 0, x, h => by simp at h; subst h; rfl
  | n + 1, x, h => by
    rw [toBE, beI_app, beI_toBE n (x / 256) (by rw [Nat.pow_succ] at h; walk_at "om")]
    have e : beI [UInt8.ofNat (x % 256)] = x % 256 := by
      show 0 * 256 + (UInt8.ofNat (x % 256)).toNat = _
      rw [UInt8.toNat_ofNat']; walk_at "om"
    rw [e]; simp only [List.length_cons, List.length_nil]; walk_at "om"
theorem nextB_eq (suite version : Int) (secret : List UInt8) : nextB suite version secret = toBE 6 (beI (secret.take 6) + 1) ++ (secret.take (algI suite).toNat).drop 6 ++ List.replicate ((algI suite).toNat - secret.length) 0 := by
  unfold nextB expandB
  rw [if_pos (by cases isV2 version <;> decide)]
theorem SecOk.next {b : Nat} {suite version : Int} {secret : List UInt8} (h : SecOk (b + 1) secret) : SecOk b (nextB suite version secret) := by
  have ha := algI_in suite
  obtain ⟨h1, h2, h3⟩ := h
  have e : (nextB suite version secret).take 6 = toBE 6 (beI (secret.take 6) + 1) := by
    rw [nextB_eq, List.append_assoc, List.take_left' (toBE_length _ _)]
  refine ⟨?_, ?_, ?_⟩
  · rw [nextB_eq]; simp only [List.length_append, toBE_length]; walk_at "om"
  · rw [nextB_eq]; simp only [List.length_append, toBE_length, List.length_drop, List.length_take, List.length_replicate]; walk_at "om"
  · rw [e, beI_toBE _ _ (by walk_at "om")]; walk_at "om"
noncomputable def flipI (kp : Int) : Int := if (!decide (kp ≠ 0)) = true then 1 else 0
theorem sealB_lt {name key nonce data assoc : List UInt8} (h1 : name.length < 256) (h2 : key.length < 256) (h3 : nonce.length < 256) (h4 : data.length < 256) (h5 : assoc.length < 256) : (sealB name key nonce data assoc).length < 10000 := by
  unfold sealB
  simp only [List.length_append, List.length_cons, List.length_nil, List.length_replicate]
  walk_at "om"
noncomputable def aname (suite : Int) : List UInt8 := if suite = 4865 then aeadNames.getD 0 [] else if suite = 4866 then aeadNames.getD 1 [] else aeadNames.getD 2 []
noncomputable def hname (suite : Int) : List UInt8 := if suite = 4865 then hpNames.getD 0 [] else if suite = 4866 then hpNames.getD 1 [] else hpNames.getD 2 []
noncomputable def Suite (suite : Int) : Prop := suite = 4865 ∨ suite = 4866 ∨ suite = 4867
theorem Suite.ana {s : Int} (h : Suite s) : (aeadNames.any (· == aname s)) = true := by rcases h with rfl | rfl | rfl <;> decide
theorem Suite.hna {s : Int} (h : Suite s) : (hpNames.any (· == hname s)) = true := by rcases h with rfl | rfl | rfl <;> decide
theorem Suite.anl {s : Int} (h : Suite s) : (aname s).length < 256 := by rcases h with rfl | rfl | rfl <;> decide
theorem Suite.hnl {s : Int} (h : Suite s) : (hname s).length < 256 := by rcases h with rfl | rfl | rfl <;> decide
noncomputable def OptB (v : Value) : Option (List UInt8) → Prop
  | none => v = .none
  | some y => ∃ t, v = .bytes y.toArray t
noncomputable def FrOk (A : Around) (fs : List (Nat × Map)) : Prop := ∃ l : List Env, A.frames = some l ∧ l.map (·.frame) = fs.map (fun p => some p.1) ∧ ∀ env ∈ l, env.scope.kind ≠ .module
theorem FrOk.deep {A : Around} {fs : List (Nat × Map)} {L : Nat} {m : Map} {name : Str} {scope : Scope} {a : Addr} {cd : Value} (h : FrOk A fs) (hk : scope.kind = .function := by rfl) :
    FrOk (A.deeper (envOf name scope L a cd)) ((L, m) :: fs) := by
  obtain ⟨l, h1, h2, h3⟩ := h
  refine ⟨_ :: l, Around.frames_deeper h1, ?_, ?_⟩
  · rw [List.map_cons, List.map_cons, h2]; rfl
  · intro env he
    rcases List.mem_cons.mp he with rfl | he
    · show scope.kind ≠ _; rw [hk]; decide
    · exact h3 _ he
theorem FrOk.caller : FrOk callerA [] := ⟨[], rfl, rfl, fun _ h => nomatch h⟩
noncomputable def Fly (P : Params) (H0 : Heap) (fs : List (Nat × Map)) (H : PH) (n : Nat) (A : Around) (e : Addr) (cls : Value) (h : Heap) : Prop :=
  ∃ B a0 l, A.frames = some l ∧ l.map (·.frame) = fs.map (fun p => some p.1) ∧ Heap.FlyingW B l e cls a0 h ∧ (∀ b o, H0.get? b = some o → B.get? b = some o) ∧
    (∀ a x, H a = some x → ∃ o, B.get? a = some o ∧ x.Is P o) ∧ RC P H0 fs H n h
section
variable {P : Params} {H0 h h' : Heap} {fs : List (Nat × Map)} {H H' : PH} {n n' : Nat} {A : Around} {e : Addr} {cls : Value}
theorem Fly.weak (F : Fly P H0 fs H n A e cls h) (l : H'.le H) : Fly P H0 fs H' n A e cls h :=
  let ⟨B, a0, ll, h1, h2, h3, h4, h5, R⟩ := F; ⟨B, a0, ll, h1, h2, h3, h4, fun a x q => h5 a x (l a x q), R.weak l⟩
theorem RC.slots {B : Heap} (R : RC P H0 fs H n h) (h4 : ∀ b o, H0.get? b = some o → h'.get? b = some o) (h5 : ∀ a x, H a = some x → ∃ o, h'.get? a = some o ∧ x.Is P o)
    (hs : n ≤ h'.objs.size) (hu : h.UpToSlots h') : RC P H0 fs H n h' where
  ext := h4
  sz := hs
  at_ := fun a x e => let ⟨_, r⟩ := R.at_ a x e; ⟨h5 a x e, r⟩
  fr := fun p hp => let ⟨a, b⟩ := R.fr p hp; ⟨hu.ns a, b⟩
  nd := R.nd
end
section
variable {P : Params} {H0 h : Heap} {fs : List (Nat × Map)} {H : PH} {n : Nat} {A : Around} {e : Addr} {cls : Value} {L : Nat} {m : Map} {s' : Shared} {name : Str} {scope : Scope} {a : Addr} {cd : Value} {E : Value → Shared → Prop} {M : Model}
theorem funFrames_RC (R : RC P H0 fs H n h) : ∀ {l : List Env} {gs : List (Nat × Map)}, (∀ p ∈ gs, p ∈ fs) → l.map (·.frame) = gs.map (fun p => some p.1) → (∀ env ∈ l, env.scope.kind ≠ .module) → ∀ {as : List Addr}, (∀ p ∈ gs, p.1 ∈ as) → h.FunFrames (hideAll h as) l
  | [], _, _, _, _, _, _ => trivial
  | env :: l, [], _, h2, _, _, _ => by cases h2
  | env :: l, p :: gs, h1, h2, h3, as, h4 => by
    rw [List.map_cons, List.map_cons] at h2
    injection h2 with h2 h2'
    obtain ⟨⟨o, es, ep, ho, hd, _⟩, _⟩ := R.fr p (h1 _ (.head _))
    exact ⟨h3 _ (.head _), ⟨p.1, o, h2, hideAll_none _ (h4 _ (.head _)), ho, fun vs q => by rw [hd] at q; cases q⟩, funFrames_RC R (fun q hq => h1 q (.tail _ hq)) h2' (fun env he => h3 env (.tail _ he)) (fun q hq => h4 q (.tail _ hq))⟩
theorem leave_new {vs : List Value} {Q : Unit → Shared → Prop} (R : RC P H0 ((L, m) :: fs) H n h) (F : FrOk A fs) (hx : Heap.MadeExcOf h s'.heap e cls vs) (hs : h.objs.size ≤ s'.heap.objs.size)
    (k : ∀ h', Fly P H0 fs H n A e cls h' → Q () { s' with heap := h' }) (hk : scope.kind = .function := by rfl) :
    wpAny M (A.deeper (envOf name scope L a cd)) (leaving (envOf name scope L a cd) (.ref e)) Q E s' := by
  obtain ⟨l, h1, h2, h3⟩ := F
  have F' : FrOk (A.deeper (envOf name scope L a cd)) ((L, m) :: fs) := FrOk.deep ⟨l, h1, h2, h3⟩ hk
  have h2' : (envOf name scope L a cd :: l).map (·.frame) = ((L, m) :: fs).map (fun p => some p.1) := by rw [List.map_cons, List.map_cons, h2]; rfl
  have h3' : ∀ env ∈ (envOf name scope L a cd :: l), env.scope.kind ≠ .module := by
    intro env he
    rcases List.mem_cons.mp he with rfl | he
    · show scope.kind ≠ _; rw [hk]; decide
    · exact h3 _ he
  refine with_size (wpAny_leaves_madeW (base := hideAll h (((L, m) :: fs).map Prod.fst)) (Around.frames_deeper h1) rfl (fun b o q => of_hideAll _ q) (funFrames_RC R (fun p hp => hp) h2' h3' (fun p hp => List.mem_map.mpr ⟨p, hp, rfl⟩)) hx fun h' t x1 x2 x3 x4 hsz => k h' ?_)
  have y4 : ∀ b o, H0.get? b = some o → (hideAll h (((L, m) :: fs).map Prod.fst)).get? b = some o := fun b o q => by
    refine hideAll_get _ (R.ext b o q) (fun hm => ?_)
    obtain ⟨p, hp, rfl⟩ := List.mem_map.mp hm
    have := (R.fr p hp).2.1
    have := ltsz q
    walk_at "om"
  have y5 : ∀ a x, H a = some x → ∃ o, (hideAll h (((L, m) :: fs).map Prod.fst)).get? a = some o ∧ x.Is P o := fun b x q => by
    obtain ⟨⟨o, ho, hi⟩, _, _, hf⟩ := R.at_ b x q
    refine ⟨o, hideAll_get _ ho (fun hm => ?_), hi⟩
    obtain ⟨p, hp, rfl⟩ := List.mem_map.mp hm
    exact hf p hp rfl
  refine ⟨_, _, l, h1, h2, x1, y4, y5, ?_⟩
  refine RC.slots (B := h') R.pop (fun b o q => x1.1 b o (y4 b o q)) (fun b x q => let ⟨o, ho, hi⟩ := y5 b x q; ⟨o, x1.1 _ _ ho, hi⟩) ?_ ((Heap.UpToSlots.of_keeps hx.keeps).trans x4)
  have : s'.heap.objs.size ≤ h'.objs.size := hsz
  have := R.sz
  walk_at "om"
theorem leave_on {Q : Unit → Shared → Prop} (F : Fly P H0 ((L, m) :: fs) H n (A.deeper (envOf name scope L a cd)) e cls s'.heap) (G : FrOk A fs)
    (k : ∀ h', Fly P H0 fs H n A e cls h' → Q () { s' with heap := h' }) :
    wpAny M (A.deeper (envOf name scope L a cd)) (leaving (envOf name scope L a cd) (.ref e)) Q E s' := by
  obtain ⟨l, h1, h2, h3⟩ := G
  obtain ⟨B, a0, l', g1, g2, hf, y4, y5, R⟩ := F
  have : l' = envOf name scope L a cd :: l := by rw [Around.frames_deeper h1] at g1; exact (Option.some.inj g1).symm
  subst this
  refine with_size (wpAny_leaves_onW g1 rfl hf fun h' x1 x2 hsz => k h' ⟨B, a0, l, h1, h2, x1, y4, y5, ?_⟩)
  refine RC.slots (B := h') R.pop (fun b o q => x1.1 b o (y4 b o q)) (fun b x q => let ⟨o, ho, hi⟩ := y5 b x q; ⟨o, x1.1 _ _ ho, hi⟩) ?_ x2
  have : s'.heap.objs.size ≤ h'.objs.size := hsz
  have := R.sz
  walk_at "om"
end
section
variable {prog : Program} {w : World} {A : Around} {K : Frag} {H0 h : Heap} {fs : List (Nat × Map)} {H : PH} {n : Nat} {L : Nat} {m : Map} {g : Array GenState} {d : Drawn} {tk : Nat} {os : OsState}
  {E : Value → Shared → Prop} {P : Params}
theorem r_raise {cn : Str} {cs : Scope} {f : Addr} {cdv : Value} {x : Str} {C : Nat} {np cpos pos : Pos} {e₀ : Expr} {Q : Flow → Shared → Prop}
    (R : RC P H0 ((L, m) :: fs) H n h) (G : Gd K H0) (hh : A.handled = none) (ex : nsIn K mainGlobals x = some (some (.ref C))) (q : excIn K C [.type "ValueError", .type "Exception", .type "BaseException", .type "object"] "ValueError.__new__" = true)
    (hv : ∀ (Q' : Value → Shared → Prop) (E' : Value → Shared → Prop), (∀ v tk', Q' v ⟨h, g, d, tk', os⟩) → wpAny (model prog w) A (eval e₀ (envOf cn cs L f cdv)) Q' E' ⟨h, g, d, tk, os⟩)
    (k : ∀ h' e vs tk', Heap.MadeExcOf h h' e (.ref C) vs → h.objs.size ≤ h'.objs.size → E (.ref e) ⟨h', g, d, tk', os⟩)
    (he : starEach [e₀] (envOf cn cs L f cdv) = [(false, eval e₀ (envOf cn cs L f cdv))] := by rfl)
    (hk : cs.kind = .function := by rfl) (hx : (envOf cn cs L f cdv).kindOf x = some .globalImplicit := by rfl) (hd : (x == ("__debug__" : Str)) = false := by decide) :
    wpAny (model prog w) A (exec (.Raise (some (.Call (.Name x np) [e₀] [] cpos)) none pos) (envOf cn cs L f cdv)) Q E ⟨h, g, d, tk, os⟩ := by
  obtain ⟨p, loose, mg, mb, T⟩ := G.T
  refine with_size (wpAny_mono (Raise_own (Q := Q) (s := ⟨h, g, d, tk, os⟩) (E := fun e s' => ∀ z : h.objs.size ≤ s'.heap.objs.size, E e s') R.Fr T.g (own_of_in G.X T ex q) PySem.F.excBase_ValueError hh ?_ he rfl hk hx hd) (fun _ _ q _ => q) (fun e s' q => q))
  rw [he]
  refine Calls.spliced_cons (hv _ _ fun v tk' => ?_)
  refine spliced_none (env := envOf cn cs L f cdv) ⟨by show 1 ≤ sizeLine; rw [PySem.sizeLine_eq]; decide, R.ext, fun h' e hm hz => k _ _ _ _ hm hz⟩
theorem r_defE {Q : Value → Shared → Prop} {name qual : Str} {params : Arguments} {body : List Stmt} {scope : Scope} {dV kV doc pm cdv ct oc : Value} {an od : Option Addr} {osl : Array (Option Value)} {f : Addr} {pos : List Value} {kw : List (Str × Value)} {binds : List (Str × Value)}
    (R : RC P H0 fs H n h) (G : Gd K H0) (hz : H0.objs.size ≤ n) (hroom : A.depth < recursionLimit)
    (ho : K.lookup f = some ⟨oc, od, .func (fnOf name qual params body scope dV kV doc pm an cdv ct), osl⟩) (hcd : codeIn K cdv qual = true)
    (hbind : BindsTo ⟨h, g, d, tk, os⟩ (fnOf name qual params body scope dV kV doc pm an cdv ct) ⟨pos, kw⟩ binds) (hloc : (binds.all fun x => decide (scope.names.lookup x.1 = some .local)) = true)
    (k : ∀ (L' : Nat) h₁ tk₁, n ≤ L' → RC P H0 ((L', fun y => binds.reverse.lookup y) :: fs) H (L' + 1) h₁ →
      wpAny (model prog w) (A.deeper (envOf qual scope L' f cdv)) (execs body (envOf qual scope L' f cdv))
        (fun fl s' => Q (match fl with | .ret v => v | _ => .none) s')
        (fun e s' => wpAny (model prog w) (A.deeper (envOf qual scope L' f cdv)) (leaving (envOf qual scope L' f cdv) e) (fun _ s'' => E e s'') (fun e' s'' => E e' s'') s') ⟨h₁, g, d, tk₁, os⟩)
    (hco : scope.isCoroutine = false := by rfl) (hgen : scope.isGenerator = false := by rfl) (hk : scope.kind = .function := by rfl)
    (hcell : ∀ x ∈ scope.names, x.2 ≠ .cell := by decide) : wpAny (model prog w) A (call (.ref f) pos kw) Q E ⟨h, g, d, tk, os⟩ :=
  wpAny_call (r_enter R G hz hroom ho hcd hbind hloc (fun L' h₁ tk₁ hl R' => wpAny_mono (k L' h₁ tk₁ hl R') (fun fl s' q => q) fun _ _ x => x) hco hgen hk hcell)
theorem P_defE {Q : Value → Shared → Prop} {name qual : Str} {params : Arguments} {body : List Stmt} {scope : Scope} {dV kV doc pm cdv ct oc : Value} {an od : Option Addr} {osl : Array (Option Value)} {f : Addr} {pos : List Value} {kw : List (Str × Value)} {binds : List (Str × Value)}
    (R : RC P H0 fs H n h) (G : Gd K H0) (hz : H0.objs.size ≤ n) (hroom : A.depth < recursionLimit)
    (ho : K.lookup f = some ⟨oc, od, .func (fnOf name qual params body scope dV kV doc pm an cdv ct), osl⟩) (hcd : codeIn K cdv qual = true)
    (hbind : BindsTo ⟨h, g, d, tk, os⟩ (fnOf name qual params body scope dV kV doc pm an cdv ct) ⟨pos, kw⟩ binds) (hloc : (binds.all fun x => decide (scope.names.lookup x.1 = some .local)) = true)
    (k : ∀ (L' : Nat) h₁ tk₁, n ≤ L' → RC P H0 ((L', fun y => binds.reverse.lookup y) :: fs) H (L' + 1) h₁ →
      wpP (model prog w) (A.deeper (envOf qual scope L' f cdv)) (execs body (envOf qual scope L' f cdv))
        (fun fl s' => Q (match fl with | .ret v => v | _ => .none) s')
        (fun e s' => wpAny (model prog w) (A.deeper (envOf qual scope L' f cdv)) (leaving (envOf qual scope L' f cdv) e) (fun _ s'' => E e s'') (fun e' s'' => E e' s'') s') ⟨h₁, g, d, tk₁, os⟩)
    (hco : scope.isCoroutine = false := by rfl) (hgen : scope.isGenerator = false := by rfl) (hk : scope.kind = .function := by rfl)
    (hcell : ∀ x ∈ scope.names, x.2 ≠ .cell := by decide) : wpP (model prog w) A (call (.ref f) pos kw) Q E ⟨h, g, d, tk, os⟩ :=
  P_call (P_enter R G hz hroom ho hcd hbind hloc (fun L' h₁ tk₁ hl R' => P_mono (k L' h₁ tk₁ hl R') (fun fl s' q => q) fun _ _ x => x) hco hgen hk hcell)
theorem caught {cn : Str} {cs : Scope} {f : Addr} {cdv : Value} {x : Str} {C e : Nat} {np pos : Pos} {b₀ : Stmt} {suite : List Stmt} {rest : List ExceptHandler} {Q : Flow → Shared → Prop}
    (F : Fly P H0 ((L, m) :: fs) H n (A.deeper (envOf cn cs L f cdv)) e (.ref C) h) (G : Gd K H0) (ex : nsIn K mainGlobals x = some (some (.ref C))) (q : ktsIn K C "BaseException" = true)
    (k : ∀ h', RC P H0 ((L, m) :: fs) H n h' → wpAny (model prog w) ((A.deeper (envOf cn cs L f cdv)).mark (some (.ref e))) (execs (b₀ :: suite) (envOf cn cs L f cdv)) Q (fun _ _ => False) ⟨h', g, d, tk, os⟩)
    (hk : cs.kind = .function := by rfl) (hx : (envOf cn cs L f cdv).kindOf x = some .globalImplicit := by rfl) (hd : (x == ("__debug__" : Str)) = false := by decide) :
    wpAny (model prog w) (A.deeper (envOf cn cs L f cdv)) (noteFrame (.ref e) (envOf cn cs L f cdv))
      (fun _ s₂ => wpAny (model prog w) (A.deeper (envOf cn cs L f cdv)) (setFlight (.ref e) none) (fun _ s₃ =>
        wpAny (model prog w) (A.deeper (envOf cn cs L f cdv)) (handleBy (.ref e) (envOf cn cs L f cdv) (.ExceptHandler (some (.Name x np)) none (b₀ :: suite) pos :: rest)) Q E s₃) E s₂) E ⟨h, g, d, tk, os⟩ := by
  obtain ⟨B, a0, l, g1, g2, hf, y4, y5, R⟩ := F
  obtain ⟨env₀, l, rfl, e1, e2⟩ : ∃ env₀ l', l = env₀ :: l' ∧ env₀ = envOf cn cs L f cdv ∧ True := by
    cases l with
    | nil => cases g2
    | cons env l =>
      refine ⟨env, l, rfl, ?_, trivial⟩
      cases hA : A.frames with
      | none => rw [show (A.deeper (envOf cn cs L f cdv)).frames = A.frames.map (envOf cn cs L f cdv :: ·) from rfl, hA] at g1; cases g1
      | some l0 => rw [show (A.deeper (envOf cn cs L f cdv)).frames = A.frames.map (envOf cn cs L f cdv :: ·) from rfl, hA] at g1; injection g1 with g1; injection g1 with g1; exact g1.symm
  subst e1
  refine with_size (wpAny_looks_onW (s := ⟨h, g, d, tk, os⟩) g1 rfl hf fun h₄ hheld₄ hsm₄ hz4 => ?_)
  refine with_size (wpAny_landsW (s := ⟨h₄, g, d, tk, os⟩) hheld₄ fun h₅ hheld hsm₅' hz5 => ?_)
  have hz4 : h.objs.size ≤ h₄.objs.size := hz4
  have hz5 : h₄.objs.size ≤ h₅.objs.size := hz5
  have R5 : RC P H0 ((L, m) :: fs) H n h₅ := RC.slots (B := h₅) R (fun b o q => hheld.1 b o (y4 b o q)) (fun b x q => let ⟨o, ho, hi⟩ := y5 b x q; ⟨o, hheld.1 _ _ ho, hi⟩) (by have := R.sz; walk_at "om") (hsm₄.trans hsm₅')
  obtain ⟨ob, hob, hobc⟩ := hheld.there
  obtain ⟨p, loose, mg, mb, T⟩ := G.T
  obtain ⟨nm, q', N, bs, bm, hdct, sn, sub, ab, col, dd, k0, k1, k2, k3, k5, newId, hC, hbase, hbT⟩ := kts_cls G.X q
  have hC₅ := R5.Fr.keep _ _ hC
  refine wpAny_handleBy_cons (codeAny_handlers_test (name_K (s := ⟨h₅, g, d, tk, os⟩) R5.Fr G.X T ex ?_ hk hx hd)) (by intro q; cases q)
  refine wpAny_excMatches_sub_self hC₅ hob hobc hbase (codeAny_handlers_suite ?_)
  refine with_size (lands_againW (s := ⟨h₅, g, d, tk, os⟩) hheld fun h₆ hfl₆ hsm₆ hz6 => ?_)
  have hz6 : h₅.objs.size ≤ h₆.objs.size := hz6
  have R6 : RC P H0 ((L, m) :: fs) H n h₆ := RC.slots (B := h₆) R5 (fun b o q => hfl₆.1 b o (y4 b o q)) (fun b x q => let ⟨o, ho, hi⟩ := y5 b x q; ⟨o, hfl₆.1 _ _ ho, hi⟩) (by have := R5.sz; walk_at "om") hsm₆
  exact wpAny_noRaise (k h₆ R6)
end
noncomputable def StC (H : PH) (st cl : Nat) (b : Int) : Prop :=
  ∃ (at_ : Int) (t : Tok) (vs : List Value) (cells : List Int), H st = some (.lst [.int at_ t, .ref cl]) ∧ H cl = some (.lst vs) ∧ IntsAre vs cells ∧ cl ≠ st ∧ 0 < cells.length ∧ cells.length < 2 ^ 20 ∧ 0 ≤ at_ ∧ at_ ≤ b
theorem StC.el {X : Prop} {H : PH} {st cl : Nat} {b : Int} (h : StC H st cl b) (k : ∀ (at_ : Int) (t : Tok) (vs : List Value) (cells : List Int), H st = some (.lst [.int at_ t, .ref cl]) → H cl = some (.lst vs) → IntsAre vs cells → cl ≠ st → 0 < cells.length → cells.length < 2 ^ 20 → 0 ≤ at_ → at_ ≤ b → X) : X :=
  let ⟨_, _, _, _, h1, h2, h3, h4, h5, h6, h7, h8⟩ := h; k _ _ _ _ h1 h2 h3 h4 h5 h6 h7 h8
theorem StC.ex1 {H : PH} {st cl : Nat} {b : Int} (h : StC H st cl b) : ∃ v, H st = some (.lst v) := let ⟨_, _, _, _, h1, _⟩ := h; ⟨_, h1⟩
theorem StC.mono {H : PH} {st cl : Nat} {b b' : Int} (s : StC H st cl b) (h : b ≤ b') : StC H st cl b' := by
  obtain ⟨at_, t0, vs, cells, hs, hc, hi, hne, hl0, hl, h0, h1⟩ := s
  exact ⟨at_, t0, vs, cells, hs, hc, hi, hne, hl0, hl, h0, by walk_at "om"⟩
theorem StC.le {H H' : PH} {st cl : Nat} {b : Int} (h : StC H st cl b) (l : H.le H') : StC H' st cl b := by
  obtain ⟨at_, t0, vs, cells, hs, hc, r⟩ := h
  exact ⟨at_, t0, vs, cells, l _ _ hs, l _ _ hc, r⟩
theorem StC.set {H : PH} {st cl a : Nat} {b : Int} {x : AO} (h : StC H st cl b) (h1 : a ≠ st) (h2 : a ≠ cl) : StC (H.set a x) st cl b := by
  obtain ⟨at_, t0, vs, cells, hs, hc, r⟩ := h
  exact ⟨at_, t0, vs, cells, PH.set_at (Ne.symm h1) hs, PH.set_at (Ne.symm h2) hc, r⟩
noncomputable def NE (a b : Nat) : Prop := a ≠ b
theorem NE.ne {a b : Nat} (h : NE a b) : a ≠ b := h
theorem NE.en {a b : Nat} (h : NE a b) : b ≠ a := Ne.symm h
noncomputable def Bnd (H : PH) (n : Nat) : Prop := ∀ a, n ≤ a → H a = none
theorem Bnd.nn {H : PH} {n a : Nat} (b : Bnd H n) (h : n ≤ a) : H a = none := b a h
theorem Bnd.lt {H : PH} {n a : Nat} {x : AO} (b : Bnd H n) (e : H a = some x) : a < n := Nat.lt_of_not_le fun q => by rw [b a q] at e; cases e
theorem RC.bnd {P : Params} {H0 h : Heap} {fs : List (Nat × Map)} {H : PH} {n : Nat} (R : RC P H0 fs H n h) : Bnd H n := fun _ => R.none_new
section
variable {prog : Program} {w : World} {A : Around} {K : Frag} {H0 h : Heap} {fs : List (Nat × Map)} {H : PH} {n : Nat} {L : Nat} {m : Map} {g : Array GenState} {d : Drawn} {tk : Nat} {os : OsState}
  {E : Value → Shared → Prop} {P : Params}
theorem range_turns2P {x : Str} {px : Pos} {body : List Stmt} {cn : Str} {cs : Scope} {f : Addr} {cdv : Value} {it N : Nat} {Q : Flow → Shared → Prop} (hh : A.handled = none)
    (R : RC P H0 ((L, m) :: fs) H n h) (e : H it = some (.rng 0 N)) (Inv : Nat → PH → Map → Prop) (i0 : Inv 0 H m)
    (turn : ∀ i H' m' n' h' tk' tk'', i < N → Inv i H' m' → n ≤ n' → H' it = some (.rng (i + 1 : Nat) (N - (i + 1 : Nat))) → RC P H0 ((L, upd m' x (.int (i : Nat) tk'')) :: fs) H' n' h' →
      wpP (model prog w) A (execs body (envOf cn cs L f cdv)) (Turn P H0 fs L it N n g d os Inv Q i) (fun _ _ => False) ⟨h', g, d, tk', os⟩)
    (fin : ∀ H' m' n' h' tk', Inv N H' m' → n ≤ n' → RC P H0 ((L, m') :: fs) H' n' h' → Q .next ⟨h', g, d, tk', os⟩)
    (hinv : ∀ i H' H'' m', Only [it] H' H'' → (∃ o, H' it = some (.raw o)) → Inv i H' m' → Inv i H'' m')
    (hk : cs.kind = .function) (hl : (envOf cn cs L f cdv).kindOf x = some .local) :
    codeP (model prog w) A (.forLoop (.Name x px) (.ref it) body [] (envOf cn cs L f cdv)) (fun r s' => match r with | .ok f => Q f s' | .error e => False) ⟨h, g, d, tk, os⟩ := by
  refine codeP_forLoop (fun k s => ∃ i H' m' n' h' tk', k + i = N + 1 ∧ i ≤ N ∧ s = ⟨h', g, d, tk', os⟩ ∧ n ≤ n' ∧ H' it = some (.rng (i : Nat) (N - (i : Nat))) ∧ Inv i H' m' ∧ RC P H0 ((L, m') :: fs) H' n' h') ?_ (N + 1)
    ⟨0, H, m, n, h, tk, rfl, Nat.zero_le _, rfl, Nat.le_refl _, by rw [e]; simp, i0, R⟩
  rintro k s ⟨i, H', m', n', h', tk', hki, hi, rfl, hn, hit, hI, R'⟩
  obtain ⟨o, ho, rfl⟩ := R'.obj hit
  by_cases hlt : i < N
  · refine P_any (with_size (wpAny_pyNext_range_item (s := ⟨h', g, d, tk', os⟩) (x := (i : Nat)) (left := (N : Int) - (i : Nat)) (step := 1) ho (by walk_at "om") fun h1 ho1 hs1 hsz => ?_))
    have R1 : RC P H0 ((L, m') :: fs) (H'.set it (.rng (i + 1 : Nat) (N - (i + 1 : Nat)))) n' h1 := by
      refine R'.put hit ho1 ?_ (fun b o hb e => (hs1.2 b hb).trans e) hsz
      show rngObj _ _ = rngObj _ _
      congr 1; walk_at "om"
    refine P_any (wpAny_assign_Name (r_store R1 (fun h2 tk2 R2 => ?_) hk hl))
    refine P_mono (turn i _ m' n' h2 _ _ hlt (hinv i H' _ m' (Only.set _ (Only.refl _ _) (List.mem_singleton.mpr rfl)) ⟨_, hit⟩ hI) hn (PH.set_self _ _ _) R2) (fun f s3 q => ?_) fun _ _ x => x.elim
    cases f with
    | next =>
      obtain ⟨H3, m3, n3, h3, tk3, rfl, hn3, hit3, hI3, R3⟩ := q
      exact ⟨k - 1, by omega, i + 1, H3, m3, n3, h3, tk3, by omega, hlt, rfl, hn3, hit3, hI3, R3⟩
    | cont =>
      obtain ⟨H3, m3, n3, h3, tk3, rfl, hn3, hit3, hI3, R3⟩ := q
      exact ⟨k - 1, by omega, i + 1, H3, m3, n3, h3, tk3, by omega, hlt, rfl, hn3, hit3, hI3, R3⟩
    | brk => exact q
    | ret v => exact q
  · have : i = N := by walk_at "om"
    subst this
    refine P_any (with_size (wpAny_pyNext_range_end (s := ⟨h', g, d, tk', os⟩) (x := (i : Nat)) (left := (i : Int) - (i : Nat)) (step := 1) hh ho (by walk_at "om") fun h1 hs1 hsz => ?_))
    refine P_any (wpAny_execs_nil ?_)
    exact fin (H'.del it) m' n' h1 _ (hinv i H' _ m' (PH.del_only _ _) ⟨_, hit⟩ hI) hn (R'.del hit hs1 hsz)
end
section
variable {prog : Program} {w : World} {A : Around} {K : Frag} {H0 h : Heap} {fs : List (Nat × Map)} {H : PH} {n : Nat} {L : Nat} {m : Map} {g : Array GenState} {d : Drawn} {tk : Nat} {os : OsState}
  {E : Value → Shared → Prop} {P : Params}
noncomputable def DDone (prog : Program) (w : World) {K : Type} [DecidableEq K] (knd : KeyKind prog w K) (a : Nat) (Q : Value → Shared → Prop) (vs : List (Value × Value)) (s₁ : Shared) : Prop :=
  ∃ kvs, Carries knd vs kvs ∧ s₁.heap.DictOf knd a [] ∧ ∀ h', h'.DictOf knd a (merged [] kvs) → Heap.SameBut a s₁.heap h' → Q (.ref a) { s₁ with heap := h', toks := s₁.toks + vs.length }
theorem r_dict {env : Env} {keys : List (Option Expr)} {values : List Expr} {pos : Pos} {Q : Value → Shared → Prop} (R : RC P H0 fs H n h) (hz : H0.objs.size ≤ n)
    (k : ∀ (a : Nat) h1, n ≤ a → RC P H0 fs (H.set a (SD prog w [])) (a + 1) h1 → wpAny (model prog w) A (evalPairs (pairTrees keys values env pos)) (fun vs s₁ => DDone prog w (PySem.strKind prog w) a Q vs s₁) E ⟨h1, g, d, tk, os⟩)
    (hall : keys.all (·.isSome) = true := by rfl) (hl : keys.length = values.length := by rfl) (h0 : keys ≠ [] := by simp) (hlen : keys.length ≤ 15 := by decide) :
    wpAny (model prog w) A (eval (.Dict keys values pos) env) Q E ⟨h, g, d, tk, os⟩ := by
  obtain ⟨o, ho, hd⟩ := Heap.dictOf_iff.mp (Heap.DictOf.new (knd := PySem.strKind prog w) h)
  have e : o = { cls := .type "dict", data := .dict #[] } := by
    rw [Heap.get?_push_size _ rfl] at ho; exact (Option.some.inj ho).symm
  subst e
  exact wpAny_Dict_walk (knd := PySem.strKind prog w) (s := ⟨h, g, d, tk, os⟩) hall hl h0 hlen (k _ _ R.sz (R.push (x := SD prog w []) hd rfl (Nat.le_trans hz R.sz)))
theorem r_dict_done {Q : Value → Shared → Prop} {a : Nat} {vs : List (Value × Value)} (R : RC P H0 fs H n h) (e : H a = some (SD prog w [])) (hk : allStrKeys vs = true) (hn : ((strPairs vs).map (·.1)).Nodup)
    (k : ∀ h' tk', RC P H0 fs (H.set a (SD prog w (strPairs vs))) n h' → Q (.ref a) ⟨h', g, d, tk', os⟩) : DDone prog w (PySem.strKind prog w) a Q vs ⟨h, g, d, tk, os⟩ := by
  refine display_done_str hk hn (R.sd e) fun h' hm hs => k h' _ ?_
  obtain ⟨o, ho, hd⟩ := Heap.dictOf_iff.mp hm
  exact R.put e ho hd (fun b o hb q => (hs.2 b hb).trans q) (Nat.le_of_eq hs.1.symm)
theorem r_unpackItems {t : Addr} {vs : List Value} {j : Nat} {Q : List Value → Shared → Prop} (R : RC P H0 fs H n h) (hh : A.handled = none) (e : IsTup h t vs.toArray) (hj : j = vs.length)
    (q : ∀ h', RC P H0 fs H n h' → Q vs ⟨h', g, d, tk, os⟩) : wpAny (model prog w) A (unpackItems (.ref t) j none) Q E ⟨h, g, d, tk, os⟩ := by
  subst hj
  refine with_size (wpAny_mono (unpackItems_tuple (s := ⟨h, g, d, tk, os⟩) (items := vs.toArray) hh e (Q := fun items s' => items = vs ∧ ∃ h', s' = ⟨h', g, d, tk, os⟩ ∧ Heap.ExtBut h.objs.size h h') fun h' hk => ⟨by simp, h', rfl, hk⟩) (fun items s' x hs => ?_) fun _ _ x _ => x)
  obtain ⟨rfl, h', rfl, hk⟩ := x
  exact q h' (R.kept (fun b o e => hk b o (Nat.ne_of_lt (ltsz e)) e) hs)
theorem r_bindName {M : Model} {s : Shared} {env : Env} {x : Str} {v : Value} {Q : Unit → Shared → Prop} (q : wpAny M A (storeName env x v) Q E s) : wpAny M A (bindName env x v) Q E s := fun Γ p hΓ => by
  rw [Sem.wp_bindName]; exact q Γ p hΓ
theorem P_isTrue_not {M : Model} {s : Shared} {env : Env} {x : Expr} {pos : Pos} {whole : Sem Value} {Q : Bool → Shared → Prop} (q : wpP M A (isTrue x env (eval x env)) (fun b s' => Q (!b) s') E s) : wpP M A (isTrue (.UnaryOp .Not x pos) env whole) Q E s := by
  rw [arm_isTrue_UnaryOp]
  exact P_bind (P_mono q (fun b s' q' => P_pure q') fun _ _ x => x)
theorem P_isTrue_call {M : Model} {s : Shared} {env : Env} {f : Expr} {args : List Expr} {kws : List Keyword} {pos : Pos} {whole : Sem Value} {Q : Bool → Shared → Prop} (q : wpP M A whole (fun v s' => wpAny M A (truthy v) Q E s') E s) : wpP M A (isTrue (.Call f args kws pos) env whole) Q E s := by
  show wpP M A (do
    let v ← whole
    standAt (Expr.Call f args kws pos).pos
    holding [v] (truthy v)) Q E s
  exact P_bind (P_mono q (fun v s' q' => P_standAt (P_any (wpAny_holding q'))) fun _ _ x => x)
theorem RC.start (H0 : Heap) : RC P H0 [] (fun _ => none) H0.objs.size H0 :=
  { ext := fun _ _ e => e, sz := Nat.le_refl _, at_ := fun _ _ e => (nomatch e), fr := fun _ h => (nomatch h), nd := .nil }
end
section
noncomputable def PB : List Stmt := PySem.Challenge.pw_ja0003_01.main.body
noncomputable def sg (l : List Stmt) (n : Nat) : Stmt := (l.drop n).headD (.Pass ⟨0, 0, 0, 0⟩)
noncomputable def fA : Stmt → Arguments
  | .FunctionDef _ a .. => a
  | _ => ⟨[], [], none, [], [], none, []⟩
noncomputable def fB : Stmt → List Stmt
  | .FunctionDef _ _ b .. => b
  | .ClassDef _ _ _ b .. => b
  | _ => []
noncomputable def fC : Stmt → Scope
  | .FunctionDef _ _ _ _ _ _ s .. => s
  | .ClassDef _ _ _ _ _ _ s .. => s
  | _ => ⟨.function, [], false, false, []⟩
abbrev PO := Params → Obj
abbrev PT := Params → BT
noncomputable def zz (l : List Nat) : Str := ⟨⟨l⟩⟩
noncomputable def de (P : Params) (s : Str) (t : Nat) (v : Value) : DictEntry := .mk (PySem.PyData.keyHash P s) (.str s t) v
noncomputable abbrev k0 := @PySem.W.SL.s2766695959194262286x5
noncomputable abbrev k1 := @PySem.W.SL.s5856160107412720595x4
noncomputable abbrev k2 := @PySem.W.SL.s658472552662922059x5
noncomputable abbrev k3 := @PySem.W.SL.s14018661285674007319x4
noncomputable abbrev k4 := @PySem.W.SL.s7097527257260152453x26
noncomputable abbrev k5 := @PySem.W.SL.s7174869446012820540x8
noncomputable abbrev k6 := @PySem.W.SL.s6070975301684473832x10
noncomputable abbrev k7 := @PySem.W.SL.s11030030927630378310x26
noncomputable abbrev k8 := @PySem.W.SL.s10062305145149207511x16
noncomputable abbrev k9 := @PySem.W.SL.s17162191345867700912x4
noncomputable abbrev k10 := @PySem.W.SL.s5946037652744460706x9
noncomputable abbrev k11 := @PySem.W.SL.s4278001404047624695x13
noncomputable abbrev k12 := @PySem.W.SL.s2742458400755230247x6
noncomputable abbrev k13 := @PySem.W.SL.s4209523147560561109x18
noncomputable abbrev k14 := @PySem.W.SL.s14755015743595814543x17
noncomputable abbrev k15 := @PySem.W.SL.s10220274742760427390x26
noncomputable abbrev k16 := @PySem.W.SL.s4290257624100764138x5
noncomputable abbrev k17 := @PySem.W.SL.s4860613602091757760x24
noncomputable abbrev k18 := @PySem.W.SL.s11443829558043349243x14
noncomputable abbrev k19 := @PySem.W.SL.s6511155373996960695x17
noncomputable abbrev k20 := @PySem.W.SL.s12411053484034534018x21
noncomputable abbrev k21 := @PySem.W.SL.s8101838861749082086x8
noncomputable abbrev b0 := @PySem.W.boot_o_0
noncomputable abbrev b1 := @PySem.W.boot_o_1
noncomputable abbrev b2 := @PySem.W.boot_o_2
noncomputable abbrev b3 := @PySem.W.boot_o_3
noncomputable abbrev b4 := @PySem.W.boot_o_4
noncomputable abbrev b5 := @PySem.W.boot_o_5
noncomputable abbrev b6 := @PySem.W.boot_o_6
noncomputable abbrev b7 := @PySem.W.boot_o_7
noncomputable abbrev b8 := @PySem.W.boot_o_8
noncomputable abbrev b9 := @PySem.W.boot_o_9
noncomputable abbrev b10 := @PySem.W.boot_o_10
noncomputable def z0 : Str := zz [95,108,97,119,95,111,99,116,101,116,115]
noncomputable def z1 : Str := zz [108,97,119,95,106,97,48,48,48,51,95,48,49]
noncomputable def z2 : Str := zz [100,101,99,111,100,101,95,112,97,99,107,101,116,95,110,117,109,98,101,114]
noncomputable def z3 : Str := zz [47,99,108,97,105,109,47,99,117,116,46,112,121]
noncomputable def z4 : Str := zz [115,101,116,117,112]
noncomputable def z5 : Str := zz [67,114,121,112,116,111,67,111,110,116,101,120,116,46,115,101,116,117,112]
noncomputable def z6 : Str := zz [110,101,120,116,95,107,101,121,95,112,104,97,115,101]
noncomputable def z7 : Str := zz [95,108,97,119,95,116,97,107,101,110]
noncomputable def z8 : Str := zz [81,117,105,99,80,114,111,116,111,99,111,108,86,101,114,115,105,111,110]
noncomputable def z9 : Str := zz [95,108,97,119,95,109,97,115,107]
noncomputable def z10 : Str := zz [75,101,121,85,110,97,118,97,105,108,97,98,108,101,69,114,114,111,114]
noncomputable def z11 : Str := zz [115,101,116,117,112,95,105,110,105,116,105,97,108]
noncomputable def z12 : Str := zz [67,114,121,112,116,111,80,97,105,114,46,115,101,116,117,112,95,105,110,105,116,105,97,108]
noncomputable def z13 : Str := zz [97,105,111,113,117,105,99,46,113,117,105,99,46,99,114,121,112,116,111]
noncomputable def z14 : Str := zz [95,108,97,119,95,112,114,105,109,105,116,105,118,101,115]
noncomputable def z15 : Str := zz [112,114,105,109,105,116,105,118,101,115]
noncomputable def z16 : Str := zz [97,108,103,111,114,105,116,104,109]
noncomputable def z17 : Str := zz [115,101,99,114,101,116]
noncomputable def z18 : Str := zz [108,97,98,101,108]
noncomputable def z19 : Str := zz [104,97,115,104,95,118,97,108,117,101]
noncomputable def z20 : Str := zz [108,101,110,103,116,104]
noncomputable def z21 : Str := zz [115,105,122,101]
noncomputable def z22 : Str := zz [110,117,109,98,101,114]
noncomputable def z23 : Str := zz [95,95,100,105,99,116,95,95]
noncomputable def z24 : Str := zz [95,95,109,111,100,117,108,101,95,95]
noncomputable def z25 : Str := zz [97,105,111,113,117,105,99,46,95,99,114,121,112,116,111]
noncomputable def z26 : Str := zz [95,95,113,117,97,108,110,97,109,101,95,95]
noncomputable def z27 : Str := zz [67,114,121,112,116,111,69,114,114,111,114]
noncomputable def z28 : Str := zz [95,95,102,105,114,115,116,108,105,110,101,110,111,95,95]
noncomputable def z29 : Str := zz [95,95,115,116,97,116,105,99,95,97,116,116,114,105,98,117,116,101,115,95,95]
noncomputable def z30 : Str := zz [115,101,108,102]
noncomputable def z31 : Str := zz [99,105,112,104,101,114,95,110,97,109,101]
noncomputable def z32 : Str := zz [107,101,121]
noncomputable def z33 : Str := zz [105,118]
noncomputable def z34 : Str := zz [95,95,110,97,109,101,95,95]
noncomputable def z35 : Str := zz [95,95,100,111,99,95,95]
noncomputable def z36 : Str := zz [95,95,112,97,99,107,97,103,101,95,95]
noncomputable def z37 : Str := zz [95,95,108,111,97,100,101,114,95,95]
noncomputable def z38 : Str := zz [95,95,115,112,101,99,95,95]
noncomputable def z39 : Str := zz [95,95,97,110,110,111,116,97,116,105,111,110,115,95,95]
noncomputable def z40 : Str := zz [95,95,98,117,105,108,116,105,110,115,95,95]
noncomputable def z41 : Str := zz [95,95,102,105,108,101,95,95]
noncomputable def z42 : Str := zz [95,95,99,97,99,104,101,100,95,95]
noncomputable def z43 : Str := zz [95,119,97,108,108]
noncomputable def z44 : Str := zz [65,69,65,68,95,78,79,78,67,69,95,76,69,78,71,84,72]
noncomputable def z45 : Str := zz [80,65,67,75,69,84,95,78,85,77,66,69,82,95,76,69,78,71,84,72,95,77,65,88]
noncomputable def z46 : Str := zz [83,65,77,80,76,69,95,76,69,78,71,84,72]
noncomputable def z47 : Str := zz [65,69,65,68]
noncomputable def z48 : Str := zz [72,101,97,100,101,114,80,114,111,116,101,99,116,105,111,110]
noncomputable def z49 : Str := zz [80,65,67,75,69,84,95,76,79,78,71,95,72,69,65,68,69,82]
noncomputable def z50 : Str := zz [105,115,95,108,111,110,103,95,104,101,97,100,101,114]
noncomputable def z51 : Str := zz [67,105,112,104,101,114,83,117,105,116,101]
noncomputable def z52 : Str := zz [99,105,112,104,101,114,95,115,117,105,116,101,95,104,97,115,104]
noncomputable def z53 : Str := zz [104,107,100,102,95,101,120,112,97,110,100,95,108,97,98,101,108]
noncomputable def z54 : Str := zz [67,73,80,72,69,82,95,83,85,73,84,69,83]
noncomputable def z55 : Str := zz [78,111,67,97,108,108,98,97,99,107]
noncomputable def z56 : Str := zz [107,101,121,95,112,104,97,115,101]
noncomputable def z57 : Str := zz [110,97,109,101]
noncomputable def z58 : Str := zz [115,97,109,112,108,101]
noncomputable def z59 : Str := zz [95,95,109,97,105,110,95,95]
noncomputable def z60 : Str := zz [95,108,97,119,95,115,101,97,108]
noncomputable def z61 : Str := zz [115,116,97,116,101]
noncomputable def z62 : Str := zz [109,111,115,116]
noncomputable def z63 : Str := zz [99,101,108,108,115]
noncomputable def z64 : Str := zz [97,116]
noncomputable def z65 : Str := zz [95,108,97,119,95,115,116,97,116,101]
noncomputable def z66 : Str := zz [99,114,121,112,116,111]
noncomputable def z67 : Str := zz [116,114,105,103,103,101,114]
noncomputable def z68 : Str := zz [95,95,119,101,97,107,114,101,102,95,95]
noncomputable def z69 : Str := zz [115,97,108,116]
noncomputable def z70 : Str := zz [107,101,121,95,109,97,116,101,114,105,97,108]
noncomputable def z71 : Str := zz [105,115,95,118,97,108,105,100]
noncomputable def z72 : Str := zz [67,114,121,112,116,111,67,111,110,116,101,120,116,46,105,115,95,118,97,108,105,100]
noncomputable def z73 : Str := zz [115,105,100,101,115]
noncomputable def z74 : Str := zz [109]
noncomputable def z75 : Str := zz [111,110,101]
noncomputable def z76 : Str := zz [114,111,119]
noncomputable def z77 : Str := zz [112,97,99,107,101,116]
noncomputable def z78 : Str := zz [112,108,97,99,101]
noncomputable def z79 : Str := zz [99,111,117,110,116]
noncomputable def z80 : Str := zz [105,115,95,108,111,110,103]
noncomputable def z81 : Str := zz [104,101,97,100,101,114]
noncomputable def z82 : Str := zz [116,101,120,116]
noncomputable def z83 : Str := zz [115,112,111,105,108,116]
noncomputable def z84 : Str := zz [109,105,110,101]
noncomputable def z85 : Str := zz [110,97,109,101,100]
noncomputable def z86 : Str := zz [114,101,102,117,115,101,100]
noncomputable def z87 : Str := zz [116,111,108,100]
noncomputable def z88 : Str := zz [100,97,116,97]
noncomputable def z89 : Str := zz [97,115,115,111,99,105,97,116,101,100,95,100,97,116,97]
noncomputable def z90 : Str := zz [112,97,99,107,101,116,95,110,117,109,98,101,114]
noncomputable def z91 : Str := zz [95,108,97,119,95,111,112,101,110,101,100]
noncomputable def z92 : Str := zz [95,108,97,119,95,101,120,116,114,97,99,116]
noncomputable def z93 : Str := zz [67,114,121,112,116,111,80,97,105,114]
noncomputable def z94 : Str := zz [95,108,97,119,95,115,101,97,108,101,100]
noncomputable def z95 : Str := zz [116,101,97,114,100,111,119,110]
noncomputable def z96 : Str := zz [67,114,121,112,116,111,67,111,110,116,101,120,116,46,116,101,97,114,100,111,119,110]
noncomputable def z97 : Str := zz [100,101,99,114,121,112,116,95,112,97,99,107,101,116]
noncomputable def z98 : Str := zz [67,114,121,112,116,111,80,97,105,114,46,100,101,99,114,121,112,116,95,112,97,99,107,101,116]
noncomputable def z99 : Str := zz [97,105,111,113,117,105,99,46,113,117,105,99,46,112,97,99,107,101,116]
noncomputable def z100 : Str := zz [115,101,116,117,112,95,99,98]
noncomputable def z101 : Str := zz [116,101,97,114,100,111,119,110,95,99,98]
noncomputable def z102 : Str := zz [112,108,97,105,110,95,104,101,97,100,101,114]
noncomputable def z103 : Str := zz [112,114,111,116,101,99,116,101,100,95,112,97,121,108,111,97,100]
noncomputable def z104 : Str := zz [112,110,95,108,101,110,103,116,104]
noncomputable def z105 : Str := zz [112,110,95,111,102,102,115,101,116]
noncomputable def z106 : Str := zz [115,97,109,112,108,101,95,111,102,102,115,101,116]
noncomputable def z107 : Str := zz [109,97,115,107]
noncomputable def z108 : Str := zz [98,117,102,102,101,114]
noncomputable def z109 : Str := zz [105]
noncomputable def z110 : Str := zz [95,108,97,119,95,112,104,97,115,101,115]
noncomputable def z111 : Str := zz [67,114,121,112,116,111,67,111,110,116,101,120,116,46,100,101,99,114,121,112,116,95,112,97,99,107,101,116]
noncomputable def z112 : Str := zz [101,110,99,114,121,112,116,95,112,97,99,107,101,116]
noncomputable def z113 : Str := zz [67,114,121,112,116,111,67,111,110,116,101,120,116,46,101,110,99,114,121,112,116,95,112,97,99,107,101,116]
noncomputable def z114 : Str := zz [100,101,114,105,118,101,95,107,101,121,95,105,118,95,104,112]
noncomputable def z115 : Str := zz [95,109,97,115,107]
noncomputable def z116 : Str := zz [72,101,97,100,101,114,80,114,111,116,101,99,116,105,111,110,46,95,109,97,115,107]
noncomputable def z117 : Str := zz [119,111,114,100]
noncomputable def z118 : Str := zz [102,105,114,115,116]
noncomputable def z119 : Str := zz [115,101,99,111,110,100]
noncomputable def z120 : Str := zz [116,104,105,114,100]
noncomputable def z121 : Str := zz [67,114,121,112,116,111,80,97,105,114,46,107,101,121,95,112,104,97,115,101]
noncomputable def z122 : Str := zz [95,108,97,119,95,115,105,100,101,115]
noncomputable def z123 : Str := zz [67,114,121,112,116,111,67,111,110,116,101,120,116]
noncomputable def z124 : Str := zz [97,112,112,108,121,95,107,101,121,95,112,104,97,115,101]
noncomputable def z125 : Str := zz [95,108,97,119,95,116,97,107,101]
noncomputable def z126 : Str := zz [95,108,97,119,95,101,120,112,97,110,100]
noncomputable def z127 : Str := zz [108,97,119]
noncomputable def z128 : Str := zz [95,95,105,110,105,116,95,95]
noncomputable def z129 : Str := zz [67,114,121,112,116,111,67,111,110,116,101,120,116,46,95,95,105,110,105,116,95,95]
noncomputable def z130 : Str := zz [117,112,100,97,116,101,95,107,101,121]
noncomputable def z131 : Str := zz [67,114,121,112,116,111,80,97,105,114,46,117,112,100,97,116,101,95,107,101,121]
noncomputable def z132 : Str := zz [99,105,112,104,101,114,95,115,117,105,116,101]
noncomputable def z133 : Str := zz [118,101,114,115,105,111,110]
noncomputable def z134 : Str := zz [107,101,121,95,115,105,122,101]
noncomputable def z135 : Str := zz [95,117,112,100,97,116,101,95,107,101,121]
noncomputable def z136 : Str := zz [67,114,121,112,116,111,80,97,105,114,46,95,117,112,100,97,116,101,95,107,101,121]
noncomputable def z137 : Str := zz [99,105,100]
noncomputable def z138 : Str := zz [105,115,95,99,108,105,101,110,116]
noncomputable def z139 : Str := zz [95,99,105,112,104,101,114,95,110,97,109,101]
noncomputable def z140 : Str := zz [95,107,101,121]
noncomputable def z141 : Str := zz [95,112,114,105,109,105,116,105,118,101,115]
noncomputable def z142 : Str := zz [95,115,101,116,117,112,95,99,98]
noncomputable def z143 : Str := zz [95,116,101,97,114,100,111,119,110,95,99,98]
noncomputable def z144 : Str := zz [97,101,97,100]
noncomputable def z145 : Str := zz [104,112]
noncomputable def z146 : Str := zz [101,110,99,114,121,112,116]
noncomputable def z147 : Str := zz [65,69,65,68,46,101,110,99,114,121,112,116]
noncomputable def z148 : Str := zz [102,105,114,115,116,95,98,121,116,101]
noncomputable def z149 : Str := zz [72,101,97,100,101,114,80,114,111,116,101,99,116,105,111,110,46,95,95,105,110,105,116,95,95]
noncomputable def z150 : Str := zz [100,101,99,114,121,112,116]
noncomputable def z151 : Str := zz [65,69,65,68,46,100,101,99,114,121,112,116]
noncomputable def z152 : Str := zz [97,112,112,108,121]
noncomputable def z153 : Str := zz [72,101,97,100,101,114,80,114,111,116,101,99,116,105,111,110,46,97,112,112,108,121]
noncomputable def z154 : Str := zz [101,110,99,114,121,112,116,101,100,95,111,102,102,115,101,116]
noncomputable def z155 : Str := zz [101,120,112,101,99,116,101,100,95,112,97,99,107,101,116,95,110,117,109,98,101,114]
noncomputable def z156 : Str := zz [112,97,121,108,111,97,100]
noncomputable def z157 : Str := zz [67,114,121,112,116,111,80,97,105,114,46,101,110,99,114,121,112,116,95,112,97,99,107,101,116]
noncomputable def z158 : Str := zz [67,114,121,112,116,111,80,97,105,114,46,95,95,105,110,105,116,95,95]
noncomputable def z159 : Str := zz [112,108,97,105,110,95,112,97,121,108,111,97,100]
noncomputable def z160 : Str := zz [115,99,114,105,112,116]
noncomputable def z161 : Str := zz [116,117,114,110]
noncomputable def z162 : Str := zz [100,101,101,100]
noncomputable def z163 : Str := zz [114,111,119,115]
noncomputable def z164 : Str := zz [114,101,109,111,118,101]
noncomputable def z165 : Str := zz [67,114,121,112,116,111,80,97,105,114,46,116,101,97,114,100,111,119,110]
noncomputable def z166 : Str := zz [112,110,95,116,114,117,110,99,97,116,101,100]
noncomputable def z167 : Str := zz [111,112,101,110,101,100]
noncomputable def z168 : Str := zz [95,110,111,110,99,101]
noncomputable def z169 : Str := zz [65,69,65,68,46,95,110,111,110,99,101]
noncomputable def z170 : Str := zz [110,111,110,99,101]
noncomputable def z171 : Str := zz [97,115,115,111,99,105,97,116,101,100]
noncomputable def z172 : Str := zz [112,108,97,105,110]
noncomputable def z173 : Str := zz [116,114,117,110,99,97,116,101,100]
noncomputable def z174 : Str := zz [110,117,109,95,98,105,116,115]
noncomputable def z175 : Str := zz [101,120,112,101,99,116,101,100]
noncomputable def z176 : Str := zz [119,105,110,100,111,119]
noncomputable def z177 : Str := zz [104,97,108,102,95,119,105,110,100,111,119]
noncomputable def z178 : Str := zz [99,97,110,100,105,100,97,116,101]
noncomputable def z179 : Str := zz [115,117,105,116,101]
noncomputable def z180 : Str := zz [116,104,101,114,101]
noncomputable def z181 : Str := zz [98,97,99,107]
noncomputable def z182 : Str := zz [107]
noncomputable def z183 : Str := zz [72,101,97,100,101,114,80,114,111,116,101,99,116,105,111,110,46,114,101,109,111,118,101]
noncomputable def z184 : Str := zz [60,109,111,100,117,108,101,62]
noncomputable def z185 : Str := zz [78,69,71,79,84,73,65,84,73,79,78]
noncomputable def z186 : Str := zz [86,69,82,83,73,79,78,95,49]
noncomputable def z187 : Str := zz [86,69,82,83,73,79,78,95,50]
noncomputable def z188 : Str := zz [65,69,65,68,46,95,95,105,110,105,116,95,95]
noncomputable def z189 : Str := zz [104,112,95,99,105,112,104,101,114,95,110,97,109,101]
noncomputable def z190 : Str := zz [97,101,97,100,95,99,105,112,104,101,114,95,110,97,109,101]
noncomputable def z191 : Str := zz [95,105,118]
noncomputable def z192 : Str := zz [115,105,100,101]
noncomputable def z193 : Str := zz [112,104,97,115,101]
noncomputable def z194 : Str := zz [65,69,83,95,49,50,56,95,71,67,77,95,83,72,65,50,53,54]
noncomputable def z195 : Str := zz [65,69,83,95,50,53,54,95,71,67,77,95,83,72,65,51,56,52]
noncomputable def z196 : Str := zz [67,72,65,67,72,65,50,48,95,80,79,76,89,49,51,48,53,95,83,72,65,50,53,54]
noncomputable def z197 : Str := zz [95,117,112,100,97,116,101,95,107,101,121,95,114,101,113,117,101,115,116,101,100]
noncomputable def z198 : Str := zz [97,101,97,100,95,116,97,103,95,115,105,122,101]
noncomputable def z199 : Str := zz [114,101,99,118]
noncomputable def z200 : Str := zz [115,101,110,100]
noncomputable def z201 : Str := zz [114,101,99,118,95,115,101,116,117,112,95,99,98]
noncomputable def z202 : Str := zz [114,101,99,118,95,116,101,97,114,100,111,119,110,95,99,98]
noncomputable def z203 : Str := zz [115,101,110,100,95,115,101,116,117,112,95,99,98]
noncomputable def z204 : Str := zz [115,101,110,100,95,116,101,97,114,100,111,119,110,95,99,98]
noncomputable def z205 : Str := zz [95,95]
noncomputable def z206 : Str := zz [97,116,116,114,103,101,116,116,101,114]
noncomputable def z207 : Str := zz [109,101,116,104,111,100,99,97,108,108,101,114]
noncomputable def z208 : Str := zz [118,97,114,115]
noncomputable def z209 : Str := zz [100,105,114]
noncomputable def z210 : Str := zz [108,111,99,97,108,115]
noncomputable def z211 : Str := zz [116,121,112,101]
noncomputable def z212 : Str := zz [105,115,105,110,115,116,97,110,99,101]
noncomputable def z213 : Str := zz [105,115,115,117,98,99,108,97,115,115]
noncomputable def z214 : Str := zz [103,101,116,97,116,116,114]
noncomputable def z215 : Str := zz [104,97,115,97,116,116,114]
noncomputable def o_43 : PO := fun v => (.mk (.type k0) .none (.seq #[] 0) #[])
noncomputable def o_44 : PO := fun v => (.mk .none .none (.fields #[]) #[])
noncomputable def o_45 : PO := fun v => (.mk (.type k1) .none (.fields #[(.str z184 182), (.str z184 183), (.str z3 184), (.int 1 0), (.int 0 0), (.int 0 0), (.int 0 0), (.int 0 0), (.ref 11), (.bool .false), (.int 181 0), (.ref 12), .none, .none, .none, .none, (.int 185 0), (.int 1 0), (.str z3 186)]) #[])
noncomputable def o_46 : PO := fun v => (.mk (.type k2) .none .plain #[(.some (.ref 13)), (.some (.ref 3)), (.some (.ref 3)), .none, (.some (.str z59 164)), .none, (.some (.ref 0))])
noncomputable def tree_47 : PT := fun v => (.node (b0 v) (.node (b1 v) (.node (b3 v) (.node (b7 v) .nil .nil) (.node (o_43 v) .nil .nil)) (.node (b5 v) (.node (b9 v) .nil .nil) (.node (o_45 v) .nil .nil))) (.node (b2 v) (.node (b4 v) (.node (b8 v) .nil .nil) (.node (o_44 v) .nil .nil)) (.node (b6 v) (.node (b10 v) .nil .nil) (.node (o_46 v) .nil .nil))))
noncomputable def o_49 : PO := fun v => (.mk (.type k3) .none (.dict #[(de v z34 165 (.str z25 194)), (de v z35 166 .none), (de v z36 167 .none), (de v z37 168 (.builtin k4)), (de v z38 169 .none), (de v z39 170 (.ref 6)), (de v z40 171 (.ref 4)), (de v z41 173 (.str z3 172)), (de v z42 174 .none), (de v z43 193 (.ref 21)), (de v z44 197 (.int 12 196)), (de v z45 199 (.int 4 198)), (de v z46 201 (.int 16 200)), (de v z27 219 (.ref 31))] 14) #[])
noncomputable def o_50 : PO := fun v => (.mk .none .none (.fields #[(.int 1 0), (.int 0 0), (.ref 20), (.int 8 0), (.int 0 0), (.ref 27)]) #[])
noncomputable def o_51 : PO := fun v => (.mk (.type k0) .none (.seq #[] 0) #[])
noncomputable def o_52 : PO := fun v => (.mk .none .none (.fields #[]) #[])
noncomputable def o_53 : PO := fun v => (.mk (.type k0) .none (.seq #[(.str z182 190)] 0) #[])
noncomputable def o_54 : PO := fun v => (.mk (.type k0) .none (.seq #[] 0) #[])
noncomputable def o_55 : PO := fun v => (.mk .none .none (.func (.mk z43 z43 (fA (sg PB 0)) (.stmts (fB (sg PB 0))) (fC (sg PB 0)) 0 [] .none .none .none .none .none .none .none 0)) #[])
noncomputable def o_56 : PO := fun v => (.mk (.type k1) .none (.fields #[(.str z43 187), (.str z43 188), (.str z3 189), (.int 1 0), (.int 1 0), (.int 0 0), (.int 0 0), (.int 3 0), (.ref 15), (.bool .true), (.int 181 0), (.ref 16), .none, (.ref 17), (.ref 18), (.ref 19), (.int 191 0), (.int 1 0), (.str z3 192)]) #[])
noncomputable def o_57 : PO := fun v => (.mk (.type k5) .none (.func (.mk z43 z43 (fA (sg PB 0)) (.stmts (fB (sg PB 0))) (fC (sg PB 0)) 3 [] .none .none .none (.str z59 164) .none (.ref 20) .none 0)) #[])
noncomputable def o_58 : PO := fun v => (.mk (.type k0) .none (.seq #[(.type k6)] 0) #[])
noncomputable def o_59 : PO := fun v => (.mk (.type k7) .none (.fields #[(.builtin k8), (.type k9)]) #[])
noncomputable def o_60 : PO := fun v => (.mk (.type k3) .none (.dict #[(de v z24 209 (.str z25 194)), (de v z26 211 (.str z27 210)), (de v z28 213 (.int 8 212)), (de v z29 214 (.ref 29))] 4) #[])
noncomputable def o_61 : PO := fun v => (.mk (.type k0) .none (.seq #[] 0) #[])
noncomputable def o_62 : PO := fun v => (.mk .none .none (.fields #[]) #[])
noncomputable def o_63 : PO := fun v => (.mk (.type k1) .none (.fields #[(.str z27 204), (.str z27 205), (.str z3 206), (.int 8 0), (.int 0 0), (.int 0 0), (.int 0 0), (.int 0 0), (.ref 25), (.bool .false), (.int 181 0), (.ref 26), .none, .none, .none, .none, (.int 207 0), (.int 8 0), (.str z3 208)]) #[])
noncomputable def o_64 : PO := fun v => (.mk (.type k2) .none .plain #[(.some (.ref 27)), (.some (.ref 3)), (.some (.ref 24)), .none, (.some (.str z25 194)), .none, (.some (.ref 0))])
noncomputable def o_65 : PO := fun v => (.mk (.type k0) .none (.seq #[] 0) #[])
noncomputable def o_66 : PO := fun v => (.mk (.type k3) .none (.dict #[(de v z24 209 (.str z25 194)), (de v z28 213 (.int 8 212)), (de v z29 214 (.ref 29)), (de v z68 216 (.ref 32)), (de v z35 217 .none)] 3) #[])
noncomputable def o_67 : PO := fun v => (.mk (.type k9) .none (.cls (.mk z27 [(.type k6)] [(.ref 31), (.type k6), (.type k10), (.type k11), (.type k12)] 30 z27 .true [] [] .false .none .false)) #[(.some (.ref 22)), .none, (.some (.str z27 202)), (.some (.str z27 210)), (.some (.builtin k13)), (.some (.bool .true))])
noncomputable def o_68 : PO := fun v => (.mk (.type k14) .none (.fields #[(.str z68 215), (.ref 31), (.builtin k15), .none]) #[])
noncomputable def o_69 : PO := fun v => (.mk (.type k16) .none (.fields #[(.ref 31), (.ref 31), (.ref 31)]) #[])
noncomputable def o_70 : PO := fun v => (.mk (.type k7) .none (.fields #[(.builtin k17), (.ref 31)]) #[])
noncomputable def tree_70 : PT := fun v => (.node (b0 v) (.node (b1 v) (.node (o_49 v) (.node (b7 v) (.node (o_51 v) (.node (o_67 v) .nil .nil) .nil) (.node (o_59 v) .nil .nil)) (.node (o_43 v) (.node (o_55 v) .nil .nil) (.node (o_63 v) .nil .nil))) (.node (b5 v) (.node (b9 v) (.node (o_53 v) (.node (o_69 v) .nil .nil) .nil) (.node (o_61 v) .nil .nil)) (.node (o_45 v) (.node (o_57 v) .nil .nil) (.node (o_65 v) .nil .nil)))) (.node (b2 v) (.node (b4 v) (.node (b8 v) (.node (o_52 v) (.node (o_68 v) .nil .nil) .nil) (.node (o_60 v) .nil .nil)) (.node (o_50 v) (.node (o_56 v) .nil .nil) (.node (o_64 v) .nil .nil))) (.node (b6 v) (.node (b10 v) (.node (o_54 v) (.node (o_70 v) .nil .nil) .nil) (.node (o_62 v) .nil .nil)) (.node (o_46 v) (.node (o_58 v) .nil .nil) (.node (o_66 v) .nil .nil)))))
noncomputable def o_71 : PO := fun v => (.mk (.type k3) .none (.dict #[(de v z34 165 (.str z25 194)), (de v z35 166 .none), (de v z36 167 .none), (de v z37 168 (.builtin k4)), (de v z38 169 .none), (de v z39 170 (.ref 6)), (de v z40 171 (.ref 4)), (de v z41 173 (.str z3 172)), (de v z42 174 .none), (de v z43 193 (.ref 21)), (de v z44 197 (.int 12 196)), (de v z45 199 (.int 4 198)), (de v z46 201 (.int 16 200)), (de v z27 219 (.ref 31)), (de v z47 283 (.ref 72))] 15) #[])
noncomputable def o_72 : PO := fun v => (.mk .none .none (.fields #[(.int 1 0), (.int 0 0), (.ref 20), (.int 8 0), (.int 0 0), (.ref 27), (.int 10 0), (.int 0 0), (.ref 40)]) #[])
noncomputable def o_73 : PO := fun v => (.mk (.type k0) .none (.seq #[] 0) #[])
noncomputable def o_74 : PO := fun v => (.mk (.type k7) .none (.fields #[(.builtin k8), (.type k9)]) #[])
noncomputable def o_75 : PO := fun v => (.mk (.type k3) .none (.dict #[(de v z24 227 (.str z25 194)), (de v z26 229 (.str z47 228)), (de v z28 231 (.int 10 230)), (de v z128 242 (.ref 48)), (de v z150 253 (.ref 55)), (de v z146 263 (.ref 62)), (de v z168 271 (.ref 69)), (de v z29 276 (.ref 70))] 8) #[])
noncomputable def o_76 : PO := fun v => (.mk (.type k0) .none (.seq #[] 0) #[])
noncomputable def o_77 : PO := fun v => (.mk .none .none (.fields #[(.int 12 0), (.int 4 0), (.ref 47), (.int 22 0), (.int 4 0), (.ref 54), (.int 28 0), (.int 4 0), (.ref 61), (.int 31 0), (.int 4 0), (.ref 68)]) #[])
noncomputable def o_78 : PO := fun v => (.mk (.type k1) .none (.fields #[(.str z47 222), (.str z47 223), (.str z3 224), (.int 10 0), (.int 0 0), (.int 0 0), (.int 0 0), (.int 0 0), (.ref 38), (.bool .false), (.int 181 0), (.ref 39), .none, .none, .none, .none, (.int 225 0), (.int 10 0), (.str z3 226)]) #[])
noncomputable def o_79 : PO := fun v => (.mk (.type k2) .none .plain #[(.some (.ref 40)), (.some (.ref 3)), (.some (.ref 37)), .none, (.some (.str z25 194)), .none, (.some (.ref 0))])
noncomputable def o_80 : PO := fun v => (.mk (.type k0) .none (.seq #[] 0) #[])
noncomputable def o_81 : PO := fun v => (.mk .none .none (.fields #[]) #[])
noncomputable def o_82 : PO := fun v => (.mk (.type k0) .none (.seq #[(.str z30 235), (.str z31 236), (.str z32 237), (.str z33 238), (.str z15 239)] 0) #[])
noncomputable def o_83 : PO := fun v => (.mk (.type k0) .none (.seq #[] 0) #[])
noncomputable def o_84 : PO := fun v => (.mk .none .none (.func (.mk z128 z188 (fA (sg (fB (sg PB 6)) 0)) (.stmts (fB (sg (fB (sg PB 6)) 0))) (fC (sg (fB (sg PB 6)) 0)) 0 [] .none .none .none .none .none .none .none 0)) #[])
noncomputable def o_85 : PO := fun v => (.mk (.type k1) .none (.fields #[(.str z128 232), (.str z188 233), (.str z3 234), (.int 12 0), (.int 5 0), (.int 0 0), (.int 0 0), (.int 3 0), (.ref 42), (.bool .true), (.int 181 0), (.ref 43), .none, (.ref 44), (.ref 45), (.ref 46), (.int 240 0), (.int 12 0), (.str z3 241)]) #[])
noncomputable def o_86 : PO := fun v => (.mk (.type k5) .none (.func (.mk z128 z188 (fA (sg (fB (sg PB 6)) 0)) (.stmts (fB (sg (fB (sg PB 6)) 0))) (fC (sg (fB (sg PB 6)) 0)) 3 [] .none .none .none (.str z25 194) .none (.ref 47) .none 0)) #[])
noncomputable def o_87 : PO := fun v => (.mk (.type k0) .none (.seq #[] 0) #[])
noncomputable def o_88 : PO := fun v => (.mk .none .none (.fields #[]) #[])
noncomputable def o_89 : PO := fun v => (.mk (.type k0) .none (.seq #[(.str z30 246), (.str z88 247), (.str z89 248), (.str z90 249), (.str z167 250)] 0) #[])
noncomputable def o_90 : PO := fun v => (.mk (.type k0) .none (.seq #[] 0) #[])
noncomputable def o_91 : PO := fun v => (.mk .none .none (.func (.mk z150 z151 (fA (sg (fB (sg PB 6)) 1)) (.stmts (fB (sg (fB (sg PB 6)) 1))) (fC (sg (fB (sg PB 6)) 1)) 0 [] .none .none .none .none .none .none .none 0)) #[])
noncomputable def o_92 : PO := fun v => (.mk (.type k1) .none (.fields #[(.str z150 243), (.str z151 244), (.str z3 245), (.int 22 0), (.int 4 0), (.int 0 0), (.int 0 0), (.int 3 0), (.ref 49), (.bool .true), (.int 181 0), (.ref 50), .none, (.ref 51), (.ref 52), (.ref 53), (.int 251 0), (.int 22 0), (.str z3 252)]) #[])
noncomputable def o_93 : PO := fun v => (.mk (.type k5) .none (.func (.mk z150 z151 (fA (sg (fB (sg PB 6)) 1)) (.stmts (fB (sg (fB (sg PB 6)) 1))) (fC (sg (fB (sg PB 6)) 1)) 3 [] .none .none .none (.str z25 194) .none (.ref 54) .none 0)) #[])
noncomputable def o_94 : PO := fun v => (.mk (.type k0) .none (.seq #[] 0) #[])
noncomputable def o_95 : PO := fun v => (.mk .none .none (.fields #[]) #[])
noncomputable def o_96 : PO := fun v => (.mk (.type k0) .none (.seq #[(.str z30 257), (.str z88 258), (.str z89 259), (.str z90 260)] 0) #[])
noncomputable def o_97 : PO := fun v => (.mk (.type k0) .none (.seq #[] 0) #[])
noncomputable def o_98 : PO := fun v => (.mk .none .none (.func (.mk z146 z147 (fA (sg (fB (sg PB 6)) 2)) (.stmts (fB (sg (fB (sg PB 6)) 2))) (fC (sg (fB (sg PB 6)) 2)) 0 [] .none .none .none .none .none .none .none 0)) #[])
noncomputable def o_99 : PO := fun v => (.mk (.type k1) .none (.fields #[(.str z146 254), (.str z147 255), (.str z3 256), (.int 28 0), (.int 4 0), (.int 0 0), (.int 0 0), (.int 3 0), (.ref 56), (.bool .true), (.int 181 0), (.ref 57), .none, (.ref 58), (.ref 59), (.ref 60), (.int 261 0), (.int 28 0), (.str z3 262)]) #[])
noncomputable def o_100 : PO := fun v => (.mk (.type k5) .none (.func (.mk z146 z147 (fA (sg (fB (sg PB 6)) 2)) (.stmts (fB (sg (fB (sg PB 6)) 2))) (fC (sg (fB (sg PB 6)) 2)) 3 [] .none .none .none (.str z25 194) .none (.ref 61) .none 0)) #[])
noncomputable def o_101 : PO := fun v => (.mk (.type k0) .none (.seq #[] 0) #[])
noncomputable def o_102 : PO := fun v => (.mk .none .none (.fields #[]) #[])
noncomputable def o_103 : PO := fun v => (.mk (.type k0) .none (.seq #[(.str z30 267), (.str z90 268)] 0) #[])
noncomputable def o_104 : PO := fun v => (.mk (.type k0) .none (.seq #[] 0) #[])
noncomputable def o_105 : PO := fun v => (.mk .none .none (.func (.mk z168 z169 (fA (sg (fB (sg PB 6)) 3)) (.stmts (fB (sg (fB (sg PB 6)) 3))) (fC (sg (fB (sg PB 6)) 3)) 0 [] .none .none .none .none .none .none .none 0)) #[])
noncomputable def o_106 : PO := fun v => (.mk (.type k1) .none (.fields #[(.str z168 264), (.str z169 265), (.str z3 266), (.int 31 0), (.int 2 0), (.int 0 0), (.int 0 0), (.int 3 0), (.ref 63), (.bool .true), (.int 181 0), (.ref 64), .none, (.ref 65), (.ref 66), (.ref 67), (.int 269 0), (.int 31 0), (.str z3 270)]) #[])
noncomputable def o_107 : PO := fun v => (.mk (.type k5) .none (.func (.mk z168 z169 (fA (sg (fB (sg PB 6)) 3)) (.stmts (fB (sg (fB (sg PB 6)) 3))) (fC (sg (fB (sg PB 6)) 3)) 3 [] .none .none .none (.str z25 194) .none (.ref 68) .none 0)) #[])
noncomputable def o_108 : PO := fun v => (.mk (.type k0) .none (.seq #[(.str z139 272), (.str z191 273), (.str z140 274), (.str z141 275)] 0) #[])
noncomputable def o_109 : PO := fun v => (.mk (.type k3) .none (.dict #[(de v z24 227 (.str z25 194)), (de v z28 231 (.int 10 230)), (de v z128 242 (.ref 48)), (de v z150 253 (.ref 55)), (de v z146 263 (.ref 62)), (de v z168 271 (.ref 69)), (de v z29 276 (.ref 70)), (de v z23 278 (.ref 73)), (de v z68 280 (.ref 74)), (de v z35 281 .none)] 4) #[])
noncomputable def o_110 : PO := fun v => (.mk (.type k9) .none (.cls (.mk z47 [(.type k12)] [(.ref 72), (.type k12)] 71 z47 .true [] [] .false .none .false)) #[.none, .none, (.some (.str z47 220)), (.some (.str z47 228)), (.some (.builtin k18)), (.some (.bool .true))])
noncomputable def o_111 : PO := fun v => (.mk (.type k14) .none (.fields #[(.str z23 277), (.ref 72), (.builtin k19), (.builtin k20)]) #[])
noncomputable def o_112 : PO := fun v => (.mk (.type k14) .none (.fields #[(.str z68 279), (.ref 72), (.builtin k15), .none]) #[])
noncomputable def o_113 : PO := fun v => (.mk (.type k16) .none (.fields #[(.ref 72), (.ref 72), (.ref 72)]) #[])
noncomputable def o_114 : PO := fun v => (.mk (.type k7) .none (.fields #[(.builtin k17), (.ref 72)]) #[])
noncomputable def tree_114 : PT := fun v => (.node (b0 v) (.node (b1 v) (.node (o_71 v) (.node (b7 v) (.node (o_51 v) (.node (o_67 v) (.node (o_101 v) .nil .nil) .nil) (.node (o_85 v) .nil .nil)) (.node (o_59 v) (.node (o_77 v) (.node (o_109 v) .nil .nil) .nil) (.node (o_93 v) .nil .nil))) (.node (o_43 v) (.node (o_55 v) (.node (o_73 v) (.node (o_105 v) .nil .nil) .nil) (.node (o_89 v) .nil .nil)) (.node (o_63 v) (.node (o_81 v) (.node (o_113 v) .nil .nil) .nil) (.node (o_97 v) .nil .nil)))) (.node (b5 v) (.node (b9 v) (.node (o_53 v) (.node (o_69 v) (.node (o_103 v) .nil .nil) .nil) (.node (o_87 v) .nil .nil)) (.node (o_61 v) (.node (o_79 v) (.node (o_111 v) .nil .nil) .nil) (.node (o_95 v) .nil .nil))) (.node (o_45 v) (.node (o_57 v) (.node (o_75 v) (.node (o_107 v) .nil .nil) .nil) (.node (o_91 v) .nil .nil)) (.node (o_65 v) (.node (o_83 v) .nil .nil) (.node (o_99 v) .nil .nil))))) (.node (b2 v) (.node (b4 v) (.node (b8 v) (.node (o_52 v) (.node (o_68 v) (.node (o_102 v) .nil .nil) .nil) (.node (o_86 v) .nil .nil)) (.node (o_60 v) (.node (o_78 v) (.node (o_110 v) .nil .nil) .nil) (.node (o_94 v) .nil .nil))) (.node (o_72 v) (.node (o_56 v) (.node (o_74 v) (.node (o_106 v) .nil .nil) .nil) (.node (o_90 v) .nil .nil)) (.node (o_64 v) (.node (o_82 v) (.node (o_114 v) .nil .nil) .nil) (.node (o_98 v) .nil .nil)))) (.node (b6 v) (.node (b10 v) (.node (o_54 v) (.node (o_70 v) (.node (o_104 v) .nil .nil) .nil) (.node (o_88 v) .nil .nil)) (.node (o_62 v) (.node (o_80 v) (.node (o_112 v) .nil .nil) .nil) (.node (o_96 v) .nil .nil))) (.node (o_46 v) (.node (o_58 v) (.node (o_76 v) (.node (o_108 v) .nil .nil) .nil) (.node (o_92 v) .nil .nil)) (.node (o_66 v) (.node (o_84 v) .nil .nil) (.node (o_100 v) .nil .nil))))))
noncomputable def o_115 : PO := fun v => (.mk (.type k3) .none (.dict #[(de v z34 165 (.str z99 355)), (de v z35 166 .none), (de v z36 167 .none), (de v z37 168 (.builtin k4)), (de v z38 169 .none), (de v z39 170 (.ref 6)), (de v z40 171 (.ref 4)), (de v z41 173 (.str z3 172)), (de v z42 174 .none), (de v z43 193 (.ref 21)), (de v z44 197 (.int 12 196)), (de v z45 199 (.int 4 198)), (de v z46 201 (.int 16 200)), (de v z27 219 (.ref 31)), (de v z47 283 (.ref 72)), (de v z48 354 (.ref 114)), (de v z49 358 (.int 128 357))] 17) #[])
noncomputable def o_116 : PO := fun v => (.mk .none .none (.fields #[(.int 1 0), (.int 0 0), (.ref 20), (.int 8 0), (.int 0 0), (.ref 27), (.int 10 0), (.int 0 0), (.ref 40), (.int 33 0), (.int 0 0), (.ref 82)]) #[])
noncomputable def o_117 : PO := fun v => (.mk (.type k0) .none (.seq #[] 0) #[])
noncomputable def o_118 : PO := fun v => (.mk (.type k7) .none (.fields #[(.builtin k8), (.type k9)]) #[])
noncomputable def o_119 : PO := fun v => (.mk (.type k3) .none (.dict #[(de v z24 291 (.str z25 194)), (de v z26 293 (.str z48 292)), (de v z28 295 (.int 33 294)), (de v z128 305 (.ref 90)), (de v z152 320 (.ref 97)), (de v z164 335 (.ref 104)), (de v z115 343 (.ref 111)), (de v z29 347 (.ref 112))] 8) #[])
noncomputable def o_120 : PO := fun v => (.mk (.type k0) .none (.seq #[] 0) #[])
noncomputable def o_121 : PO := fun v => (.mk .none .none (.fields #[(.int 35 0), (.int 4 0), (.ref 89), (.int 42 0), (.int 4 0), (.ref 96), (.int 56 0), (.int 4 0), (.ref 103), (.int 73 0), (.int 4 0), (.ref 110)]) #[])
noncomputable def o_122 : PO := fun v => (.mk (.type k1) .none (.fields #[(.str z48 286), (.str z48 287), (.str z3 288), (.int 33 0), (.int 0 0), (.int 0 0), (.int 0 0), (.int 0 0), (.ref 80), (.bool .false), (.int 181 0), (.ref 81), .none, .none, .none, .none, (.int 289 0), (.int 33 0), (.str z3 290)]) #[])
noncomputable def o_123 : PO := fun v => (.mk (.type k2) .none .plain #[(.some (.ref 82)), (.some (.ref 3)), (.some (.ref 79)), .none, (.some (.str z25 194)), .none, (.some (.ref 0))])
noncomputable def o_124 : PO := fun v => (.mk (.type k0) .none (.seq #[] 0) #[])
noncomputable def o_125 : PO := fun v => (.mk .none .none (.fields #[]) #[])
noncomputable def o_126 : PO := fun v => (.mk (.type k0) .none (.seq #[(.str z30 299), (.str z31 300), (.str z32 301), (.str z15 302)] 0) #[])
noncomputable def o_127 : PO := fun v => (.mk (.type k0) .none (.seq #[] 0) #[])
noncomputable def o_128 : PO := fun v => (.mk .none .none (.func (.mk z128 z149 (fA (sg (fB (sg PB 7)) 0)) (.stmts (fB (sg (fB (sg PB 7)) 0))) (fC (sg (fB (sg PB 7)) 0)) 0 [] .none .none .none .none .none .none .none 0)) #[])
noncomputable def o_129 : PO := fun v => (.mk (.type k1) .none (.fields #[(.str z128 296), (.str z149 297), (.str z3 298), (.int 35 0), (.int 4 0), (.int 0 0), (.int 0 0), (.int 3 0), (.ref 84), (.bool .true), (.int 181 0), (.ref 85), .none, (.ref 86), (.ref 87), (.ref 88), (.int 303 0), (.int 35 0), (.str z3 304)]) #[])
noncomputable def o_130 : PO := fun v => (.mk (.type k5) .none (.func (.mk z128 z149 (fA (sg (fB (sg PB 7)) 0)) (.stmts (fB (sg (fB (sg PB 7)) 0))) (fC (sg (fB (sg PB 7)) 0)) 3 [] .none .none .none (.str z25 194) .none (.ref 89) .none 0)) #[])
noncomputable def o_131 : PO := fun v => (.mk (.type k0) .none (.seq #[] 0) #[])
noncomputable def o_132 : PO := fun v => (.mk .none .none (.fields #[]) #[])
noncomputable def o_133 : PO := fun v => (.mk (.type k0) .none (.seq #[(.str z30 309), (.str z102 310), (.str z103 311), (.str z104 312), (.str z105 313), (.str z106 314), (.str z107 315), (.str z108 316), (.str z109 317)] 0) #[])
noncomputable def o_134 : PO := fun v => (.mk (.type k0) .none (.seq #[] 0) #[])
noncomputable def o_135 : PO := fun v => (.mk .none .none (.func (.mk z152 z153 (fA (sg (fB (sg PB 7)) 1)) (.stmts (fB (sg (fB (sg PB 7)) 1))) (fC (sg (fB (sg PB 7)) 1)) 0 [] .none .none .none .none .none .none .none 0)) #[])
noncomputable def o_136 : PO := fun v => (.mk (.type k1) .none (.fields #[(.str z152 306), (.str z153 307), (.str z3 308), (.int 42 0), (.int 3 0), (.int 0 0), (.int 0 0), (.int 3 0), (.ref 91), (.bool .true), (.int 181 0), (.ref 92), .none, (.ref 93), (.ref 94), (.ref 95), (.int 318 0), (.int 42 0), (.str z3 319)]) #[])
noncomputable def o_137 : PO := fun v => (.mk (.type k5) .none (.func (.mk z152 z153 (fA (sg (fB (sg PB 7)) 1)) (.stmts (fB (sg (fB (sg PB 7)) 1))) (fC (sg (fB (sg PB 7)) 1)) 3 [] .none .none .none (.str z25 194) .none (.ref 96) .none 0)) #[])
noncomputable def o_138 : PO := fun v => (.mk (.type k0) .none (.seq #[] 0) #[])
noncomputable def o_139 : PO := fun v => (.mk .none .none (.fields #[]) #[])
noncomputable def o_140 : PO := fun v => (.mk (.type k0) .none (.seq #[(.str z30 324), (.str z77 325), (.str z105 326), (.str z106 327), (.str z107 328), (.str z108 329), (.str z104 330), (.str z166 331), (.str z109 332)] 0) #[])
noncomputable def o_141 : PO := fun v => (.mk (.type k0) .none (.seq #[] 0) #[])
noncomputable def o_142 : PO := fun v => (.mk .none .none (.func (.mk z164 z183 (fA (sg (fB (sg PB 7)) 2)) (.stmts (fB (sg (fB (sg PB 7)) 2))) (fC (sg (fB (sg PB 7)) 2)) 0 [] .none .none .none .none .none .none .none 0)) #[])
noncomputable def o_143 : PO := fun v => (.mk (.type k1) .none (.fields #[(.str z164 321), (.str z183 322), (.str z3 323), (.int 56 0), (.int 3 0), (.int 0 0), (.int 0 0), (.int 3 0), (.ref 98), (.bool .true), (.int 181 0), (.ref 99), .none, (.ref 100), (.ref 101), (.ref 102), (.int 333 0), (.int 56 0), (.str z3 334)]) #[])
noncomputable def o_144 : PO := fun v => (.mk (.type k5) .none (.func (.mk z164 z183 (fA (sg (fB (sg PB 7)) 2)) (.stmts (fB (sg (fB (sg PB 7)) 2))) (fC (sg (fB (sg PB 7)) 2)) 3 [] .none .none .none (.str z25 194) .none (.ref 103) .none 0)) #[])
noncomputable def o_145 : PO := fun v => (.mk (.type k0) .none (.seq #[] 0) #[])
noncomputable def o_146 : PO := fun v => (.mk .none .none (.fields #[]) #[])
noncomputable def o_147 : PO := fun v => (.mk (.type k0) .none (.seq #[(.str z30 339), (.str z58 340)] 0) #[])
noncomputable def o_148 : PO := fun v => (.mk (.type k0) .none (.seq #[] 0) #[])
noncomputable def o_149 : PO := fun v => (.mk .none .none (.func (.mk z115 z116 (fA (sg (fB (sg PB 7)) 3)) (.stmts (fB (sg (fB (sg PB 7)) 3))) (fC (sg (fB (sg PB 7)) 3)) 0 [] .none .none .none .none .none .none .none 0)) #[])
noncomputable def o_150 : PO := fun v => (.mk (.type k1) .none (.fields #[(.str z115 336), (.str z116 337), (.str z3 338), (.int 73 0), (.int 2 0), (.int 0 0), (.int 0 0), (.int 3 0), (.ref 105), (.bool .true), (.int 181 0), (.ref 106), .none, (.ref 107), (.ref 108), (.ref 109), (.int 341 0), (.int 73 0), (.str z3 342)]) #[])
noncomputable def o_151 : PO := fun v => (.mk (.type k5) .none (.func (.mk z115 z116 (fA (sg (fB (sg PB 7)) 3)) (.stmts (fB (sg (fB (sg PB 7)) 3))) (fC (sg (fB (sg PB 7)) 3)) 3 [] .none .none .none (.str z25 194) .none (.ref 110) .none 0)) #[])
noncomputable def o_152 : PO := fun v => (.mk (.type k0) .none (.seq #[(.str z139 344), (.str z140 345), (.str z141 346)] 0) #[])
noncomputable def o_153 : PO := fun v => (.mk (.type k3) .none (.dict #[(de v z24 291 (.str z25 194)), (de v z28 295 (.int 33 294)), (de v z128 305 (.ref 90)), (de v z152 320 (.ref 97)), (de v z164 335 (.ref 104)), (de v z115 343 (.ref 111)), (de v z29 347 (.ref 112)), (de v z23 349 (.ref 115)), (de v z68 351 (.ref 116)), (de v z35 352 .none)] 4) #[])
noncomputable def o_154 : PO := fun v => (.mk (.type k9) .none (.cls (.mk z48 [(.type k12)] [(.ref 114), (.type k12)] 113 z48 .true [] [] .false .none .false)) #[.none, .none, (.some (.str z48 284)), (.some (.str z48 292)), (.some (.builtin k18)), (.some (.bool .true))])
noncomputable def o_155 : PO := fun v => (.mk (.type k14) .none (.fields #[(.str z23 348), (.ref 114), (.builtin k19), (.builtin k20)]) #[])
noncomputable def o_156 : PO := fun v => (.mk (.type k14) .none (.fields #[(.str z68 350), (.ref 114), (.builtin k15), .none]) #[])
noncomputable def o_157 : PO := fun v => (.mk (.type k16) .none (.fields #[(.ref 114), (.ref 114), (.ref 114)]) #[])
noncomputable def o_158 : PO := fun v => (.mk (.type k7) .none (.fields #[(.builtin k17), (.ref 114)]) #[])
noncomputable def tree_158 : PT := fun v => (.node (b0 v) (.node (b1 v) (.node (o_115 v) (.node (b7 v) (.node (o_51 v) (.node (o_67 v) (.node (o_101 v) .nil .nil) (.node (o_135 v) .nil .nil)) (.node (o_85 v) (.node (o_119 v) .nil .nil) (.node (o_151 v) .nil .nil))) (.node (o_59 v) (.node (o_77 v) (.node (o_109 v) .nil .nil) (.node (o_143 v) .nil .nil)) (.node (o_93 v) (.node (o_127 v) .nil .nil) .nil))) (.node (o_43 v) (.node (o_55 v) (.node (o_73 v) (.node (o_105 v) .nil .nil) (.node (o_139 v) .nil .nil)) (.node (o_89 v) (.node (o_123 v) .nil .nil) (.node (o_155 v) .nil .nil))) (.node (o_63 v) (.node (o_81 v) (.node (o_113 v) .nil .nil) (.node (o_147 v) .nil .nil)) (.node (o_97 v) (.node (o_131 v) .nil .nil) .nil)))) (.node (b5 v) (.node (b9 v) (.node (o_53 v) (.node (o_69 v) (.node (o_103 v) .nil .nil) (.node (o_137 v) .nil .nil)) (.node (o_87 v) (.node (o_121 v) .nil .nil) (.node (o_153 v) .nil .nil))) (.node (o_61 v) (.node (o_79 v) (.node (o_111 v) .nil .nil) (.node (o_145 v) .nil .nil)) (.node (o_95 v) (.node (o_129 v) .nil .nil) .nil))) (.node (o_45 v) (.node (o_57 v) (.node (o_75 v) (.node (o_107 v) .nil .nil) (.node (o_141 v) .nil .nil)) (.node (o_91 v) (.node (o_125 v) .nil .nil) (.node (o_157 v) .nil .nil))) (.node (o_65 v) (.node (o_83 v) (.node (o_117 v) .nil .nil) (.node (o_149 v) .nil .nil)) (.node (o_99 v) (.node (o_133 v) .nil .nil) .nil))))) (.node (b2 v) (.node (b4 v) (.node (b8 v) (.node (o_52 v) (.node (o_68 v) (.node (o_102 v) .nil .nil) (.node (o_136 v) .nil .nil)) (.node (o_86 v) (.node (o_120 v) .nil .nil) (.node (o_152 v) .nil .nil))) (.node (o_60 v) (.node (o_78 v) (.node (o_110 v) .nil .nil) (.node (o_144 v) .nil .nil)) (.node (o_94 v) (.node (o_128 v) .nil .nil) .nil))) (.node (o_116 v) (.node (o_56 v) (.node (o_74 v) (.node (o_106 v) .nil .nil) (.node (o_140 v) .nil .nil)) (.node (o_90 v) (.node (o_124 v) .nil .nil) (.node (o_156 v) .nil .nil))) (.node (o_64 v) (.node (o_82 v) (.node (o_114 v) .nil .nil) (.node (o_148 v) .nil .nil)) (.node (o_98 v) (.node (o_132 v) .nil .nil) .nil)))) (.node (b6 v) (.node (b10 v) (.node (o_54 v) (.node (o_70 v) (.node (o_104 v) .nil .nil) (.node (o_138 v) .nil .nil)) (.node (o_88 v) (.node (o_122 v) .nil .nil) (.node (o_154 v) .nil .nil))) (.node (o_62 v) (.node (o_80 v) (.node (o_112 v) .nil .nil) (.node (o_146 v) .nil .nil)) (.node (o_96 v) (.node (o_130 v) .nil .nil) .nil))) (.node (o_46 v) (.node (o_58 v) (.node (o_76 v) (.node (o_108 v) .nil .nil) (.node (o_142 v) .nil .nil)) (.node (o_92 v) (.node (o_126 v) .nil .nil) (.node (o_158 v) .nil .nil))) (.node (o_66 v) (.node (o_84 v) (.node (o_118 v) .nil .nil) (.node (o_150 v) .nil .nil)) (.node (o_100 v) (.node (o_134 v) .nil .nil) .nil))))))
noncomputable def o_159 : PO := fun v => (.mk (.type k3) .none (.dict #[(de v z34 165 (.str z13 404)), (de v z35 166 .none), (de v z36 167 .none), (de v z37 168 (.builtin k4)), (de v z38 169 .none), (de v z39 170 (.ref 6)), (de v z40 171 (.ref 4)), (de v z41 173 (.str z3 172)), (de v z42 174 .none), (de v z43 193 (.ref 21)), (de v z44 197 (.int 12 196)), (de v z45 199 (.int 4 198)), (de v z46 201 (.int 16 200)), (de v z27 219 (.ref 31)), (de v z47 283 (.ref 72)), (de v z48 354 (.ref 114)), (de v z49 358 (.int 128 357)), (de v z8 384 (.ref 128)), (de v z2 396 (.ref 139)), (de v z50 403 (.ref 146))] 20) #[])
noncomputable def o_160 : PO := fun v => (.mk .none .none (.fields #[(.int 1 0), (.int 0 0), (.ref 20), (.int 8 0), (.int 0 0), (.ref 27), (.int 10 0), (.int 0 0), (.ref 40), (.int 33 0), (.int 0 0), (.ref 82), (.int 77 0), (.int 0 0), (.ref 124), (.int 81 0), (.int 0 0), (.ref 138), (.int 91 0), (.int 0 0), (.ref 145)]) #[])
noncomputable def o_161 : PO := fun v => (.mk (.type k0) .none (.seq #[] 0) #[])
noncomputable def o_162 : PO := fun v => (.mk (.type k7) .none (.fields #[(.builtin k8), (.type k9)]) #[])
noncomputable def o_163 : PO := fun v => (.mk (.type k3) .none (.dict #[(de v z24 366 (.str z99 355)), (de v z26 368 (.str z8 367)), (de v z28 370 (.int 77 369)), (de v z185 372 (.int 0 371)), (de v z186 374 (.int 1 373)), (de v z187 376 (.int 1798521807 375)), (de v z29 377 (.ref 126))] 7) #[])
noncomputable def o_164 : PO := fun v => (.mk (.type k0) .none (.seq #[] 0) #[])
noncomputable def o_165 : PO := fun v => (.mk .none .none (.fields #[]) #[])
noncomputable def o_166 : PO := fun v => (.mk (.type k1) .none (.fields #[(.str z8 361), (.str z8 362), (.str z3 363), (.int 77 0), (.int 0 0), (.int 0 0), (.int 0 0), (.int 0 0), (.ref 122), (.bool .false), (.int 181 0), (.ref 123), .none, .none, .none, .none, (.int 364 0), (.int 77 0), (.str z3 365)]) #[])
noncomputable def o_167 : PO := fun v => (.mk (.type k2) .none .plain #[(.some (.ref 124)), (.some (.ref 3)), (.some (.ref 121)), .none, (.some (.str z99 355)), .none, (.some (.ref 0))])
noncomputable def o_168 : PO := fun v => (.mk (.type k0) .none (.seq #[] 0) #[])
noncomputable def o_169 : PO := fun v => (.mk (.type k3) .none (.dict #[(de v z24 366 (.str z99 355)), (de v z28 370 (.int 77 369)), (de v z185 372 (.int 0 371)), (de v z186 374 (.int 1 373)), (de v z187 376 (.int 1798521807 375)), (de v z29 377 (.ref 126)), (de v z23 379 (.ref 129)), (de v z68 381 (.ref 130)), (de v z35 382 .none)] 4) #[])
noncomputable def o_170 : PO := fun v => (.mk (.type k9) .none (.cls (.mk z8 [(.type k12)] [(.ref 128), (.type k12)] 127 z8 .true [] [] .false .none .false)) #[.none, .none, (.some (.str z8 359)), (.some (.str z8 367)), (.some (.builtin k18)), (.some (.bool .true))])
noncomputable def o_171 : PO := fun v => (.mk (.type k14) .none (.fields #[(.str z23 378), (.ref 128), (.builtin k19), (.builtin k20)]) #[])
noncomputable def o_172 : PO := fun v => (.mk (.type k14) .none (.fields #[(.str z68 380), (.ref 128), (.builtin k15), .none]) #[])
noncomputable def o_173 : PO := fun v => (.mk (.type k16) .none (.fields #[(.ref 128), (.ref 128), (.ref 128)]) #[])
noncomputable def o_174 : PO := fun v => (.mk (.type k7) .none (.fields #[(.builtin k17), (.ref 128)]) #[])
noncomputable def o_175 : PO := fun v => (.mk (.type k0) .none (.seq #[] 0) #[])
noncomputable def o_176 : PO := fun v => (.mk .none .none (.fields #[]) #[])
noncomputable def o_177 : PO := fun v => (.mk (.type k0) .none (.seq #[(.str z173 388), (.str z174 389), (.str z175 390), (.str z176 391), (.str z177 392), (.str z178 393)] 0) #[])
noncomputable def o_178 : PO := fun v => (.mk (.type k0) .none (.seq #[] 0) #[])
noncomputable def o_179 : PO := fun v => (.mk .none .none (.func (.mk z2 z2 (fA (sg PB 11)) (.stmts (fB (sg PB 11))) (fC (sg PB 11)) 0 [] .none .none .none .none .none .none .none 0)) #[])
noncomputable def o_180 : PO := fun v => (.mk (.type k1) .none (.fields #[(.str z2 385), (.str z2 386), (.str z3 387), (.int 81 0), (.int 3 0), (.int 0 0), (.int 0 0), (.int 3 0), (.ref 133), (.bool .true), (.int 181 0), (.ref 134), .none, (.ref 135), (.ref 136), (.ref 137), (.int 394 0), (.int 81 0), (.str z3 395)]) #[])
noncomputable def o_181 : PO := fun v => (.mk (.type k5) .none (.func (.mk z2 z2 (fA (sg PB 11)) (.stmts (fB (sg PB 11))) (fC (sg PB 11)) 3 [] .none .none .none (.str z99 355) .none (.ref 138) .none 0)) #[])
noncomputable def o_182 : PO := fun v => (.mk (.type k0) .none (.seq #[] 0) #[])
noncomputable def o_183 : PO := fun v => (.mk .none .none (.fields #[]) #[])
noncomputable def o_184 : PO := fun v => (.mk (.type k0) .none (.seq #[(.str z148 400)] 0) #[])
noncomputable def o_185 : PO := fun v => (.mk (.type k0) .none (.seq #[] 0) #[])
noncomputable def o_186 : PO := fun v => (.mk .none .none (.func (.mk z50 z50 (fA (sg PB 12)) (.stmts (fB (sg PB 12))) (fC (sg PB 12)) 0 [] .none .none .none .none .none .none .none 0)) #[])
noncomputable def o_187 : PO := fun v => (.mk (.type k1) .none (.fields #[(.str z50 397), (.str z50 398), (.str z3 399), (.int 91 0), (.int 1 0), (.int 0 0), (.int 0 0), (.int 3 0), (.ref 140), (.bool .true), (.int 181 0), (.ref 141), .none, (.ref 142), (.ref 143), (.ref 144), (.int 401 0), (.int 91 0), (.str z3 402)]) #[])
noncomputable def o_188 : PO := fun v => (.mk (.type k5) .none (.func (.mk z50 z50 (fA (sg PB 12)) (.stmts (fB (sg PB 12))) (fC (sg PB 12)) 3 [] .none .none .none (.str z99 355) .none (.ref 145) .none 0)) #[])
noncomputable def tree_188 : PT := fun v => (.node (b0 v) (.node (b1 v) (.node (o_159 v) (.node (b7 v) (.node (o_51 v) (.node (o_67 v) (.node (o_101 v) (.node (o_169 v) .nil .nil) .nil) (.node (o_135 v) .nil .nil)) (.node (o_85 v) (.node (o_119 v) (.node (o_185 v) .nil .nil) .nil) (.node (o_151 v) .nil .nil))) (.node (o_59 v) (.node (o_77 v) (.node (o_109 v) (.node (o_177 v) .nil .nil) .nil) (.node (o_143 v) .nil .nil)) (.node (o_93 v) (.node (o_127 v) .nil .nil) (.node (o_161 v) .nil .nil)))) (.node (o_43 v) (.node (o_55 v) (.node (o_73 v) (.node (o_105 v) (.node (o_173 v) .nil .nil) .nil) (.node (o_139 v) .nil .nil)) (.node (o_89 v) (.node (o_123 v) .nil .nil) (.node (o_155 v) .nil .nil))) (.node (o_63 v) (.node (o_81 v) (.node (o_113 v) (.node (o_181 v) .nil .nil) .nil) (.node (o_147 v) .nil .nil)) (.node (o_97 v) (.node (o_131 v) .nil .nil) (.node (o_165 v) .nil .nil))))) (.node (b5 v) (.node (b9 v) (.node (o_53 v) (.node (o_69 v) (.node (o_103 v) (.node (o_171 v) .nil .nil) .nil) (.node (o_137 v) .nil .nil)) (.node (o_87 v) (.node (o_121 v) (.node (o_187 v) .nil .nil) .nil) (.node (o_153 v) .nil .nil))) (.node (o_61 v) (.node (o_79 v) (.node (o_111 v) (.node (o_179 v) .nil .nil) .nil) (.node (o_145 v) .nil .nil)) (.node (o_95 v) (.node (o_129 v) .nil .nil) (.node (o_163 v) .nil .nil)))) (.node (o_45 v) (.node (o_57 v) (.node (o_75 v) (.node (o_107 v) (.node (o_175 v) .nil .nil) .nil) (.node (o_141 v) .nil .nil)) (.node (o_91 v) (.node (o_125 v) .nil .nil) (.node (o_157 v) .nil .nil))) (.node (o_65 v) (.node (o_83 v) (.node (o_117 v) (.node (o_183 v) .nil .nil) .nil) (.node (o_149 v) .nil .nil)) (.node (o_99 v) (.node (o_133 v) .nil .nil) (.node (o_167 v) .nil .nil)))))) (.node (b2 v) (.node (b4 v) (.node (b8 v) (.node (o_52 v) (.node (o_68 v) (.node (o_102 v) (.node (o_170 v) .nil .nil) .nil) (.node (o_136 v) .nil .nil)) (.node (o_86 v) (.node (o_120 v) (.node (o_186 v) .nil .nil) .nil) (.node (o_152 v) .nil .nil))) (.node (o_60 v) (.node (o_78 v) (.node (o_110 v) (.node (o_178 v) .nil .nil) .nil) (.node (o_144 v) .nil .nil)) (.node (o_94 v) (.node (o_128 v) .nil .nil) (.node (o_162 v) .nil .nil)))) (.node (o_160 v) (.node (o_56 v) (.node (o_74 v) (.node (o_106 v) (.node (o_174 v) .nil .nil) .nil) (.node (o_140 v) .nil .nil)) (.node (o_90 v) (.node (o_124 v) .nil .nil) (.node (o_156 v) .nil .nil))) (.node (o_64 v) (.node (o_82 v) (.node (o_114 v) (.node (o_182 v) .nil .nil) .nil) (.node (o_148 v) .nil .nil)) (.node (o_98 v) (.node (o_132 v) .nil .nil) (.node (o_166 v) .nil .nil))))) (.node (b6 v) (.node (b10 v) (.node (o_54 v) (.node (o_70 v) (.node (o_104 v) (.node (o_172 v) .nil .nil) .nil) (.node (o_138 v) .nil .nil)) (.node (o_88 v) (.node (o_122 v) (.node (o_188 v) .nil .nil) .nil) (.node (o_154 v) .nil .nil))) (.node (o_62 v) (.node (o_80 v) (.node (o_112 v) (.node (o_180 v) .nil .nil) .nil) (.node (o_146 v) .nil .nil)) (.node (o_96 v) (.node (o_130 v) .nil .nil) (.node (o_164 v) .nil .nil)))) (.node (o_46 v) (.node (o_58 v) (.node (o_76 v) (.node (o_108 v) (.node (o_176 v) .nil .nil) .nil) (.node (o_142 v) .nil .nil)) (.node (o_92 v) (.node (o_126 v) .nil .nil) (.node (o_158 v) .nil .nil))) (.node (o_66 v) (.node (o_84 v) (.node (o_118 v) (.node (o_184 v) .nil .nil) .nil) (.node (o_150 v) .nil .nil)) (.node (o_100 v) (.node (o_134 v) .nil .nil) (.node (o_168 v) .nil .nil)))))))
noncomputable def o_189 : PO := fun v => (.mk (.type k3) .none (.dict #[(de v z34 165 (.str z13 404)), (de v z35 166 .none), (de v z36 167 .none), (de v z37 168 (.builtin k4)), (de v z38 169 .none), (de v z39 170 (.ref 6)), (de v z40 171 (.ref 4)), (de v z41 173 (.str z3 172)), (de v z42 174 .none), (de v z43 193 (.ref 21)), (de v z44 197 (.int 12 196)), (de v z45 199 (.int 4 198)), (de v z46 201 (.int 16 200)), (de v z27 219 (.ref 31)), (de v z47 283 (.ref 72)), (de v z48 354 (.ref 114)), (de v z49 358 (.int 128 357)), (de v z8 384 (.ref 128)), (de v z2 396 (.ref 139)), (de v z50 403 (.ref 146)), (de v z51 431 (.ref 156)), (de v z52 438 (.ref 167)), (de v z53 450 (.ref 174)), (de v z54 463 (.ref 175)), (de v z55 470 (.ref 185))] 25) #[])
noncomputable def o_190 : PO := fun v => (.mk .none .none (.fields #[(.int 1 0), (.int 0 0), (.ref 20), (.int 8 0), (.int 0 0), (.ref 27), (.int 10 0), (.int 0 0), (.ref 40), (.int 33 0), (.int 0 0), (.ref 82), (.int 77 0), (.int 0 0), (.ref 124), (.int 81 0), (.int 0 0), (.ref 138), (.int 91 0), (.int 0 0), (.ref 145), (.int 94 0), (.int 0 0), (.ref 152), (.int 98 0), (.int 0 0), (.ref 166), (.int 102 0), (.int 0 0), (.ref 173), (.int 105 0), (.int 0 0), (.ref 184)]) #[])
noncomputable def o_191 : PO := fun v => (.mk (.type k0) .none (.seq #[] 0) #[])
noncomputable def o_192 : PO := fun v => (.mk (.type k7) .none (.fields #[(.builtin k8), (.type k9)]) #[])
noncomputable def o_193 : PO := fun v => (.mk (.type k3) .none (.dict #[(de v z24 413 (.str z13 404)), (de v z26 415 (.str z51 414)), (de v z28 417 (.int 94 416)), (de v z194 419 (.int 4865 418)), (de v z195 421 (.int 4866 420)), (de v z196 423 (.int 4867 422)), (de v z29 424 (.ref 154))] 7) #[])
noncomputable def o_194 : PO := fun v => (.mk (.type k0) .none (.seq #[] 0) #[])
noncomputable def o_195 : PO := fun v => (.mk .none .none (.fields #[]) #[])
noncomputable def o_196 : PO := fun v => (.mk (.type k1) .none (.fields #[(.str z51 408), (.str z51 409), (.str z3 410), (.int 94 0), (.int 0 0), (.int 0 0), (.int 0 0), (.int 0 0), (.ref 150), (.bool .false), (.int 181 0), (.ref 151), .none, .none, .none, .none, (.int 411 0), (.int 94 0), (.str z3 412)]) #[])
noncomputable def o_197 : PO := fun v => (.mk (.type k2) .none .plain #[(.some (.ref 152)), (.some (.ref 3)), (.some (.ref 149)), .none, (.some (.str z13 404)), .none, (.some (.ref 0))])
noncomputable def o_198 : PO := fun v => (.mk (.type k0) .none (.seq #[] 0) #[])
noncomputable def o_199 : PO := fun v => (.mk (.type k3) .none (.dict #[(de v z24 413 (.str z13 404)), (de v z28 417 (.int 94 416)), (de v z194 419 (.int 4865 418)), (de v z195 421 (.int 4866 420)), (de v z196 423 (.int 4867 422)), (de v z29 424 (.ref 154)), (de v z23 426 (.ref 157)), (de v z68 428 (.ref 158)), (de v z35 429 .none)] 4) #[])
noncomputable def o_200 : PO := fun v => (.mk (.type k9) .none (.cls (.mk z51 [(.type k12)] [(.ref 156), (.type k12)] 155 z51 .true [] [] .false .none .false)) #[.none, .none, (.some (.str z51 406)), (.some (.str z51 414)), (.some (.builtin k18)), (.some (.bool .true))])
noncomputable def o_201 : PO := fun v => (.mk (.type k14) .none (.fields #[(.str z23 425), (.ref 156), (.builtin k19), (.builtin k20)]) #[])
noncomputable def o_202 : PO := fun v => (.mk (.type k14) .none (.fields #[(.str z68 427), (.ref 156), (.builtin k15), .none]) #[])
noncomputable def o_203 : PO := fun v => (.mk (.type k16) .none (.fields #[(.ref 156), (.ref 156), (.ref 156)]) #[])
noncomputable def o_204 : PO := fun v => (.mk (.type k7) .none (.fields #[(.builtin k17), (.ref 156)]) #[])
noncomputable def o_205 : PO := fun v => (.mk (.type k0) .none (.seq #[] 0) #[])
noncomputable def o_206 : PO := fun v => (.mk .none .none (.fields #[]) #[])
noncomputable def o_207 : PO := fun v => (.mk (.type k0) .none (.seq #[(.str z132 435)] 0) #[])
noncomputable def o_208 : PO := fun v => (.mk (.type k0) .none (.seq #[] 0) #[])
noncomputable def o_209 : PO := fun v => (.mk .none .none (.func (.mk z52 z52 (fA (sg PB 15)) (.stmts (fB (sg PB 15))) (fC (sg PB 15)) 0 [] .none .none .none .none .none .none .none 0)) #[])
noncomputable def o_210 : PO := fun v => (.mk (.type k1) .none (.fields #[(.str z52 432), (.str z52 433), (.str z3 434), (.int 98 0), (.int 1 0), (.int 0 0), (.int 0 0), (.int 3 0), (.ref 161), (.bool .true), (.int 181 0), (.ref 162), .none, (.ref 163), (.ref 164), (.ref 165), (.int 436 0), (.int 98 0), (.str z3 437)]) #[])
noncomputable def o_211 : PO := fun v => (.mk (.type k5) .none (.func (.mk z52 z52 (fA (sg PB 15)) (.stmts (fB (sg PB 15))) (fC (sg PB 15)) 3 [] .none .none .none (.str z13 404) .none (.ref 166) .none 0)) #[])
noncomputable def o_212 : PO := fun v => (.mk (.type k0) .none (.seq #[] 0) #[])
noncomputable def o_213 : PO := fun v => (.mk .none .none (.fields #[]) #[])
noncomputable def o_214 : PO := fun v => (.mk (.type k0) .none (.seq #[(.str z15 442), (.str z16 443), (.str z17 444), (.str z18 445), (.str z19 446), (.str z20 447)] 0) #[])
noncomputable def o_215 : PO := fun v => (.mk (.type k0) .none (.seq #[] 0) #[])
noncomputable def o_216 : PO := fun v => (.mk .none .none (.func (.mk z53 z53 (fA (sg PB 16)) (.stmts (fB (sg PB 16))) (fC (sg PB 16)) 0 [] .none .none .none .none .none .none .none 0)) #[])
noncomputable def o_217 : PO := fun v => (.mk (.type k1) .none (.fields #[(.str z53 439), (.str z53 440), (.str z3 441), (.int 102 0), (.int 6 0), (.int 0 0), (.int 0 0), (.int 3 0), (.ref 168), (.bool .true), (.int 181 0), (.ref 169), .none, (.ref 170), (.ref 171), (.ref 172), (.int 448 0), (.int 102 0), (.str z3 449)]) #[])
noncomputable def o_218 : PO := fun v => (.mk (.type k5) .none (.func (.mk z53 z53 (fA (sg PB 16)) (.stmts (fB (sg PB 16))) (fC (sg PB 16)) 3 [] .none .none .none (.str z13 404) .none (.ref 173) .none 0)) #[])
noncomputable def o_219 : PO := fun v => (.mk (.type k3) .none (.dict #[(.mk 4865 (.int 4865 451) (.ref 176)), (.mk 4866 (.int 4866 454) (.ref 177)), (.mk 4867 (.int 4867 457) (.ref 178))] 3) #[])
noncomputable def o_220 : PO := fun v => (.mk (.type k0) .none (.seq #[(.bytes #[97, 101, 115, 45, 49, 50, 56, 45, 101, 99, 98] 452), (.bytes #[97, 101, 115, 45, 49, 50, 56, 45, 103, 99, 109] 453)] 0) #[])
noncomputable def o_221 : PO := fun v => (.mk (.type k0) .none (.seq #[(.bytes #[97, 101, 115, 45, 50, 53, 54, 45, 101, 99, 98] 455), (.bytes #[97, 101, 115, 45, 50, 53, 54, 45, 103, 99, 109] 456)] 0) #[])
noncomputable def o_222 : PO := fun v => (.mk (.type k0) .none (.seq #[(.bytes #[99, 104, 97, 99, 104, 97, 50, 48] 458), (.bytes #[99, 104, 97, 99, 104, 97, 50, 48, 45, 112, 111, 108, 121, 49, 51, 48, 53] 459)] 0) #[])
noncomputable def o_223 : PO := fun v => (.mk (.type k0) .none (.seq #[] 0) #[])
noncomputable def o_224 : PO := fun v => (.mk .none .none (.fields #[]) #[])
noncomputable def o_225 : PO := fun v => (.mk (.type k0) .none (.seq #[(.str z67 467)] 0) #[])
noncomputable def o_226 : PO := fun v => (.mk (.type k0) .none (.seq #[] 0) #[])
noncomputable def o_227 : PO := fun v => (.mk .none .none (.func (.mk z55 z55 (fA (sg PB 18)) (.stmts (fB (sg PB 18))) (fC (sg PB 18)) 0 [] .none .none .none .none .none .none .none 0)) #[])
noncomputable def o_228 : PO := fun v => (.mk (.type k1) .none (.fields #[(.str z55 464), (.str z55 465), (.str z3 466), (.int 105 0), (.int 1 0), (.int 0 0), (.int 0 0), (.int 3 0), (.ref 179), (.bool .true), (.int 181 0), (.ref 180), .none, (.ref 181), (.ref 182), (.ref 183), (.int 468 0), (.int 105 0), (.str z3 469)]) #[])
noncomputable def o_229 : PO := fun v => (.mk (.type k5) .none (.func (.mk z55 z55 (fA (sg PB 18)) (.stmts (fB (sg PB 18))) (fC (sg PB 18)) 3 [] .none .none .none (.str z13 404) .none (.ref 184) .none 0)) #[])
noncomputable def tree_229 : PT := fun v => (.node (b0 v) (.node (b1 v) (.node (o_189 v) (.node (b7 v) (.node (o_51 v) (.node (o_67 v) (.node (o_101 v) (.node (o_169 v) .nil .nil) .nil) (.node (o_135 v) (.node (o_203 v) .nil .nil) .nil)) (.node (o_85 v) (.node (o_119 v) (.node (o_185 v) .nil .nil) .nil) (.node (o_151 v) (.node (o_219 v) .nil .nil) .nil))) (.node (o_59 v) (.node (o_77 v) (.node (o_109 v) (.node (o_177 v) .nil .nil) .nil) (.node (o_143 v) (.node (o_211 v) .nil .nil) .nil)) (.node (o_93 v) (.node (o_127 v) (.node (o_195 v) .nil .nil) .nil) (.node (o_161 v) (.node (o_227 v) .nil .nil) .nil)))) (.node (o_43 v) (.node (o_55 v) (.node (o_73 v) (.node (o_105 v) (.node (o_173 v) .nil .nil) .nil) (.node (o_139 v) (.node (o_207 v) .nil .nil) .nil)) (.node (o_89 v) (.node (o_123 v) (.node (o_191 v) .nil .nil) .nil) (.node (o_155 v) (.node (o_223 v) .nil .nil) .nil))) (.node (o_63 v) (.node (o_81 v) (.node (o_113 v) (.node (o_181 v) .nil .nil) .nil) (.node (o_147 v) (.node (o_215 v) .nil .nil) .nil)) (.node (o_97 v) (.node (o_131 v) (.node (o_199 v) .nil .nil) .nil) (.node (o_165 v) .nil .nil))))) (.node (b5 v) (.node (b9 v) (.node (o_53 v) (.node (o_69 v) (.node (o_103 v) (.node (o_171 v) .nil .nil) .nil) (.node (o_137 v) (.node (o_205 v) .nil .nil) .nil)) (.node (o_87 v) (.node (o_121 v) (.node (o_187 v) .nil .nil) .nil) (.node (o_153 v) (.node (o_221 v) .nil .nil) .nil))) (.node (o_61 v) (.node (o_79 v) (.node (o_111 v) (.node (o_179 v) .nil .nil) .nil) (.node (o_145 v) (.node (o_213 v) .nil .nil) .nil)) (.node (o_95 v) (.node (o_129 v) (.node (o_197 v) .nil .nil) .nil) (.node (o_163 v) (.node (o_229 v) .nil .nil) .nil)))) (.node (o_45 v) (.node (o_57 v) (.node (o_75 v) (.node (o_107 v) (.node (o_175 v) .nil .nil) .nil) (.node (o_141 v) (.node (o_209 v) .nil .nil) .nil)) (.node (o_91 v) (.node (o_125 v) (.node (o_193 v) .nil .nil) .nil) (.node (o_157 v) (.node (o_225 v) .nil .nil) .nil))) (.node (o_65 v) (.node (o_83 v) (.node (o_117 v) (.node (o_183 v) .nil .nil) .nil) (.node (o_149 v) (.node (o_217 v) .nil .nil) .nil)) (.node (o_99 v) (.node (o_133 v) (.node (o_201 v) .nil .nil) .nil) (.node (o_167 v) .nil .nil)))))) (.node (b2 v) (.node (b4 v) (.node (b8 v) (.node (o_52 v) (.node (o_68 v) (.node (o_102 v) (.node (o_170 v) .nil .nil) .nil) (.node (o_136 v) (.node (o_204 v) .nil .nil) .nil)) (.node (o_86 v) (.node (o_120 v) (.node (o_186 v) .nil .nil) .nil) (.node (o_152 v) (.node (o_220 v) .nil .nil) .nil))) (.node (o_60 v) (.node (o_78 v) (.node (o_110 v) (.node (o_178 v) .nil .nil) .nil) (.node (o_144 v) (.node (o_212 v) .nil .nil) .nil)) (.node (o_94 v) (.node (o_128 v) (.node (o_196 v) .nil .nil) .nil) (.node (o_162 v) (.node (o_228 v) .nil .nil) .nil)))) (.node (o_190 v) (.node (o_56 v) (.node (o_74 v) (.node (o_106 v) (.node (o_174 v) .nil .nil) .nil) (.node (o_140 v) (.node (o_208 v) .nil .nil) .nil)) (.node (o_90 v) (.node (o_124 v) (.node (o_192 v) .nil .nil) .nil) (.node (o_156 v) (.node (o_224 v) .nil .nil) .nil))) (.node (o_64 v) (.node (o_82 v) (.node (o_114 v) (.node (o_182 v) .nil .nil) .nil) (.node (o_148 v) (.node (o_216 v) .nil .nil) .nil)) (.node (o_98 v) (.node (o_132 v) (.node (o_200 v) .nil .nil) .nil) (.node (o_166 v) .nil .nil))))) (.node (b6 v) (.node (b10 v) (.node (o_54 v) (.node (o_70 v) (.node (o_104 v) (.node (o_172 v) .nil .nil) .nil) (.node (o_138 v) (.node (o_206 v) .nil .nil) .nil)) (.node (o_88 v) (.node (o_122 v) (.node (o_188 v) .nil .nil) .nil) (.node (o_154 v) (.node (o_222 v) .nil .nil) .nil))) (.node (o_62 v) (.node (o_80 v) (.node (o_112 v) (.node (o_180 v) .nil .nil) .nil) (.node (o_146 v) (.node (o_214 v) .nil .nil) .nil)) (.node (o_96 v) (.node (o_130 v) (.node (o_198 v) .nil .nil) .nil) (.node (o_164 v) .nil .nil)))) (.node (o_46 v) (.node (o_58 v) (.node (o_76 v) (.node (o_108 v) (.node (o_176 v) .nil .nil) .nil) (.node (o_142 v) (.node (o_210 v) .nil .nil) .nil)) (.node (o_92 v) (.node (o_126 v) (.node (o_194 v) .nil .nil) .nil) (.node (o_158 v) (.node (o_226 v) .nil .nil) .nil))) (.node (o_66 v) (.node (o_84 v) (.node (o_118 v) (.node (o_184 v) .nil .nil) .nil) (.node (o_150 v) (.node (o_218 v) .nil .nil) .nil)) (.node (o_100 v) (.node (o_134 v) (.node (o_202 v) .nil .nil) .nil) (.node (o_168 v) .nil .nil)))))))
noncomputable def o_232 : PO := fun v => (.mk (.type k3) .none (.dict #[(de v z34 165 (.str z13 404)), (de v z35 166 .none), (de v z36 167 .none), (de v z37 168 (.builtin k4)), (de v z38 169 .none), (de v z39 170 (.ref 6)), (de v z40 171 (.ref 4)), (de v z41 173 (.str z3 172)), (de v z42 174 .none), (de v z43 193 (.ref 21)), (de v z44 197 (.int 12 196)), (de v z45 199 (.int 4 198)), (de v z46 201 (.int 16 200)), (de v z27 219 (.ref 31)), (de v z47 283 (.ref 72)), (de v z48 354 (.ref 114)), (de v z49 358 (.int 128 357)), (de v z8 384 (.ref 128)), (de v z2 396 (.ref 139)), (de v z50 403 (.ref 146)), (de v z51 431 (.ref 156)), (de v z52 438 (.ref 167)), (de v z53 450 (.ref 174)), (de v z54 463 (.ref 175)), (de v z55 470 (.ref 185)), (de v z10 486 (.ref 195)), (de v z114 498 (.ref 204))] 27) #[])
noncomputable def o_233 : PO := fun v => (.mk .none .none (.fields #[(.int 1 0), (.int 0 0), (.ref 20), (.int 8 0), (.int 0 0), (.ref 27), (.int 10 0), (.int 0 0), (.ref 40), (.int 33 0), (.int 0 0), (.ref 82), (.int 77 0), (.int 0 0), (.ref 124), (.int 81 0), (.int 0 0), (.ref 138), (.int 91 0), (.int 0 0), (.ref 145), (.int 94 0), (.int 0 0), (.ref 152), (.int 98 0), (.int 0 0), (.ref 166), (.int 102 0), (.int 0 0), (.ref 173), (.int 105 0), (.int 0 0), (.ref 184), (.int 107 0), (.int 0 0), (.ref 191), (.int 109 0), (.int 0 0), (.ref 203)]) #[])
noncomputable def o_234 : PO := fun v => (.mk (.type k9) .none (.cls (.mk z27 [(.type k6)] [(.ref 31), (.type k6), (.type k10), (.type k11), (.type k12)] 30 z27 .true [] [(.ref 195)] .false .none .false)) #[(.some (.ref 22)), .none, (.some (.str z27 202)), (.some (.str z27 210)), (.some (.builtin k13)), (.some (.bool .true))])
noncomputable def o_235 : PO := fun v => (.mk (.type k0) .none (.seq #[(.ref 31)] 0) #[])
noncomputable def o_236 : PO := fun v => (.mk (.type k7) .none (.fields #[(.builtin k8), (.type k9)]) #[])
noncomputable def o_237 : PO := fun v => (.mk (.type k3) .none (.dict #[(de v z24 478 (.str z13 404)), (de v z26 480 (.str z10 479)), (de v z28 482 (.int 107 481)), (de v z29 483 (.ref 193))] 4) #[])
noncomputable def o_238 : PO := fun v => (.mk (.type k0) .none (.seq #[] 0) #[])
noncomputable def o_239 : PO := fun v => (.mk .none .none (.fields #[]) #[])
noncomputable def o_240 : PO := fun v => (.mk (.type k1) .none (.fields #[(.str z10 473), (.str z10 474), (.str z3 475), (.int 107 0), (.int 0 0), (.int 0 0), (.int 0 0), (.int 0 0), (.ref 189), (.bool .false), (.int 181 0), (.ref 190), .none, .none, .none, .none, (.int 476 0), (.int 107 0), (.str z3 477)]) #[])
noncomputable def o_241 : PO := fun v => (.mk (.type k2) .none .plain #[(.some (.ref 191)), (.some (.ref 3)), (.some (.ref 188)), .none, (.some (.str z13 404)), .none, (.some (.ref 0))])
noncomputable def o_242 : PO := fun v => (.mk (.type k0) .none (.seq #[] 0) #[])
noncomputable def o_243 : PO := fun v => (.mk (.type k3) .none (.dict #[(de v z24 478 (.str z13 404)), (de v z28 482 (.int 107 481)), (de v z29 483 (.ref 193)), (de v z35 484 .none)] 2) #[])
noncomputable def o_244 : PO := fun v => (.mk (.type k9) .none (.cls (.mk z10 [(.ref 31)] [(.ref 195), (.ref 31), (.type k6), (.type k10), (.type k11), (.type k12)] 194 z10 .true [] [] .false .none .false)) #[(.some (.ref 186)), .none, (.some (.str z10 471)), (.some (.str z10 479)), (.some (.builtin k13)), (.some (.bool .true))])
noncomputable def o_245 : PO := fun v => (.mk (.type k16) .none (.fields #[(.ref 195), (.ref 195), (.ref 195)]) #[])
noncomputable def o_246 : PO := fun v => (.mk (.type k7) .none (.fields #[(.builtin k17), (.ref 195)]) #[])
noncomputable def o_247 : PO := fun v => (.mk (.type k0) .none (.seq #[] 0) #[])
noncomputable def o_248 : PO := fun v => (.mk .none .none (.fields #[]) #[])
noncomputable def o_249 : PO := fun v => (.mk (.type k0) .none (.seq #[(.str z15 490), (.str z132 491), (.str z17 492), (.str z133 493), (.str z16 494), (.str z134 495)] 0) #[])
noncomputable def o_250 : PO := fun v => (.mk (.type k0) .none (.seq #[] 0) #[])
noncomputable def o_251 : PO := fun v => (.mk .none .none (.func (.mk z114 z114 (fA (sg PB 20)) (.stmts (fB (sg PB 20))) (fC (sg PB 20)) 0 [] .none .none .none .none .none .none .none 0)) #[])
noncomputable def o_252 : PO := fun v => (.mk (.type k1) .none (.fields #[(.str z114 487), (.str z114 488), (.str z3 489), (.int 109 0), (.int 1 0), (.int 0 0), (.int 3 0), (.int 3 0), (.ref 198), (.bool .true), (.int 181 0), (.ref 199), .none, (.ref 200), (.ref 201), (.ref 202), (.int 496 0), (.int 109 0), (.str z3 497)]) #[])
noncomputable def o_253 : PO := fun v => (.mk (.type k5) .none (.func (.mk z114 z114 (fA (sg PB 20)) (.stmts (fB (sg PB 20))) (fC (sg PB 20)) 3 [] .none .none .none (.str z13 404) .none (.ref 203) .none 0)) #[])
noncomputable def tree_253 : PT := fun v => (.node (b0 v) (.node (b1 v) (.node (o_232 v) (.node (b7 v) (.node (o_51 v) (.node (o_234 v) (.node (o_101 v) (.node (o_169 v) .nil .nil) (.node (o_240 v) .nil .nil)) (.node (o_135 v) (.node (o_203 v) .nil .nil) .nil)) (.node (o_85 v) (.node (o_119 v) (.node (o_185 v) .nil .nil) .nil) (.node (o_151 v) (.node (o_219 v) .nil .nil) .nil))) (.node (o_59 v) (.node (o_77 v) (.node (o_109 v) (.node (o_177 v) .nil .nil) (.node (o_248 v) .nil .nil)) (.node (o_143 v) (.node (o_211 v) .nil .nil) .nil)) (.node (o_93 v) (.node (o_127 v) (.node (o_195 v) .nil .nil) .nil) (.node (o_161 v) (.node (o_227 v) .nil .nil) .nil)))) (.node (o_43 v) (.node (o_55 v) (.node (o_73 v) (.node (o_105 v) (.node (o_173 v) .nil .nil) (.node (o_244 v) .nil .nil)) (.node (o_139 v) (.node (o_207 v) .nil .nil) .nil)) (.node (o_89 v) (.node (o_123 v) (.node (o_191 v) .nil .nil) .nil) (.node (o_155 v) (.node (o_223 v) .nil .nil) .nil))) (.node (o_63 v) (.node (o_81 v) (.node (o_113 v) (.node (o_181 v) .nil .nil) (.node (o_252 v) .nil .nil)) (.node (o_147 v) (.node (o_215 v) .nil .nil) .nil)) (.node (o_97 v) (.node (o_131 v) (.node (o_199 v) .nil .nil) .nil) (.node (o_165 v) (.node (o_236 v) .nil .nil) .nil))))) (.node (b5 v) (.node (b9 v) (.node (o_53 v) (.node (o_69 v) (.node (o_103 v) (.node (o_171 v) .nil .nil) (.node (o_242 v) .nil .nil)) (.node (o_137 v) (.node (o_205 v) .nil .nil) .nil)) (.node (o_87 v) (.node (o_121 v) (.node (o_187 v) .nil .nil) .nil) (.node (o_153 v) (.node (o_221 v) .nil .nil) .nil))) (.node (o_61 v) (.node (o_79 v) (.node (o_111 v) (.node (o_179 v) .nil .nil) (.node (o_250 v) .nil .nil)) (.node (o_145 v) (.node (o_213 v) .nil .nil) .nil)) (.node (o_95 v) (.node (o_129 v) (.node (o_197 v) .nil .nil) .nil) (.node (o_163 v) (.node (o_229 v) .nil .nil) .nil)))) (.node (o_45 v) (.node (o_57 v) (.node (o_75 v) (.node (o_107 v) (.node (o_175 v) .nil .nil) (.node (o_246 v) .nil .nil)) (.node (o_141 v) (.node (o_209 v) .nil .nil) .nil)) (.node (o_91 v) (.node (o_125 v) (.node (o_193 v) .nil .nil) .nil) (.node (o_157 v) (.node (o_225 v) .nil .nil) .nil))) (.node (o_65 v) (.node (o_83 v) (.node (o_117 v) (.node (o_183 v) .nil .nil) .nil) (.node (o_149 v) (.node (o_217 v) .nil .nil) .nil)) (.node (o_99 v) (.node (o_133 v) (.node (o_201 v) .nil .nil) .nil) (.node (o_167 v) (.node (o_238 v) .nil .nil) .nil)))))) (.node (b2 v) (.node (b4 v) (.node (b8 v) (.node (o_52 v) (.node (o_68 v) (.node (o_102 v) (.node (o_170 v) .nil .nil) (.node (o_241 v) .nil .nil)) (.node (o_136 v) (.node (o_204 v) .nil .nil) .nil)) (.node (o_86 v) (.node (o_120 v) (.node (o_186 v) .nil .nil) .nil) (.node (o_152 v) (.node (o_220 v) .nil .nil) .nil))) (.node (o_60 v) (.node (o_78 v) (.node (o_110 v) (.node (o_178 v) .nil .nil) (.node (o_249 v) .nil .nil)) (.node (o_144 v) (.node (o_212 v) .nil .nil) .nil)) (.node (o_94 v) (.node (o_128 v) (.node (o_196 v) .nil .nil) .nil) (.node (o_162 v) (.node (o_228 v) .nil .nil) .nil)))) (.node (o_233 v) (.node (o_56 v) (.node (o_74 v) (.node (o_106 v) (.node (o_174 v) .nil .nil) (.node (o_245 v) .nil .nil)) (.node (o_140 v) (.node (o_208 v) .nil .nil) .nil)) (.node (o_90 v) (.node (o_124 v) (.node (o_192 v) .nil .nil) .nil) (.node (o_156 v) (.node (o_224 v) .nil .nil) .nil))) (.node (o_64 v) (.node (o_82 v) (.node (o_114 v) (.node (o_182 v) .nil .nil) (.node (o_253 v) .nil .nil)) (.node (o_148 v) (.node (o_216 v) .nil .nil) .nil)) (.node (o_98 v) (.node (o_132 v) (.node (o_200 v) .nil .nil) .nil) (.node (o_166 v) (.node (o_237 v) .nil .nil) .nil))))) (.node (b6 v) (.node (b10 v) (.node (o_54 v) (.node (o_70 v) (.node (o_104 v) (.node (o_172 v) .nil .nil) (.node (o_243 v) .nil .nil)) (.node (o_138 v) (.node (o_206 v) .nil .nil) .nil)) (.node (o_88 v) (.node (o_122 v) (.node (o_188 v) .nil .nil) .nil) (.node (o_154 v) (.node (o_222 v) .nil .nil) .nil))) (.node (o_62 v) (.node (o_80 v) (.node (o_112 v) (.node (o_180 v) .nil .nil) (.node (o_251 v) .nil .nil)) (.node (o_146 v) (.node (o_214 v) .nil .nil) .nil)) (.node (o_96 v) (.node (o_130 v) (.node (o_198 v) .nil .nil) .nil) (.node (o_164 v) (.node (o_235 v) .nil .nil) .nil)))) (.node (o_46 v) (.node (o_58 v) (.node (o_76 v) (.node (o_108 v) (.node (o_176 v) .nil .nil) (.node (o_247 v) .nil .nil)) (.node (o_142 v) (.node (o_210 v) .nil .nil) .nil)) (.node (o_92 v) (.node (o_126 v) (.node (o_194 v) .nil .nil) .nil) (.node (o_158 v) (.node (o_226 v) .nil .nil) .nil))) (.node (o_66 v) (.node (o_84 v) (.node (o_118 v) (.node (o_184 v) .nil .nil) .nil) (.node (o_150 v) (.node (o_218 v) .nil .nil) .nil)) (.node (o_100 v) (.node (o_134 v) (.node (o_202 v) .nil .nil) .nil) (.node (o_168 v) (.node (o_239 v) .nil .nil) .nil)))))))
noncomputable def o_254 : PO := fun v => (.mk (.type k3) .none (.dict #[(de v z34 165 (.str z13 404)), (de v z35 166 .none), (de v z36 167 .none), (de v z37 168 (.builtin k4)), (de v z38 169 .none), (de v z39 170 (.ref 6)), (de v z40 171 (.ref 4)), (de v z41 173 (.str z3 172)), (de v z42 174 .none), (de v z43 193 (.ref 21)), (de v z44 197 (.int 12 196)), (de v z45 199 (.int 4 198)), (de v z46 201 (.int 16 200)), (de v z27 219 (.ref 31)), (de v z47 283 (.ref 72)), (de v z48 354 (.ref 114)), (de v z49 358 (.int 128 357)), (de v z8 384 (.ref 128)), (de v z2 396 (.ref 139)), (de v z50 403 (.ref 146)), (de v z51 431 (.ref 156)), (de v z52 438 (.ref 167)), (de v z53 450 (.ref 174)), (de v z54 463 (.ref 175)), (de v z55 470 (.ref 185)), (de v z10 486 (.ref 195)), (de v z114 498 (.ref 204)), (de v z123 596 (.ref 257))] 28) #[])
noncomputable def o_255 : PO := fun v => (.mk .none .none (.fields #[(.int 1 0), (.int 0 0), (.ref 20), (.int 8 0), (.int 0 0), (.ref 27), (.int 10 0), (.int 0 0), (.ref 40), (.int 33 0), (.int 0 0), (.ref 82), (.int 77 0), (.int 0 0), (.ref 124), (.int 81 0), (.int 0 0), (.ref 138), (.int 91 0), (.int 0 0), (.ref 145), (.int 94 0), (.int 0 0), (.ref 152), (.int 98 0), (.int 0 0), (.ref 166), (.int 102 0), (.int 0 0), (.ref 173), (.int 105 0), (.int 0 0), (.ref 184), (.int 107 0), (.int 0 0), (.ref 191), (.int 109 0), (.int 0 0), (.ref 203), (.int 119 0), (.int 0 0), (.ref 210)]) #[])
noncomputable def o_256 : PO := fun v => (.mk (.type k0) .none (.seq #[] 0) #[])
noncomputable def o_257 : PO := fun v => (.mk (.type k7) .none (.fields #[(.builtin k8), (.type k9)]) #[])
noncomputable def o_258 : PO := fun v => (.mk (.type k3) .none (.dict #[(de v z24 506 (.str z13 404)), (de v z26 508 (.str z123 507)), (de v z28 510 (.int 119 509)), (de v z128 522 (.ref 219)), (de v z97 539 (.ref 226)), (de v z112 550 (.ref 233)), (de v z71 557 (.ref 240)), (de v z4 572 (.ref 247)), (de v z95 579 (.ref 254)), (de v z29 589 (.ref 255))] 10) #[])
noncomputable def o_259 : PO := fun v => (.mk (.type k0) .none (.seq #[] 0) #[])
noncomputable def o_260 : PO := fun v => (.mk .none .none (.fields #[(.int 121 0), (.int 4 0), (.ref 218), (.int 132 0), (.int 4 0), (.ref 225), (.int 147 0), (.int 4 0), (.ref 232), (.int 152 0), (.int 4 0), (.ref 239), (.int 155 0), (.int 4 0), (.ref 246), (.int 165 0), (.int 4 0), (.ref 253)]) #[])
noncomputable def o_261 : PO := fun v => (.mk (.type k1) .none (.fields #[(.str z123 501), (.str z123 502), (.str z3 503), (.int 119 0), (.int 0 0), (.int 0 0), (.int 0 0), (.int 0 0), (.ref 208), (.bool .false), (.int 181 0), (.ref 209), .none, .none, .none, .none, (.int 504 0), (.int 119 0), (.str z3 505)]) #[])
noncomputable def o_262 : PO := fun v => (.mk (.type k2) .none .plain #[(.some (.ref 210)), (.some (.ref 3)), (.some (.ref 207)), .none, (.some (.str z13 404)), .none, (.some (.ref 0))])
noncomputable def o_263 : PO := fun v => (.mk (.type k0) .none (.seq #[(.int 0 511), (.ref 185), (.ref 185)] 0) #[])
noncomputable def o_264 : PO := fun v => (.mk (.type k0) .none (.seq #[] 0) #[])
noncomputable def o_265 : PO := fun v => (.mk .none .none (.fields #[]) #[])
noncomputable def o_266 : PO := fun v => (.mk (.type k0) .none (.seq #[(.str z30 515), (.str z15 516), (.str z56 517), (.str z100 518), (.str z101 519)] 0) #[])
noncomputable def o_267 : PO := fun v => (.mk (.type k0) .none (.seq #[] 0) #[])
noncomputable def o_268 : PO := fun v => (.mk .none .none (.func (.mk z128 z129 (fA (sg (fB (sg PB 21)) 0)) (.stmts (fB (sg (fB (sg PB 21)) 0))) (fC (sg (fB (sg PB 21)) 0)) 0 [] .none .none .none .none .none .none .none 0)) #[])
noncomputable def o_269 : PO := fun v => (.mk (.type k1) .none (.fields #[(.str z128 512), (.str z129 513), (.str z3 514), (.int 121 0), (.int 5 0), (.int 0 0), (.int 0 0), (.int 3 0), (.ref 213), (.bool .true), (.int 181 0), (.ref 214), .none, (.ref 215), (.ref 216), (.ref 217), (.int 520 0), (.int 121 0), (.str z3 521)]) #[])
noncomputable def o_270 : PO := fun v => (.mk (.type k5) .none (.func (.mk z128 z129 (fA (sg (fB (sg PB 21)) 0)) (.stmts (fB (sg (fB (sg PB 21)) 0))) (fC (sg (fB (sg PB 21)) 0)) 3 [] (.ref 212) .none .none (.str z13 404) .none (.ref 218) .none 0)) #[])
noncomputable def o_271 : PO := fun v => (.mk (.type k0) .none (.seq #[] 0) #[])
noncomputable def o_272 : PO := fun v => (.mk .none .none (.fields #[]) #[])
noncomputable def o_273 : PO := fun v => (.mk (.type k0) .none (.seq #[(.str z30 526), (.str z77 527), (.str z154 528), (.str z155 529), (.str z102 530), (.str z90 531), (.str z148 532), (.str z104 533), (.str z66 534), (.str z56 535), (.str z156 536)] 0) #[])
noncomputable def o_274 : PO := fun v => (.mk (.type k0) .none (.seq #[] 0) #[])
noncomputable def o_275 : PO := fun v => (.mk .none .none (.func (.mk z97 z111 (fA (sg (fB (sg PB 21)) 1)) (.stmts (fB (sg (fB (sg PB 21)) 1))) (fC (sg (fB (sg PB 21)) 1)) 0 [] .none .none .none .none .none .none .none 0)) #[])
noncomputable def o_276 : PO := fun v => (.mk (.type k1) .none (.fields #[(.str z97 523), (.str z111 524), (.str z3 525), (.int 132 0), (.int 4 0), (.int 0 0), (.int 0 0), (.int 3 0), (.ref 220), (.bool .true), (.int 181 0), (.ref 221), .none, (.ref 222), (.ref 223), (.ref 224), (.int 537 0), (.int 132 0), (.str z3 538)]) #[])
noncomputable def o_277 : PO := fun v => (.mk (.type k5) .none (.func (.mk z97 z111 (fA (sg (fB (sg PB 21)) 1)) (.stmts (fB (sg (fB (sg PB 21)) 1))) (fC (sg (fB (sg PB 21)) 1)) 3 [] .none .none .none (.str z13 404) .none (.ref 225) .none 0)) #[])
noncomputable def o_278 : PO := fun v => (.mk (.type k0) .none (.seq #[] 0) #[])
noncomputable def o_279 : PO := fun v => (.mk .none .none (.fields #[]) #[])
noncomputable def o_280 : PO := fun v => (.mk (.type k0) .none (.seq #[(.str z30 543), (.str z102 544), (.str z159 545), (.str z90 546), (.str z103 547)] 0) #[])
noncomputable def o_281 : PO := fun v => (.mk (.type k0) .none (.seq #[] 0) #[])
noncomputable def o_282 : PO := fun v => (.mk .none .none (.func (.mk z112 z113 (fA (sg (fB (sg PB 21)) 2)) (.stmts (fB (sg (fB (sg PB 21)) 2))) (fC (sg (fB (sg PB 21)) 2)) 0 [] .none .none .none .none .none .none .none 0)) #[])
noncomputable def o_283 : PO := fun v => (.mk (.type k1) .none (.fields #[(.str z112 540), (.str z113 541), (.str z3 542), (.int 147 0), (.int 4 0), (.int 0 0), (.int 0 0), (.int 3 0), (.ref 227), (.bool .true), (.int 181 0), (.ref 228), .none, (.ref 229), (.ref 230), (.ref 231), (.int 548 0), (.int 147 0), (.str z3 549)]) #[])
noncomputable def o_284 : PO := fun v => (.mk (.type k5) .none (.func (.mk z112 z113 (fA (sg (fB (sg PB 21)) 2)) (.stmts (fB (sg (fB (sg PB 21)) 2))) (fC (sg (fB (sg PB 21)) 2)) 3 [] .none .none .none (.str z13 404) .none (.ref 232) .none 0)) #[])
noncomputable def o_285 : PO := fun v => (.mk (.type k0) .none (.seq #[] 0) #[])
noncomputable def o_286 : PO := fun v => (.mk .none .none (.fields #[]) #[])
noncomputable def o_287 : PO := fun v => (.mk (.type k0) .none (.seq #[(.str z30 554)] 0) #[])
noncomputable def o_288 : PO := fun v => (.mk (.type k0) .none (.seq #[] 0) #[])
noncomputable def o_289 : PO := fun v => (.mk .none .none (.func (.mk z71 z72 (fA (sg (fB (sg PB 21)) 3)) (.stmts (fB (sg (fB (sg PB 21)) 3))) (fC (sg (fB (sg PB 24)) 5)) 0 [] .none .none .none .none .none .none .none 0)) #[])
noncomputable def o_290 : PO := fun v => (.mk (.type k1) .none (.fields #[(.str z71 551), (.str z72 552), (.str z3 553), (.int 152 0), (.int 1 0), (.int 0 0), (.int 0 0), (.int 3 0), (.ref 234), (.bool .true), (.int 181 0), (.ref 235), .none, (.ref 236), (.ref 237), (.ref 238), (.int 555 0), (.int 152 0), (.str z3 556)]) #[])
noncomputable def o_291 : PO := fun v => (.mk (.type k5) .none (.func (.mk z71 z72 (fA (sg (fB (sg PB 21)) 3)) (.stmts (fB (sg (fB (sg PB 21)) 3))) (fC (sg (fB (sg PB 24)) 5)) 3 [] .none .none .none (.str z13 404) .none (.ref 239) .none 0)) #[])
noncomputable def o_292 : PO := fun v => (.mk (.type k0) .none (.seq #[] 0) #[])
noncomputable def o_293 : PO := fun v => (.mk .none .none (.fields #[]) #[])
noncomputable def o_294 : PO := fun v => (.mk (.type k0) .none (.seq #[(.str z30 561), (.str z132 562), (.str z17 563), (.str z133 564), (.str z189 565), (.str z190 566), (.str z32 567), (.str z33 568), (.str z145 569)] 0) #[])
noncomputable def o_295 : PO := fun v => (.mk (.type k0) .none (.seq #[] 0) #[])
noncomputable def o_296 : PO := fun v => (.mk .none .none (.func (.mk z4 z5 (fA (sg (fB (sg PB 21)) 4)) (.stmts (fB (sg (fB (sg PB 21)) 4))) (fC (sg (fB (sg PB 21)) 4)) 0 [] .none .none .none .none .none .none .none 0)) #[])
noncomputable def o_297 : PO := fun v => (.mk (.type k1) .none (.fields #[(.str z4 558), (.str z5 559), (.str z3 560), (.int 155 0), (.int 1 0), (.int 0 0), (.int 3 0), (.int 3 0), (.ref 241), (.bool .true), (.int 181 0), (.ref 242), .none, (.ref 243), (.ref 244), (.ref 245), (.int 570 0), (.int 155 0), (.str z3 571)]) #[])
noncomputable def o_298 : PO := fun v => (.mk (.type k5) .none (.func (.mk z4 z5 (fA (sg (fB (sg PB 21)) 4)) (.stmts (fB (sg (fB (sg PB 21)) 4))) (fC (sg (fB (sg PB 21)) 4)) 3 [] .none .none .none (.str z13 404) .none (.ref 246) .none 0)) #[])
noncomputable def o_299 : PO := fun v => (.mk (.type k0) .none (.seq #[] 0) #[])
noncomputable def o_300 : PO := fun v => (.mk .none .none (.fields #[]) #[])
noncomputable def o_301 : PO := fun v => (.mk (.type k0) .none (.seq #[(.str z30 576)] 0) #[])
noncomputable def o_302 : PO := fun v => (.mk (.type k0) .none (.seq #[] 0) #[])
noncomputable def o_303 : PO := fun v => (.mk .none .none (.func (.mk z95 z96 (fA (sg (fB (sg PB 21)) 5)) (.stmts (fB (sg (fB (sg PB 21)) 5))) (fC (sg (fB (sg PB 24)) 5)) 0 [] .none .none .none .none .none .none .none 0)) #[])
noncomputable def o_304 : PO := fun v => (.mk (.type k1) .none (.fields #[(.str z95 573), (.str z96 574), (.str z3 575), (.int 165 0), (.int 1 0), (.int 0 0), (.int 0 0), (.int 3 0), (.ref 248), (.bool .true), (.int 181 0), (.ref 249), .none, (.ref 250), (.ref 251), (.ref 252), (.int 577 0), (.int 165 0), (.str z3 578)]) #[])
noncomputable def o_305 : PO := fun v => (.mk (.type k5) .none (.func (.mk z95 z96 (fA (sg (fB (sg PB 21)) 5)) (.stmts (fB (sg (fB (sg PB 21)) 5))) (fC (sg (fB (sg PB 24)) 5)) 3 [] .none .none .none (.str z13 404) .none (.ref 253) .none 0)) #[])
noncomputable def o_306 : PO := fun v => (.mk (.type k0) .none (.seq #[(.str z142 580), (.str z143 581), (.str z144 582), (.str z132 583), (.str z145 584), (.str z56 585), (.str z15 586), (.str z17 587), (.str z133 588)] 0) #[])
noncomputable def o_307 : PO := fun v => (.mk (.type k3) .none (.dict #[(de v z24 506 (.str z13 404)), (de v z28 510 (.int 119 509)), (de v z128 522 (.ref 219)), (de v z97 539 (.ref 226)), (de v z112 550 (.ref 233)), (de v z71 557 (.ref 240)), (de v z4 572 (.ref 247)), (de v z95 579 (.ref 254)), (de v z29 589 (.ref 255)), (de v z23 591 (.ref 258)), (de v z68 593 (.ref 259)), (de v z35 594 .none)] 4) #[])
noncomputable def o_308 : PO := fun v => (.mk (.type k9) .none (.cls (.mk z123 [(.type k12)] [(.ref 257), (.type k12)] 256 z123 .true [] [] .false .none .false)) #[.none, .none, (.some (.str z123 499)), (.some (.str z123 507)), (.some (.builtin k18)), (.some (.bool .true))])
noncomputable def o_309 : PO := fun v => (.mk (.type k14) .none (.fields #[(.str z23 590), (.ref 257), (.builtin k19), (.builtin k20)]) #[])
noncomputable def o_310 : PO := fun v => (.mk (.type k14) .none (.fields #[(.str z68 592), (.ref 257), (.builtin k15), .none]) #[])
noncomputable def o_311 : PO := fun v => (.mk (.type k16) .none (.fields #[(.ref 257), (.ref 257), (.ref 257)]) #[])
noncomputable def o_312 : PO := fun v => (.mk (.type k7) .none (.fields #[(.builtin k17), (.ref 257)]) #[])
noncomputable def tree_312 : PT := fun v => (.node (b0 v) (.node (b1 v) (.node (o_254 v) (.node (b7 v) (.node (o_51 v) (.node (o_234 v) (.node (o_101 v) (.node (o_169 v) (.node (o_306 v) .nil .nil) .nil) (.node (o_240 v) .nil .nil)) (.node (o_135 v) (.node (o_203 v) .nil .nil) (.node (o_274 v) .nil .nil))) (.node (o_85 v) (.node (o_119 v) (.node (o_185 v) .nil .nil) (.node (o_258 v) .nil .nil)) (.node (o_151 v) (.node (o_219 v) .nil .nil) (.node (o_290 v) .nil .nil)))) (.node (o_59 v) (.node (o_77 v) (.node (o_109 v) (.node (o_177 v) .nil .nil) (.node (o_248 v) .nil .nil)) (.node (o_143 v) (.node (o_211 v) .nil .nil) (.node (o_282 v) .nil .nil))) (.node (o_93 v) (.node (o_127 v) (.node (o_195 v) .nil .nil) (.node (o_266 v) .nil .nil)) (.node (o_161 v) (.node (o_227 v) .nil .nil) (.node (o_298 v) .nil .nil))))) (.node (o_43 v) (.node (o_55 v) (.node (o_73 v) (.node (o_105 v) (.node (o_173 v) (.node (o_310 v) .nil .nil) .nil) (.node (o_244 v) .nil .nil)) (.node (o_139 v) (.node (o_207 v) .nil .nil) (.node (o_278 v) .nil .nil))) (.node (o_89 v) (.node (o_123 v) (.node (o_191 v) .nil .nil) (.node (o_262 v) .nil .nil)) (.node (o_155 v) (.node (o_223 v) .nil .nil) (.node (o_294 v) .nil .nil)))) (.node (o_63 v) (.node (o_81 v) (.node (o_113 v) (.node (o_181 v) .nil .nil) (.node (o_252 v) .nil .nil)) (.node (o_147 v) (.node (o_215 v) .nil .nil) (.node (o_286 v) .nil .nil))) (.node (o_97 v) (.node (o_131 v) (.node (o_199 v) .nil .nil) (.node (o_270 v) .nil .nil)) (.node (o_165 v) (.node (o_236 v) .nil .nil) (.node (o_302 v) .nil .nil)))))) (.node (b5 v) (.node (b9 v) (.node (o_53 v) (.node (o_69 v) (.node (o_103 v) (.node (o_171 v) (.node (o_308 v) .nil .nil) .nil) (.node (o_242 v) .nil .nil)) (.node (o_137 v) (.node (o_205 v) .nil .nil) (.node (o_276 v) .nil .nil))) (.node (o_87 v) (.node (o_121 v) (.node (o_187 v) .nil .nil) (.node (o_260 v) .nil .nil)) (.node (o_153 v) (.node (o_221 v) .nil .nil) (.node (o_292 v) .nil .nil)))) (.node (o_61 v) (.node (o_79 v) (.node (o_111 v) (.node (o_179 v) .nil .nil) (.node (o_250 v) .nil .nil)) (.node (o_145 v) (.node (o_213 v) .nil .nil) (.node (o_284 v) .nil .nil))) (.node (o_95 v) (.node (o_129 v) (.node (o_197 v) .nil .nil) (.node (o_268 v) .nil .nil)) (.node (o_163 v) (.node (o_229 v) .nil .nil) (.node (o_300 v) .nil .nil))))) (.node (o_45 v) (.node (o_57 v) (.node (o_75 v) (.node (o_107 v) (.node (o_175 v) (.node (o_312 v) .nil .nil) .nil) (.node (o_246 v) .nil .nil)) (.node (o_141 v) (.node (o_209 v) .nil .nil) (.node (o_280 v) .nil .nil))) (.node (o_91 v) (.node (o_125 v) (.node (o_193 v) .nil .nil) (.node (o_264 v) .nil .nil)) (.node (o_157 v) (.node (o_225 v) .nil .nil) (.node (o_296 v) .nil .nil)))) (.node (o_65 v) (.node (o_83 v) (.node (o_117 v) (.node (o_183 v) .nil .nil) (.node (o_256 v) .nil .nil)) (.node (o_149 v) (.node (o_217 v) .nil .nil) (.node (o_288 v) .nil .nil))) (.node (o_99 v) (.node (o_133 v) (.node (o_201 v) .nil .nil) (.node (o_272 v) .nil .nil)) (.node (o_167 v) (.node (o_238 v) .nil .nil) (.node (o_304 v) .nil .nil))))))) (.node (b2 v) (.node (b4 v) (.node (b8 v) (.node (o_52 v) (.node (o_68 v) (.node (o_102 v) (.node (o_170 v) (.node (o_307 v) .nil .nil) .nil) (.node (o_241 v) .nil .nil)) (.node (o_136 v) (.node (o_204 v) .nil .nil) (.node (o_275 v) .nil .nil))) (.node (o_86 v) (.node (o_120 v) (.node (o_186 v) .nil .nil) (.node (o_259 v) .nil .nil)) (.node (o_152 v) (.node (o_220 v) .nil .nil) (.node (o_291 v) .nil .nil)))) (.node (o_60 v) (.node (o_78 v) (.node (o_110 v) (.node (o_178 v) .nil .nil) (.node (o_249 v) .nil .nil)) (.node (o_144 v) (.node (o_212 v) .nil .nil) (.node (o_283 v) .nil .nil))) (.node (o_94 v) (.node (o_128 v) (.node (o_196 v) .nil .nil) (.node (o_267 v) .nil .nil)) (.node (o_162 v) (.node (o_228 v) .nil .nil) (.node (o_299 v) .nil .nil))))) (.node (o_255 v) (.node (o_56 v) (.node (o_74 v) (.node (o_106 v) (.node (o_174 v) (.node (o_311 v) .nil .nil) .nil) (.node (o_245 v) .nil .nil)) (.node (o_140 v) (.node (o_208 v) .nil .nil) (.node (o_279 v) .nil .nil))) (.node (o_90 v) (.node (o_124 v) (.node (o_192 v) .nil .nil) (.node (o_263 v) .nil .nil)) (.node (o_156 v) (.node (o_224 v) .nil .nil) (.node (o_295 v) .nil .nil)))) (.node (o_64 v) (.node (o_82 v) (.node (o_114 v) (.node (o_182 v) .nil .nil) (.node (o_253 v) .nil .nil)) (.node (o_148 v) (.node (o_216 v) .nil .nil) (.node (o_287 v) .nil .nil))) (.node (o_98 v) (.node (o_132 v) (.node (o_200 v) .nil .nil) (.node (o_271 v) .nil .nil)) (.node (o_166 v) (.node (o_237 v) .nil .nil) (.node (o_303 v) .nil .nil)))))) (.node (b6 v) (.node (b10 v) (.node (o_54 v) (.node (o_70 v) (.node (o_104 v) (.node (o_172 v) (.node (o_309 v) .nil .nil) .nil) (.node (o_243 v) .nil .nil)) (.node (o_138 v) (.node (o_206 v) .nil .nil) (.node (o_277 v) .nil .nil))) (.node (o_88 v) (.node (o_122 v) (.node (o_188 v) .nil .nil) (.node (o_261 v) .nil .nil)) (.node (o_154 v) (.node (o_222 v) .nil .nil) (.node (o_293 v) .nil .nil)))) (.node (o_62 v) (.node (o_80 v) (.node (o_112 v) (.node (o_180 v) .nil .nil) (.node (o_251 v) .nil .nil)) (.node (o_146 v) (.node (o_214 v) .nil .nil) (.node (o_285 v) .nil .nil))) (.node (o_96 v) (.node (o_130 v) (.node (o_198 v) .nil .nil) (.node (o_269 v) .nil .nil)) (.node (o_164 v) (.node (o_235 v) .nil .nil) (.node (o_301 v) .nil .nil))))) (.node (o_46 v) (.node (o_58 v) (.node (o_76 v) (.node (o_108 v) (.node (o_176 v) .nil .nil) (.node (o_247 v) .nil .nil)) (.node (o_142 v) (.node (o_210 v) .nil .nil) (.node (o_281 v) .nil .nil))) (.node (o_92 v) (.node (o_126 v) (.node (o_194 v) .nil .nil) (.node (o_265 v) .nil .nil)) (.node (o_158 v) (.node (o_226 v) .nil .nil) (.node (o_297 v) .nil .nil)))) (.node (o_66 v) (.node (o_84 v) (.node (o_118 v) (.node (o_184 v) .nil .nil) (.node (o_257 v) .nil .nil)) (.node (o_150 v) (.node (o_218 v) .nil .nil) (.node (o_289 v) .nil .nil))) (.node (o_100 v) (.node (o_134 v) (.node (o_202 v) .nil .nil) (.node (o_273 v) .nil .nil)) (.node (o_168 v) (.node (o_239 v) .nil .nil) (.node (o_305 v) .nil .nil))))))))
noncomputable def o_313 : PO := fun v => (.mk (.type k3) .none (.dict #[(de v z34 165 (.str z13 404)), (de v z35 166 .none), (de v z36 167 .none), (de v z37 168 (.builtin k4)), (de v z38 169 .none), (de v z39 170 (.ref 6)), (de v z40 171 (.ref 4)), (de v z41 173 (.str z3 172)), (de v z42 174 .none), (de v z43 193 (.ref 21)), (de v z44 197 (.int 12 196)), (de v z45 199 (.int 4 198)), (de v z46 201 (.int 16 200)), (de v z27 219 (.ref 31)), (de v z47 283 (.ref 72)), (de v z48 354 (.ref 114)), (de v z49 358 (.int 128 357)), (de v z8 384 (.ref 128)), (de v z2 396 (.ref 139)), (de v z50 403 (.ref 146)), (de v z51 431 (.ref 156)), (de v z52 438 (.ref 167)), (de v z53 450 (.ref 174)), (de v z54 463 (.ref 175)), (de v z55 470 (.ref 185)), (de v z10 486 (.ref 195)), (de v z114 498 (.ref 204)), (de v z123 596 (.ref 257)), (de v z124 605 (.ref 268)), (de v z6 615 (.ref 275))] 30) #[])
noncomputable def o_314 : PO := fun v => (.mk .none .none (.fields #[(.int 1 0), (.int 0 0), (.ref 20), (.int 8 0), (.int 0 0), (.ref 27), (.int 10 0), (.int 0 0), (.ref 40), (.int 33 0), (.int 0 0), (.ref 82), (.int 77 0), (.int 0 0), (.ref 124), (.int 81 0), (.int 0 0), (.ref 138), (.int 91 0), (.int 0 0), (.ref 145), (.int 94 0), (.int 0 0), (.ref 152), (.int 98 0), (.int 0 0), (.ref 166), (.int 102 0), (.int 0 0), (.ref 173), (.int 105 0), (.int 0 0), (.ref 184), (.int 107 0), (.int 0 0), (.ref 191), (.int 109 0), (.int 0 0), (.ref 203), (.int 119 0), (.int 0 0), (.ref 210), (.int 171 0), (.int 0 0), (.ref 267), (.int 176 0), (.int 0 0), (.ref 274)]) #[])
noncomputable def o_315 : PO := fun v => (.mk (.type k0) .none (.seq #[] 0) #[])
noncomputable def o_316 : PO := fun v => (.mk .none .none (.fields #[]) #[])
noncomputable def o_317 : PO := fun v => (.mk (.type k0) .none (.seq #[(.str z30 600), (.str z66 601), (.str z67 602)] 0) #[])
noncomputable def o_318 : PO := fun v => (.mk (.type k0) .none (.seq #[] 0) #[])
noncomputable def o_319 : PO := fun v => (.mk .none .none (.func (.mk z124 z124 (fA (sg PB 22)) (.stmts (fB (sg PB 22))) (fC (sg PB 22)) 0 [] .none .none .none .none .none .none .none 0)) #[])
noncomputable def o_320 : PO := fun v => (.mk (.type k1) .none (.fields #[(.str z124 597), (.str z124 598), (.str z3 599), (.int 171 0), (.int 3 0), (.int 0 0), (.int 0 0), (.int 3 0), (.ref 262), (.bool .true), (.int 181 0), (.ref 263), .none, (.ref 264), (.ref 265), (.ref 266), (.int 603 0), (.int 171 0), (.str z3 604)]) #[])
noncomputable def o_321 : PO := fun v => (.mk (.type k5) .none (.func (.mk z124 z124 (fA (sg PB 22)) (.stmts (fB (sg PB 22))) (fC (sg PB 22)) 3 [] .none .none .none (.str z13 404) .none (.ref 267) .none 0)) #[])
noncomputable def o_322 : PO := fun v => (.mk (.type k0) .none (.seq #[] 0) #[])
noncomputable def o_323 : PO := fun v => (.mk .none .none (.fields #[]) #[])
noncomputable def o_324 : PO := fun v => (.mk (.type k0) .none (.seq #[(.str z30 609), (.str z16 610), (.str z18 611), (.str z66 612)] 0) #[])
noncomputable def o_325 : PO := fun v => (.mk (.type k0) .none (.seq #[] 0) #[])
noncomputable def o_326 : PO := fun v => (.mk .none .none (.func (.mk z6 z6 (fA (sg PB 23)) (.stmts (fB (sg PB 23))) (fC (sg PB 23)) 0 [] .none .none .none .none .none .none .none 0)) #[])
noncomputable def o_327 : PO := fun v => (.mk (.type k1) .none (.fields #[(.str z6 606), (.str z6 607), (.str z3 608), (.int 176 0), (.int 1 0), (.int 0 0), (.int 0 0), (.int 3 0), (.ref 269), (.bool .true), (.int 181 0), (.ref 270), .none, (.ref 271), (.ref 272), (.ref 273), (.int 613 0), (.int 176 0), (.str z3 614)]) #[])
noncomputable def o_328 : PO := fun v => (.mk (.type k5) .none (.func (.mk z6 z6 (fA (sg PB 23)) (.stmts (fB (sg PB 23))) (fC (sg PB 23)) 3 [] .none .none .none (.str z13 404) .none (.ref 274) .none 0)) #[])
noncomputable def tree_328 : PT := fun v => (.node (b0 v) (.node (b1 v) (.node (o_313 v) (.node (b7 v) (.node (o_51 v) (.node (o_234 v) (.node (o_101 v) (.node (o_169 v) (.node (o_306 v) .nil .nil) .nil) (.node (o_240 v) .nil .nil)) (.node (o_135 v) (.node (o_203 v) .nil .nil) (.node (o_274 v) .nil .nil))) (.node (o_85 v) (.node (o_119 v) (.node (o_185 v) (.node (o_324 v) .nil .nil) .nil) (.node (o_258 v) .nil .nil)) (.node (o_151 v) (.node (o_219 v) .nil .nil) (.node (o_290 v) .nil .nil)))) (.node (o_59 v) (.node (o_77 v) (.node (o_109 v) (.node (o_177 v) (.node (o_316 v) .nil .nil) .nil) (.node (o_248 v) .nil .nil)) (.node (o_143 v) (.node (o_211 v) .nil .nil) (.node (o_282 v) .nil .nil))) (.node (o_93 v) (.node (o_127 v) (.node (o_195 v) .nil .nil) (.node (o_266 v) .nil .nil)) (.node (o_161 v) (.node (o_227 v) .nil .nil) (.node (o_298 v) .nil .nil))))) (.node (o_43 v) (.node (o_55 v) (.node (o_73 v) (.node (o_105 v) (.node (o_173 v) (.node (o_310 v) .nil .nil) .nil) (.node (o_244 v) .nil .nil)) (.node (o_139 v) (.node (o_207 v) .nil .nil) (.node (o_278 v) .nil .nil))) (.node (o_89 v) (.node (o_123 v) (.node (o_191 v) (.node (o_328 v) .nil .nil) .nil) (.node (o_262 v) .nil .nil)) (.node (o_155 v) (.node (o_223 v) .nil .nil) (.node (o_294 v) .nil .nil)))) (.node (o_63 v) (.node (o_81 v) (.node (o_113 v) (.node (o_181 v) (.node (o_320 v) .nil .nil) .nil) (.node (o_252 v) .nil .nil)) (.node (o_147 v) (.node (o_215 v) .nil .nil) (.node (o_286 v) .nil .nil))) (.node (o_97 v) (.node (o_131 v) (.node (o_199 v) .nil .nil) (.node (o_270 v) .nil .nil)) (.node (o_165 v) (.node (o_236 v) .nil .nil) (.node (o_302 v) .nil .nil)))))) (.node (b5 v) (.node (b9 v) (.node (o_53 v) (.node (o_69 v) (.node (o_103 v) (.node (o_171 v) (.node (o_308 v) .nil .nil) .nil) (.node (o_242 v) .nil .nil)) (.node (o_137 v) (.node (o_205 v) .nil .nil) (.node (o_276 v) .nil .nil))) (.node (o_87 v) (.node (o_121 v) (.node (o_187 v) (.node (o_326 v) .nil .nil) .nil) (.node (o_260 v) .nil .nil)) (.node (o_153 v) (.node (o_221 v) .nil .nil) (.node (o_292 v) .nil .nil)))) (.node (o_61 v) (.node (o_79 v) (.node (o_111 v) (.node (o_179 v) (.node (o_318 v) .nil .nil) .nil) (.node (o_250 v) .nil .nil)) (.node (o_145 v) (.node (o_213 v) .nil .nil) (.node (o_284 v) .nil .nil))) (.node (o_95 v) (.node (o_129 v) (.node (o_197 v) .nil .nil) (.node (o_268 v) .nil .nil)) (.node (o_163 v) (.node (o_229 v) .nil .nil) (.node (o_300 v) .nil .nil))))) (.node (o_45 v) (.node (o_57 v) (.node (o_75 v) (.node (o_107 v) (.node (o_175 v) (.node (o_312 v) .nil .nil) .nil) (.node (o_246 v) .nil .nil)) (.node (o_141 v) (.node (o_209 v) .nil .nil) (.node (o_280 v) .nil .nil))) (.node (o_91 v) (.node (o_125 v) (.node (o_193 v) .nil .nil) (.node (o_264 v) .nil .nil)) (.node (o_157 v) (.node (o_225 v) .nil .nil) (.node (o_296 v) .nil .nil)))) (.node (o_65 v) (.node (o_83 v) (.node (o_117 v) (.node (o_183 v) (.node (o_322 v) .nil .nil) .nil) (.node (o_256 v) .nil .nil)) (.node (o_149 v) (.node (o_217 v) .nil .nil) (.node (o_288 v) .nil .nil))) (.node (o_99 v) (.node (o_133 v) (.node (o_201 v) .nil .nil) (.node (o_272 v) .nil .nil)) (.node (o_167 v) (.node (o_238 v) .nil .nil) (.node (o_304 v) .nil .nil))))))) (.node (b2 v) (.node (b4 v) (.node (b8 v) (.node (o_52 v) (.node (o_68 v) (.node (o_102 v) (.node (o_170 v) (.node (o_307 v) .nil .nil) .nil) (.node (o_241 v) .nil .nil)) (.node (o_136 v) (.node (o_204 v) .nil .nil) (.node (o_275 v) .nil .nil))) (.node (o_86 v) (.node (o_120 v) (.node (o_186 v) (.node (o_325 v) .nil .nil) .nil) (.node (o_259 v) .nil .nil)) (.node (o_152 v) (.node (o_220 v) .nil .nil) (.node (o_291 v) .nil .nil)))) (.node (o_60 v) (.node (o_78 v) (.node (o_110 v) (.node (o_178 v) (.node (o_317 v) .nil .nil) .nil) (.node (o_249 v) .nil .nil)) (.node (o_144 v) (.node (o_212 v) .nil .nil) (.node (o_283 v) .nil .nil))) (.node (o_94 v) (.node (o_128 v) (.node (o_196 v) .nil .nil) (.node (o_267 v) .nil .nil)) (.node (o_162 v) (.node (o_228 v) .nil .nil) (.node (o_299 v) .nil .nil))))) (.node (o_314 v) (.node (o_56 v) (.node (o_74 v) (.node (o_106 v) (.node (o_174 v) (.node (o_311 v) .nil .nil) .nil) (.node (o_245 v) .nil .nil)) (.node (o_140 v) (.node (o_208 v) .nil .nil) (.node (o_279 v) .nil .nil))) (.node (o_90 v) (.node (o_124 v) (.node (o_192 v) .nil .nil) (.node (o_263 v) .nil .nil)) (.node (o_156 v) (.node (o_224 v) .nil .nil) (.node (o_295 v) .nil .nil)))) (.node (o_64 v) (.node (o_82 v) (.node (o_114 v) (.node (o_182 v) (.node (o_321 v) .nil .nil) .nil) (.node (o_253 v) .nil .nil)) (.node (o_148 v) (.node (o_216 v) .nil .nil) (.node (o_287 v) .nil .nil))) (.node (o_98 v) (.node (o_132 v) (.node (o_200 v) .nil .nil) (.node (o_271 v) .nil .nil)) (.node (o_166 v) (.node (o_237 v) .nil .nil) (.node (o_303 v) .nil .nil)))))) (.node (b6 v) (.node (b10 v) (.node (o_54 v) (.node (o_70 v) (.node (o_104 v) (.node (o_172 v) (.node (o_309 v) .nil .nil) .nil) (.node (o_243 v) .nil .nil)) (.node (o_138 v) (.node (o_206 v) .nil .nil) (.node (o_277 v) .nil .nil))) (.node (o_88 v) (.node (o_122 v) (.node (o_188 v) (.node (o_327 v) .nil .nil) .nil) (.node (o_261 v) .nil .nil)) (.node (o_154 v) (.node (o_222 v) .nil .nil) (.node (o_293 v) .nil .nil)))) (.node (o_62 v) (.node (o_80 v) (.node (o_112 v) (.node (o_180 v) (.node (o_319 v) .nil .nil) .nil) (.node (o_251 v) .nil .nil)) (.node (o_146 v) (.node (o_214 v) .nil .nil) (.node (o_285 v) .nil .nil))) (.node (o_96 v) (.node (o_130 v) (.node (o_198 v) .nil .nil) (.node (o_269 v) .nil .nil)) (.node (o_164 v) (.node (o_235 v) .nil .nil) (.node (o_301 v) .nil .nil))))) (.node (o_46 v) (.node (o_58 v) (.node (o_76 v) (.node (o_108 v) (.node (o_176 v) (.node (o_315 v) .nil .nil) .nil) (.node (o_247 v) .nil .nil)) (.node (o_142 v) (.node (o_210 v) .nil .nil) (.node (o_281 v) .nil .nil))) (.node (o_92 v) (.node (o_126 v) (.node (o_194 v) .nil .nil) (.node (o_265 v) .nil .nil)) (.node (o_158 v) (.node (o_226 v) .nil .nil) (.node (o_297 v) .nil .nil)))) (.node (o_66 v) (.node (o_84 v) (.node (o_118 v) (.node (o_184 v) (.node (o_323 v) .nil .nil) .nil) (.node (o_257 v) .nil .nil)) (.node (o_150 v) (.node (o_218 v) .nil .nil) (.node (o_289 v) .nil .nil))) (.node (o_100 v) (.node (o_134 v) (.node (o_202 v) .nil .nil) (.node (o_273 v) .nil .nil)) (.node (o_168 v) (.node (o_239 v) .nil .nil) (.node (o_305 v) .nil .nil))))))))
noncomputable def o_329 : PO := fun v => (.mk (.type k3) .none (.dict #[(de v z34 165 (.str z13 404)), (de v z35 166 .none), (de v z36 167 .none), (de v z37 168 (.builtin k4)), (de v z38 169 .none), (de v z39 170 (.ref 6)), (de v z40 171 (.ref 4)), (de v z41 173 (.str z3 172)), (de v z42 174 .none), (de v z43 193 (.ref 21)), (de v z44 197 (.int 12 196)), (de v z45 199 (.int 4 198)), (de v z46 201 (.int 16 200)), (de v z27 219 (.ref 31)), (de v z47 283 (.ref 72)), (de v z48 354 (.ref 114)), (de v z49 358 (.int 128 357)), (de v z8 384 (.ref 128)), (de v z2 396 (.ref 139)), (de v z50 403 (.ref 146)), (de v z51 431 (.ref 156)), (de v z52 438 (.ref 167)), (de v z53 450 (.ref 174)), (de v z54 463 (.ref 175)), (de v z55 470 (.ref 185)), (de v z10 486 (.ref 195)), (de v z114 498 (.ref 204)), (de v z123 596 (.ref 257)), (de v z124 605 (.ref 268)), (de v z6 615 (.ref 275)), (de v z93 716 (.ref 343))] 31) #[])
noncomputable def o_330 : PO := fun v => (.mk .none .none (.fields #[(.int 1 0), (.int 0 0), (.ref 20), (.int 8 0), (.int 0 0), (.ref 27), (.int 10 0), (.int 0 0), (.ref 40), (.int 33 0), (.int 0 0), (.ref 82), (.int 77 0), (.int 0 0), (.ref 124), (.int 81 0), (.int 0 0), (.ref 138), (.int 91 0), (.int 0 0), (.ref 145), (.int 94 0), (.int 0 0), (.ref 152), (.int 98 0), (.int 0 0), (.ref 166), (.int 102 0), (.int 0 0), (.ref 173), (.int 105 0), (.int 0 0), (.ref 184), (.int 107 0), (.int 0 0), (.ref 191), (.int 109 0), (.int 0 0), (.ref 203), (.int 119 0), (.int 0 0), (.ref 210), (.int 171 0), (.int 0 0), (.ref 267), (.int 176 0), (.int 0 0), (.ref 274), (.int 185 0), (.int 0 0), (.ref 281)]) #[])
noncomputable def o_331 : PO := fun v => (.mk (.type k0) .none (.seq #[] 0) #[])
noncomputable def o_332 : PO := fun v => (.mk (.type k7) .none (.fields #[(.builtin k8), (.type k9)]) #[])
noncomputable def o_333 : PO := fun v => (.mk (.type k3) .none (.dict #[(de v z24 623 (.str z13 404)), (de v z26 625 (.str z93 624)), (de v z28 627 (.int 185 626)), (de v z128 639 (.ref 290)), (de v z97 653 (.ref 297)), (de v z112 663 (.ref 304)), (de v z11 673 (.ref 311)), (de v z95 680 (.ref 318)), (de v z130 687 (.ref 325)), (de v z56 695 (.ref 333)), (de v z135 703 (.ref 340)), (de v z29 709 (.ref 341))] 12) #[])
noncomputable def o_334 : PO := fun v => (.mk (.type k0) .none (.seq #[] 0) #[])
noncomputable def o_335 : PO := fun v => (.mk .none .none (.fields #[(.int 187 0), (.int 4 0), (.ref 289), (.int 194 0), (.int 4 0), (.ref 296), (.int 200 0), (.int 4 0), (.ref 303), (.int 205 0), (.int 4 0), (.ref 310), (.int 208 0), (.int 4 0), (.ref 317), (.int 212 0), (.int 4 0), (.ref 324), (.int 216 0), (.int 4 0), (.ref 331), (.int 222 0), (.int 4 0), (.ref 339)]) #[])
noncomputable def o_336 : PO := fun v => (.mk (.type k1) .none (.fields #[(.str z93 618), (.str z93 619), (.str z3 620), (.int 185 0), (.int 0 0), (.int 0 0), (.int 0 0), (.int 0 0), (.ref 279), (.bool .false), (.int 181 0), (.ref 280), .none, .none, .none, .none, (.int 621 0), (.int 185 0), (.str z3 622)]) #[])
noncomputable def o_337 : PO := fun v => (.mk (.type k2) .none .plain #[(.some (.ref 281)), (.some (.ref 3)), (.some (.ref 278)), .none, (.some (.str z13 404)), .none, (.some (.ref 0))])
noncomputable def o_338 : PO := fun v => (.mk (.type k0) .none (.seq #[(.ref 185), (.ref 185), (.ref 185), (.ref 185)] 0) #[])
noncomputable def o_339 : PO := fun v => (.mk (.type k0) .none (.seq #[] 0) #[])
noncomputable def o_340 : PO := fun v => (.mk .none .none (.fields #[]) #[])
noncomputable def o_341 : PO := fun v => (.mk (.type k0) .none (.seq #[(.str z30 631), (.str z15 632), (.str z201 633), (.str z202 634), (.str z203 635), (.str z204 636)] 0) #[])
noncomputable def o_342 : PO := fun v => (.mk (.type k0) .none (.seq #[] 0) #[])
noncomputable def o_343 : PO := fun v => (.mk .none .none (.func (.mk z128 z158 (fA (sg (fB (sg PB 24)) 0)) (.stmts (fB (sg (fB (sg PB 24)) 0))) (fC (sg (fB (sg PB 24)) 0)) 0 [] .none .none .none .none .none .none .none 0)) #[])
noncomputable def o_344 : PO := fun v => (.mk (.type k1) .none (.fields #[(.str z128 628), (.str z158 629), (.str z3 630), (.int 187 0), (.int 6 0), (.int 0 0), (.int 0 0), (.int 3 0), (.ref 284), (.bool .true), (.int 181 0), (.ref 285), .none, (.ref 286), (.ref 287), (.ref 288), (.int 637 0), (.int 187 0), (.str z3 638)]) #[])
noncomputable def o_345 : PO := fun v => (.mk (.type k5) .none (.func (.mk z128 z158 (fA (sg (fB (sg PB 24)) 0)) (.stmts (fB (sg (fB (sg PB 24)) 0))) (fC (sg (fB (sg PB 24)) 0)) 3 [] (.ref 283) .none .none (.str z13 404) .none (.ref 289) .none 0)) #[])
noncomputable def o_346 : PO := fun v => (.mk (.type k0) .none (.seq #[] 0) #[])
noncomputable def o_347 : PO := fun v => (.mk .none .none (.fields #[]) #[])
noncomputable def o_348 : PO := fun v => (.mk (.type k0) .none (.seq #[(.str z30 643), (.str z77 644), (.str z154 645), (.str z155 646), (.str z102 647), (.str z156 648), (.str z90 649), (.str z130 650)] 0) #[])
noncomputable def o_349 : PO := fun v => (.mk (.type k0) .none (.seq #[] 0) #[])
noncomputable def o_350 : PO := fun v => (.mk .none .none (.func (.mk z97 z98 (fA (sg (fB (sg PB 24)) 1)) (.stmts (fB (sg (fB (sg PB 24)) 1))) (fC (sg (fB (sg PB 24)) 1)) 0 [] .none .none .none .none .none .none .none 0)) #[])
noncomputable def o_351 : PO := fun v => (.mk (.type k1) .none (.fields #[(.str z97 640), (.str z98 641), (.str z3 642), (.int 194 0), (.int 4 0), (.int 0 0), (.int 0 0), (.int 3 0), (.ref 291), (.bool .true), (.int 181 0), (.ref 292), .none, (.ref 293), (.ref 294), (.ref 295), (.int 651 0), (.int 194 0), (.str z3 652)]) #[])
noncomputable def o_352 : PO := fun v => (.mk (.type k5) .none (.func (.mk z97 z98 (fA (sg (fB (sg PB 24)) 1)) (.stmts (fB (sg (fB (sg PB 24)) 1))) (fC (sg (fB (sg PB 24)) 1)) 3 [] .none .none .none (.str z13 404) .none (.ref 296) .none 0)) #[])
noncomputable def o_353 : PO := fun v => (.mk (.type k0) .none (.seq #[] 0) #[])
noncomputable def o_354 : PO := fun v => (.mk .none .none (.fields #[]) #[])
noncomputable def o_355 : PO := fun v => (.mk (.type k0) .none (.seq #[(.str z30 657), (.str z102 658), (.str z159 659), (.str z90 660)] 0) #[])
noncomputable def o_356 : PO := fun v => (.mk (.type k0) .none (.seq #[] 0) #[])
noncomputable def o_357 : PO := fun v => (.mk .none .none (.func (.mk z112 z157 (fA (sg (fB (sg PB 24)) 2)) (.stmts (fB (sg (fB (sg PB 24)) 2))) (fC (sg (fB (sg PB 24)) 2)) 0 [] .none .none .none .none .none .none .none 0)) #[])
noncomputable def o_358 : PO := fun v => (.mk (.type k1) .none (.fields #[(.str z112 654), (.str z157 655), (.str z3 656), (.int 200 0), (.int 4 0), (.int 0 0), (.int 0 0), (.int 3 0), (.ref 298), (.bool .true), (.int 181 0), (.ref 299), .none, (.ref 300), (.ref 301), (.ref 302), (.int 661 0), (.int 200 0), (.str z3 662)]) #[])
noncomputable def o_359 : PO := fun v => (.mk (.type k5) .none (.func (.mk z112 z157 (fA (sg (fB (sg PB 24)) 2)) (.stmts (fB (sg (fB (sg PB 24)) 2))) (fC (sg (fB (sg PB 24)) 2)) 3 [] .none .none .none (.str z13 404) .none (.ref 303) .none 0)) #[])
noncomputable def o_360 : PO := fun v => (.mk (.type k0) .none (.seq #[] 0) #[])
noncomputable def o_361 : PO := fun v => (.mk .none .none (.fields #[]) #[])
noncomputable def o_362 : PO := fun v => (.mk (.type k0) .none (.seq #[(.str z30 667), (.str z137 668), (.str z138 669), (.str z133 670)] 0) #[])
noncomputable def o_363 : PO := fun v => (.mk (.type k0) .none (.seq #[] 0) #[])
noncomputable def o_364 : PO := fun v => (.mk .none .none (.func (.mk z11 z12 (fA (sg (fB (sg PB 24)) 3)) (.stmts (fB (sg (fB (sg PB 24)) 3))) (fC (sg (fB (sg PB 24)) 3)) 0 [] .none .none .none .none .none .none .none 0)) #[])
noncomputable def o_365 : PO := fun v => (.mk (.type k1) .none (.fields #[(.str z11 664), (.str z12 665), (.str z3 666), (.int 205 0), (.int 4 0), (.int 0 0), (.int 0 0), (.int 3 0), (.ref 305), (.bool .true), (.int 181 0), (.ref 306), .none, (.ref 307), (.ref 308), (.ref 309), (.int 671 0), (.int 205 0), (.str z3 672)]) #[])
noncomputable def o_366 : PO := fun v => (.mk (.type k5) .none (.func (.mk z11 z12 (fA (sg (fB (sg PB 24)) 3)) (.stmts (fB (sg (fB (sg PB 24)) 3))) (fC (sg (fB (sg PB 24)) 3)) 3 [] .none .none .none (.str z13 404) .none (.ref 310) .none 0)) #[])
noncomputable def o_367 : PO := fun v => (.mk (.type k0) .none (.seq #[] 0) #[])
noncomputable def o_368 : PO := fun v => (.mk .none .none (.fields #[]) #[])
noncomputable def o_369 : PO := fun v => (.mk (.type k0) .none (.seq #[(.str z30 677)] 0) #[])
noncomputable def o_370 : PO := fun v => (.mk (.type k0) .none (.seq #[] 0) #[])
noncomputable def o_371 : PO := fun v => (.mk .none .none (.func (.mk z95 z165 (fA (sg (fB (sg PB 24)) 4)) (.stmts (fB (sg (fB (sg PB 24)) 4))) (fC (sg (fB (sg PB 24)) 5)) 0 [] .none .none .none .none .none .none .none 0)) #[])
noncomputable def o_372 : PO := fun v => (.mk (.type k1) .none (.fields #[(.str z95 674), (.str z165 675), (.str z3 676), (.int 208 0), (.int 1 0), (.int 0 0), (.int 0 0), (.int 3 0), (.ref 312), (.bool .true), (.int 181 0), (.ref 313), .none, (.ref 314), (.ref 315), (.ref 316), (.int 678 0), (.int 208 0), (.str z3 679)]) #[])
noncomputable def o_373 : PO := fun v => (.mk (.type k5) .none (.func (.mk z95 z165 (fA (sg (fB (sg PB 24)) 4)) (.stmts (fB (sg (fB (sg PB 24)) 4))) (fC (sg (fB (sg PB 24)) 5)) 3 [] .none .none .none (.str z13 404) .none (.ref 317) .none 0)) #[])
noncomputable def o_374 : PO := fun v => (.mk (.type k0) .none (.seq #[] 0) #[])
noncomputable def o_375 : PO := fun v => (.mk .none .none (.fields #[]) #[])
noncomputable def o_376 : PO := fun v => (.mk (.type k0) .none (.seq #[(.str z30 684)] 0) #[])
noncomputable def o_377 : PO := fun v => (.mk (.type k0) .none (.seq #[] 0) #[])
noncomputable def o_378 : PO := fun v => (.mk .none .none (.func (.mk z130 z131 (fA (sg (fB (sg PB 24)) 5)) (.stmts (fB (sg (fB (sg PB 24)) 5))) (fC (sg (fB (sg PB 24)) 5)) 0 [] .none .none .none .none .none .none .none 0)) #[])
noncomputable def o_379 : PO := fun v => (.mk (.type k1) .none (.fields #[(.str z130 681), (.str z131 682), (.str z3 683), (.int 212 0), (.int 1 0), (.int 0 0), (.int 0 0), (.int 3 0), (.ref 319), (.bool .true), (.int 181 0), (.ref 320), .none, (.ref 321), (.ref 322), (.ref 323), (.int 685 0), (.int 212 0), (.str z3 686)]) #[])
noncomputable def o_380 : PO := fun v => (.mk (.type k5) .none (.func (.mk z130 z131 (fA (sg (fB (sg PB 24)) 5)) (.stmts (fB (sg (fB (sg PB 24)) 5))) (fC (sg (fB (sg PB 24)) 5)) 3 [] .none .none .none (.str z13 404) .none (.ref 324) .none 0)) #[])
noncomputable def o_381 : PO := fun v => (.mk (.type k0) .none (.seq #[] 0) #[])
noncomputable def o_382 : PO := fun v => (.mk .none .none (.fields #[]) #[])
noncomputable def o_383 : PO := fun v => (.mk (.type k0) .none (.seq #[(.str z30 691)] 0) #[])
noncomputable def o_384 : PO := fun v => (.mk (.type k0) .none (.seq #[] 0) #[])
noncomputable def o_385 : PO := fun v => (.mk .none .none (.func (.mk z56 z121 (fA (sg (fB (sg PB 24)) 6)) (.stmts (fB (sg (fB (sg PB 24)) 6))) (fC (sg (fB (sg PB 24)) 6)) 0 [] .none .none .none .none .none .none .none 0)) #[])
noncomputable def o_386 : PO := fun v => (.mk (.type k1) .none (.fields #[(.str z56 688), (.str z121 689), (.str z3 690), (.int 215 0), (.int 1 0), (.int 0 0), (.int 0 0), (.int 3 0), (.ref 326), (.bool .true), (.int 181 0), (.ref 327), .none, (.ref 328), (.ref 329), (.ref 330), (.int 692 0), (.int 215 0), (.str z3 693)]) #[])
noncomputable def o_387 : PO := fun v => (.mk (.type k5) .none (.func (.mk z56 z121 (fA (sg (fB (sg PB 24)) 6)) (.stmts (fB (sg (fB (sg PB 24)) 6))) (fC (sg (fB (sg PB 24)) 6)) 3 [] .none .none .none (.str z13 404) .none (.ref 331) .none 0)) #[])
noncomputable def o_388 : PO := fun v => (.mk (.type k21) .none (.fields #[(.ref 332), .none, .none, .none, (.str z56 695), (.bool .false)]) #[])
noncomputable def o_389 : PO := fun v => (.mk (.type k0) .none (.seq #[] 0) #[])
noncomputable def o_390 : PO := fun v => (.mk .none .none (.fields #[]) #[])
noncomputable def o_391 : PO := fun v => (.mk (.type k0) .none (.seq #[(.str z30 699), (.str z67 700)] 0) #[])
noncomputable def o_392 : PO := fun v => (.mk (.type k0) .none (.seq #[] 0) #[])
noncomputable def o_393 : PO := fun v => (.mk .none .none (.func (.mk z135 z136 (fA (sg (fB (sg PB 24)) 7)) (.stmts (fB (sg (fB (sg PB 24)) 7))) (fC (sg (fB (sg PB 24)) 7)) 0 [] .none .none .none .none .none .none .none 0)) #[])
noncomputable def o_394 : PO := fun v => (.mk (.type k1) .none (.fields #[(.str z135 696), (.str z136 697), (.str z3 698), (.int 222 0), (.int 2 0), (.int 0 0), (.int 0 0), (.int 3 0), (.ref 334), (.bool .true), (.int 181 0), (.ref 335), .none, (.ref 336), (.ref 337), (.ref 338), (.int 701 0), (.int 222 0), (.str z3 702)]) #[])
noncomputable def o_395 : PO := fun v => (.mk (.type k5) .none (.func (.mk z135 z136 (fA (sg (fB (sg PB 24)) 7)) (.stmts (fB (sg (fB (sg PB 24)) 7))) (fC (sg (fB (sg PB 24)) 7)) 3 [] .none .none .none (.str z13 404) .none (.ref 339) .none 0)) #[])
noncomputable def o_396 : PO := fun v => (.mk (.type k0) .none (.seq #[(.str z197 704), (.str z198 705), (.str z15 706), (.str z199 707), (.str z200 708)] 0) #[])
noncomputable def o_397 : PO := fun v => (.mk (.type k3) .none (.dict #[(de v z24 623 (.str z13 404)), (de v z28 627 (.int 185 626)), (de v z128 639 (.ref 290)), (de v z97 653 (.ref 297)), (de v z112 663 (.ref 304)), (de v z11 673 (.ref 311)), (de v z95 680 (.ref 318)), (de v z130 687 (.ref 325)), (de v z56 695 (.ref 333)), (de v z135 703 (.ref 340)), (de v z29 709 (.ref 341)), (de v z23 711 (.ref 344)), (de v z68 713 (.ref 345)), (de v z35 714 .none)] 4) #[])
noncomputable def o_398 : PO := fun v => (.mk (.type k9) .none (.cls (.mk z93 [(.type k12)] [(.ref 343), (.type k12)] 342 z93 .true [] [] .false .none .false)) #[.none, .none, (.some (.str z93 616)), (.some (.str z93 624)), (.some (.builtin k18)), (.some (.bool .true))])
noncomputable def o_399 : PO := fun v => (.mk (.type k14) .none (.fields #[(.str z23 710), (.ref 343), (.builtin k19), (.builtin k20)]) #[])
noncomputable def o_400 : PO := fun v => (.mk (.type k14) .none (.fields #[(.str z68 712), (.ref 343), (.builtin k15), .none]) #[])
noncomputable def o_401 : PO := fun v => (.mk (.type k16) .none (.fields #[(.ref 343), (.ref 343), (.ref 343)]) #[])
noncomputable def o_402 : PO := fun v => (.mk (.type k7) .none (.fields #[(.builtin k17), (.ref 343)]) #[])
noncomputable def tree_402 : PT := fun v => (.node (b0 v) (.node (b1 v) (.node (o_329 v) (.node (b7 v) (.node (o_51 v) (.node (o_234 v) (.node (o_101 v) (.node (o_169 v) (.node (o_306 v) .nil .nil) .nil) (.node (o_240 v) (.node (o_374 v) .nil .nil) .nil)) (.node (o_135 v) (.node (o_203 v) (.node (o_342 v) .nil .nil) .nil) (.node (o_274 v) .nil .nil))) (.node (o_85 v) (.node (o_119 v) (.node (o_185 v) (.node (o_324 v) .nil .nil) .nil) (.node (o_258 v) (.node (o_390 v) .nil .nil) .nil)) (.node (o_151 v) (.node (o_219 v) (.node (o_358 v) .nil .nil) .nil) (.node (o_290 v) .nil .nil)))) (.node (o_59 v) (.node (o_77 v) (.node (o_109 v) (.node (o_177 v) (.node (o_316 v) .nil .nil) .nil) (.node (o_248 v) (.node (o_382 v) .nil .nil) .nil)) (.node (o_143 v) (.node (o_211 v) (.node (o_350 v) .nil .nil) .nil) (.node (o_282 v) .nil .nil))) (.node (o_93 v) (.node (o_127 v) (.node (o_195 v) (.node (o_334 v) .nil .nil) .nil) (.node (o_266 v) (.node (o_398 v) .nil .nil) .nil)) (.node (o_161 v) (.node (o_227 v) (.node (o_366 v) .nil .nil) .nil) (.node (o_298 v) .nil .nil))))) (.node (o_43 v) (.node (o_55 v) (.node (o_73 v) (.node (o_105 v) (.node (o_173 v) (.node (o_310 v) .nil .nil) .nil) (.node (o_244 v) (.node (o_378 v) .nil .nil) .nil)) (.node (o_139 v) (.node (o_207 v) (.node (o_346 v) .nil .nil) .nil) (.node (o_278 v) .nil .nil))) (.node (o_89 v) (.node (o_123 v) (.node (o_191 v) (.node (o_328 v) .nil .nil) .nil) (.node (o_262 v) (.node (o_394 v) .nil .nil) .nil)) (.node (o_155 v) (.node (o_223 v) (.node (o_362 v) .nil .nil) .nil) (.node (o_294 v) .nil .nil)))) (.node (o_63 v) (.node (o_81 v) (.node (o_113 v) (.node (o_181 v) (.node (o_320 v) .nil .nil) .nil) (.node (o_252 v) (.node (o_386 v) .nil .nil) .nil)) (.node (o_147 v) (.node (o_215 v) (.node (o_354 v) .nil .nil) .nil) (.node (o_286 v) .nil .nil))) (.node (o_97 v) (.node (o_131 v) (.node (o_199 v) (.node (o_338 v) .nil .nil) .nil) (.node (o_270 v) (.node (o_402 v) .nil .nil) .nil)) (.node (o_165 v) (.node (o_236 v) (.node (o_370 v) .nil .nil) .nil) (.node (o_302 v) .nil .nil)))))) (.node (b5 v) (.node (b9 v) (.node (o_53 v) (.node (o_69 v) (.node (o_103 v) (.node (o_171 v) (.node (o_308 v) .nil .nil) .nil) (.node (o_242 v) (.node (o_376 v) .nil .nil) .nil)) (.node (o_137 v) (.node (o_205 v) (.node (o_344 v) .nil .nil) .nil) (.node (o_276 v) .nil .nil))) (.node (o_87 v) (.node (o_121 v) (.node (o_187 v) (.node (o_326 v) .nil .nil) .nil) (.node (o_260 v) (.node (o_392 v) .nil .nil) .nil)) (.node (o_153 v) (.node (o_221 v) (.node (o_360 v) .nil .nil) .nil) (.node (o_292 v) .nil .nil)))) (.node (o_61 v) (.node (o_79 v) (.node (o_111 v) (.node (o_179 v) (.node (o_318 v) .nil .nil) .nil) (.node (o_250 v) (.node (o_384 v) .nil .nil) .nil)) (.node (o_145 v) (.node (o_213 v) (.node (o_352 v) .nil .nil) .nil) (.node (o_284 v) .nil .nil))) (.node (o_95 v) (.node (o_129 v) (.node (o_197 v) (.node (o_336 v) .nil .nil) .nil) (.node (o_268 v) (.node (o_400 v) .nil .nil) .nil)) (.node (o_163 v) (.node (o_229 v) (.node (o_368 v) .nil .nil) .nil) (.node (o_300 v) .nil .nil))))) (.node (o_45 v) (.node (o_57 v) (.node (o_75 v) (.node (o_107 v) (.node (o_175 v) (.node (o_312 v) .nil .nil) .nil) (.node (o_246 v) (.node (o_380 v) .nil .nil) .nil)) (.node (o_141 v) (.node (o_209 v) (.node (o_348 v) .nil .nil) .nil) (.node (o_280 v) .nil .nil))) (.node (o_91 v) (.node (o_125 v) (.node (o_193 v) (.node (o_332 v) .nil .nil) .nil) (.node (o_264 v) (.node (o_396 v) .nil .nil) .nil)) (.node (o_157 v) (.node (o_225 v) (.node (o_364 v) .nil .nil) .nil) (.node (o_296 v) .nil .nil)))) (.node (o_65 v) (.node (o_83 v) (.node (o_117 v) (.node (o_183 v) (.node (o_322 v) .nil .nil) .nil) (.node (o_256 v) (.node (o_388 v) .nil .nil) .nil)) (.node (o_149 v) (.node (o_217 v) (.node (o_356 v) .nil .nil) .nil) (.node (o_288 v) .nil .nil))) (.node (o_99 v) (.node (o_133 v) (.node (o_201 v) (.node (o_340 v) .nil .nil) .nil) (.node (o_272 v) .nil .nil)) (.node (o_167 v) (.node (o_238 v) (.node (o_372 v) .nil .nil) .nil) (.node (o_304 v) .nil .nil))))))) (.node (b2 v) (.node (b4 v) (.node (b8 v) (.node (o_52 v) (.node (o_68 v) (.node (o_102 v) (.node (o_170 v) (.node (o_307 v) .nil .nil) .nil) (.node (o_241 v) (.node (o_375 v) .nil .nil) .nil)) (.node (o_136 v) (.node (o_204 v) (.node (o_343 v) .nil .nil) .nil) (.node (o_275 v) .nil .nil))) (.node (o_86 v) (.node (o_120 v) (.node (o_186 v) (.node (o_325 v) .nil .nil) .nil) (.node (o_259 v) (.node (o_391 v) .nil .nil) .nil)) (.node (o_152 v) (.node (o_220 v) (.node (o_359 v) .nil .nil) .nil) (.node (o_291 v) .nil .nil)))) (.node (o_60 v) (.node (o_78 v) (.node (o_110 v) (.node (o_178 v) (.node (o_317 v) .nil .nil) .nil) (.node (o_249 v) (.node (o_383 v) .nil .nil) .nil)) (.node (o_144 v) (.node (o_212 v) (.node (o_351 v) .nil .nil) .nil) (.node (o_283 v) .nil .nil))) (.node (o_94 v) (.node (o_128 v) (.node (o_196 v) (.node (o_335 v) .nil .nil) .nil) (.node (o_267 v) (.node (o_399 v) .nil .nil) .nil)) (.node (o_162 v) (.node (o_228 v) (.node (o_367 v) .nil .nil) .nil) (.node (o_299 v) .nil .nil))))) (.node (o_330 v) (.node (o_56 v) (.node (o_74 v) (.node (o_106 v) (.node (o_174 v) (.node (o_311 v) .nil .nil) .nil) (.node (o_245 v) (.node (o_379 v) .nil .nil) .nil)) (.node (o_140 v) (.node (o_208 v) (.node (o_347 v) .nil .nil) .nil) (.node (o_279 v) .nil .nil))) (.node (o_90 v) (.node (o_124 v) (.node (o_192 v) (.node (o_331 v) .nil .nil) .nil) (.node (o_263 v) (.node (o_395 v) .nil .nil) .nil)) (.node (o_156 v) (.node (o_224 v) (.node (o_363 v) .nil .nil) .nil) (.node (o_295 v) .nil .nil)))) (.node (o_64 v) (.node (o_82 v) (.node (o_114 v) (.node (o_182 v) (.node (o_321 v) .nil .nil) .nil) (.node (o_253 v) (.node (o_387 v) .nil .nil) .nil)) (.node (o_148 v) (.node (o_216 v) (.node (o_355 v) .nil .nil) .nil) (.node (o_287 v) .nil .nil))) (.node (o_98 v) (.node (o_132 v) (.node (o_200 v) (.node (o_339 v) .nil .nil) .nil) (.node (o_271 v) .nil .nil)) (.node (o_166 v) (.node (o_237 v) (.node (o_371 v) .nil .nil) .nil) (.node (o_303 v) .nil .nil)))))) (.node (b6 v) (.node (b10 v) (.node (o_54 v) (.node (o_70 v) (.node (o_104 v) (.node (o_172 v) (.node (o_309 v) .nil .nil) .nil) (.node (o_243 v) (.node (o_377 v) .nil .nil) .nil)) (.node (o_138 v) (.node (o_206 v) (.node (o_345 v) .nil .nil) .nil) (.node (o_277 v) .nil .nil))) (.node (o_88 v) (.node (o_122 v) (.node (o_188 v) (.node (o_327 v) .nil .nil) .nil) (.node (o_261 v) (.node (o_393 v) .nil .nil) .nil)) (.node (o_154 v) (.node (o_222 v) (.node (o_361 v) .nil .nil) .nil) (.node (o_293 v) .nil .nil)))) (.node (o_62 v) (.node (o_80 v) (.node (o_112 v) (.node (o_180 v) (.node (o_319 v) .nil .nil) .nil) (.node (o_251 v) (.node (o_385 v) .nil .nil) .nil)) (.node (o_146 v) (.node (o_214 v) (.node (o_353 v) .nil .nil) .nil) (.node (o_285 v) .nil .nil))) (.node (o_96 v) (.node (o_130 v) (.node (o_198 v) (.node (o_337 v) .nil .nil) .nil) (.node (o_269 v) (.node (o_401 v) .nil .nil) .nil)) (.node (o_164 v) (.node (o_235 v) (.node (o_369 v) .nil .nil) .nil) (.node (o_301 v) .nil .nil))))) (.node (o_46 v) (.node (o_58 v) (.node (o_76 v) (.node (o_108 v) (.node (o_176 v) (.node (o_315 v) .nil .nil) .nil) (.node (o_247 v) (.node (o_381 v) .nil .nil) .nil)) (.node (o_142 v) (.node (o_210 v) (.node (o_349 v) .nil .nil) .nil) (.node (o_281 v) .nil .nil))) (.node (o_92 v) (.node (o_126 v) (.node (o_194 v) (.node (o_333 v) .nil .nil) .nil) (.node (o_265 v) (.node (o_397 v) .nil .nil) .nil)) (.node (o_158 v) (.node (o_226 v) (.node (o_365 v) .nil .nil) .nil) (.node (o_297 v) .nil .nil)))) (.node (o_66 v) (.node (o_84 v) (.node (o_118 v) (.node (o_184 v) (.node (o_323 v) .nil .nil) .nil) (.node (o_257 v) (.node (o_389 v) .nil .nil) .nil)) (.node (o_150 v) (.node (o_218 v) (.node (o_357 v) .nil .nil) .nil) (.node (o_289 v) .nil .nil))) (.node (o_100 v) (.node (o_134 v) (.node (o_202 v) (.node (o_341 v) .nil .nil) .nil) (.node (o_273 v) .nil .nil)) (.node (o_168 v) (.node (o_239 v) (.node (o_373 v) .nil .nil) .nil) (.node (o_305 v) .nil .nil))))))))
noncomputable def o_403 : PO := fun v => (.mk (.type k3) .none (.dict #[(de v z34 165 (.str z1 717)), (de v z35 166 .none), (de v z36 167 .none), (de v z37 168 (.builtin k4)), (de v z38 169 .none), (de v z39 170 (.ref 6)), (de v z40 171 (.ref 4)), (de v z41 173 (.str z3 172)), (de v z42 174 .none), (de v z43 193 (.ref 21)), (de v z44 197 (.int 12 196)), (de v z45 199 (.int 4 198)), (de v z46 201 (.int 16 200)), (de v z27 219 (.ref 31)), (de v z47 283 (.ref 72)), (de v z48 354 (.ref 114)), (de v z49 358 (.int 128 357)), (de v z8 384 (.ref 128)), (de v z2 396 (.ref 139)), (de v z50 403 (.ref 146)), (de v z51 431 (.ref 156)), (de v z52 438 (.ref 167)), (de v z53 450 (.ref 174)), (de v z54 463 (.ref 175)), (de v z55 470 (.ref 185)), (de v z10 486 (.ref 195)), (de v z114 498 (.ref 204)), (de v z123 596 (.ref 257)), (de v z124 605 (.ref 268)), (de v z6 615 (.ref 275)), (de v z93 716 (.ref 343)), (de v z125 728 (.ref 354)), (de v z65 737 (.ref 361)), (de v z0 745 (.ref 368)), (de v z60 756 (.ref 375)), (de v z91 768 (.ref 382)), (de v z9 777 (.ref 389)), (de v z126 789 (.ref 396)), (de v z92 798 (.ref 403)), (de v z14 810 (.ref 410)), (de v z122 824 (.ref 417)), (de v z94 843 (.ref 424))] 42) #[])
noncomputable def o_404 : PO := fun v => (.mk .none .none (.fields #[(.int 1 0), (.int 0 0), (.ref 20), (.int 8 0), (.int 0 0), (.ref 27), (.int 10 0), (.int 0 0), (.ref 40), (.int 33 0), (.int 0 0), (.ref 82), (.int 77 0), (.int 0 0), (.ref 124), (.int 81 0), (.int 0 0), (.ref 138), (.int 91 0), (.int 0 0), (.ref 145), (.int 94 0), (.int 0 0), (.ref 152), (.int 98 0), (.int 0 0), (.ref 166), (.int 102 0), (.int 0 0), (.ref 173), (.int 105 0), (.int 0 0), (.ref 184), (.int 107 0), (.int 0 0), (.ref 191), (.int 109 0), (.int 0 0), (.ref 203), (.int 119 0), (.int 0 0), (.ref 210), (.int 171 0), (.int 0 0), (.ref 267), (.int 176 0), (.int 0 0), (.ref 274), (.int 185 0), (.int 0 0), (.ref 281), (.int 227 0), (.int 0 0), (.ref 353), (.int 234 0), (.int 0 0), (.ref 360), (.int 237 0), (.int 0 0), (.ref 367), (.int 239 0), (.int 0 0), (.ref 374), (.int 241 0), (.int 0 0), (.ref 381), (.int 246 0), (.int 0 0), (.ref 388), (.int 248 0), (.int 0 0), (.ref 395), (.int 253 0), (.int 0 0), (.ref 402), (.int 255 0), (.int 0 0), (.ref 409), (.int 265 0), (.int 0 0), (.ref 416), (.int 276 0), (.int 0 0), (.ref 423)]) #[])
noncomputable def o_405 : PO := fun v => (.mk (.type k0) .none (.seq #[] 0) #[])
noncomputable def o_406 : PO := fun v => (.mk .none .none (.fields #[]) #[])
noncomputable def o_407 : PO := fun v => (.mk (.type k0) .none (.seq #[(.str z61 722), (.str z62 723), (.str z63 724), (.str z64 725)] 0) #[])
noncomputable def o_408 : PO := fun v => (.mk (.type k0) .none (.seq #[] 0) #[])
noncomputable def o_409 : PO := fun v => (.mk .none .none (.func (.mk z125 z125 (fA (sg PB 26)) (.stmts (fB (sg PB 26))) (fC (sg PB 26)) 0 [] .none .none .none .none .none .none .none 0)) #[])
noncomputable def o_410 : PO := fun v => (.mk (.type k1) .none (.fields #[(.str z125 719), (.str z125 720), (.str z3 721), (.int 227 0), (.int 2 0), (.int 0 0), (.int 0 0), (.int 3 0), (.ref 348), (.bool .true), (.int 181 0), (.ref 349), .none, (.ref 350), (.ref 351), (.ref 352), (.int 726 0), (.int 227 0), (.str z3 727)]) #[])
noncomputable def o_411 : PO := fun v => (.mk (.type k5) .none (.func (.mk z125 z125 (fA (sg PB 26)) (.stmts (fB (sg PB 26))) (fC (sg PB 26)) 3 [] .none .none .none (.str z1 717) .none (.ref 353) .none 0)) #[])
noncomputable def o_412 : PO := fun v => (.mk (.type k0) .none (.seq #[] 0) #[])
noncomputable def o_413 : PO := fun v => (.mk .none .none (.fields #[]) #[])
noncomputable def o_414 : PO := fun v => (.mk (.type k0) .none (.seq #[(.str z160 732), (.str z62 733), (.str z63 734)] 0) #[])
noncomputable def o_415 : PO := fun v => (.mk (.type k0) .none (.seq #[] 0) #[])
noncomputable def o_416 : PO := fun v => (.mk .none .none (.func (.mk z65 z65 (fA (sg PB 27)) (.stmts (fB (sg PB 27))) (fC (sg PB 27)) 0 [] .none .none .none .none .none .none .none 0)) #[])
noncomputable def o_417 : PO := fun v => (.mk (.type k1) .none (.fields #[(.str z65 729), (.str z65 730), (.str z3 731), (.int 234 0), (.int 2 0), (.int 0 0), (.int 0 0), (.int 3 0), (.ref 355), (.bool .true), (.int 181 0), (.ref 356), .none, (.ref 357), (.ref 358), (.ref 359), (.int 735 0), (.int 234 0), (.str z3 736)]) #[])
noncomputable def o_418 : PO := fun v => (.mk (.type k5) .none (.func (.mk z65 z65 (fA (sg PB 27)) (.stmts (fB (sg PB 27))) (fC (sg PB 27)) 3 [] .none .none .none (.str z1 717) .none (.ref 360) .none 0)) #[])
noncomputable def o_419 : PO := fun v => (.mk (.type k0) .none (.seq #[] 0) #[])
noncomputable def o_420 : PO := fun v => (.mk .none .none (.fields #[]) #[])
noncomputable def o_421 : PO := fun v => (.mk (.type k0) .none (.seq #[(.str z61 741), (.str z21 742)] 0) #[])
noncomputable def o_422 : PO := fun v => (.mk (.type k0) .none (.seq #[] 0) #[])
noncomputable def o_423 : PO := fun v => (.mk .none .none (.func (.mk z0 z0 (fA (sg PB 28)) (.stmts (fB (sg PB 28))) (fC (sg PB 28)) 0 [] .none .none .none .none .none .none .none 0)) #[])
noncomputable def o_424 : PO := fun v => (.mk (.type k1) .none (.fields #[(.str z0 738), (.str z0 739), (.str z3 740), (.int 237 0), (.int 2 0), (.int 0 0), (.int 0 0), (.int 3 0), (.ref 362), (.bool .true), (.int 181 0), (.ref 363), .none, (.ref 364), (.ref 365), (.ref 366), (.int 743 0), (.int 237 0), (.str z3 744)]) #[])
noncomputable def o_425 : PO := fun v => (.mk (.type k5) .none (.func (.mk z0 z0 (fA (sg PB 28)) (.stmts (fB (sg PB 28))) (fC (sg PB 28)) 3 [] .none .none .none (.str z1 717) .none (.ref 367) .none 0)) #[])
noncomputable def o_426 : PO := fun v => (.mk (.type k0) .none (.seq #[] 0) #[])
noncomputable def o_427 : PO := fun v => (.mk .none .none (.fields #[]) #[])
noncomputable def o_428 : PO := fun v => (.mk (.type k0) .none (.seq #[(.str z57 749), (.str z32 750), (.str z170 751), (.str z88 752), (.str z171 753)] 0) #[])
noncomputable def o_429 : PO := fun v => (.mk (.type k0) .none (.seq #[] 0) #[])
noncomputable def o_430 : PO := fun v => (.mk .none .none (.func (.mk z60 z60 (fA (sg PB 29)) (.stmts (fB (sg PB 29))) (fC (sg PB 29)) 0 [] .none .none .none .none .none .none .none 0)) #[])
noncomputable def o_431 : PO := fun v => (.mk (.type k1) .none (.fields #[(.str z60 746), (.str z60 747), (.str z3 748), (.int 239 0), (.int 5 0), (.int 0 0), (.int 0 0), (.int 3 0), (.ref 369), (.bool .true), (.int 181 0), (.ref 370), .none, (.ref 371), (.ref 372), (.ref 373), (.int 754 0), (.int 239 0), (.str z3 755)]) #[])
noncomputable def o_432 : PO := fun v => (.mk (.type k5) .none (.func (.mk z60 z60 (fA (sg PB 29)) (.stmts (fB (sg PB 29))) (fC (sg PB 29)) 3 [] .none .none .none (.str z1 717) .none (.ref 374) .none 0)) #[])
noncomputable def o_433 : PO := fun v => (.mk (.type k0) .none (.seq #[] 0) #[])
noncomputable def o_434 : PO := fun v => (.mk .none .none (.fields #[]) #[])
noncomputable def o_435 : PO := fun v => (.mk (.type k0) .none (.seq #[(.str z57 760), (.str z32 761), (.str z170 762), (.str z88 763), (.str z171 764), (.str z172 765)] 0) #[])
noncomputable def o_436 : PO := fun v => (.mk (.type k0) .none (.seq #[] 0) #[])
noncomputable def o_437 : PO := fun v => (.mk .none .none (.func (.mk z91 z91 (fA (sg PB 30)) (.stmts (fB (sg PB 30))) (fC (sg PB 30)) 0 [] .none .none .none .none .none .none .none 0)) #[])
noncomputable def o_438 : PO := fun v => (.mk (.type k1) .none (.fields #[(.str z91 757), (.str z91 758), (.str z3 759), (.int 241 0), (.int 5 0), (.int 0 0), (.int 0 0), (.int 3 0), (.ref 376), (.bool .true), (.int 181 0), (.ref 377), .none, (.ref 378), (.ref 379), (.ref 380), (.int 766 0), (.int 241 0), (.str z3 767)]) #[])
noncomputable def o_439 : PO := fun v => (.mk (.type k5) .none (.func (.mk z91 z91 (fA (sg PB 30)) (.stmts (fB (sg PB 30))) (fC (sg PB 30)) 3 [] .none .none .none (.str z1 717) .none (.ref 381) .none 0)) #[])
noncomputable def o_440 : PO := fun v => (.mk (.type k0) .none (.seq #[] 0) #[])
noncomputable def o_441 : PO := fun v => (.mk .none .none (.fields #[]) #[])
noncomputable def o_442 : PO := fun v => (.mk (.type k0) .none (.seq #[(.str z57 772), (.str z32 773), (.str z58 774)] 0) #[])
noncomputable def o_443 : PO := fun v => (.mk (.type k0) .none (.seq #[] 0) #[])
noncomputable def o_444 : PO := fun v => (.mk .none .none (.func (.mk z9 z9 (fA (sg PB 31)) (.stmts (fB (sg PB 31))) (fC (sg PB 31)) 0 [] .none .none .none .none .none .none .none 0)) #[])
noncomputable def o_445 : PO := fun v => (.mk (.type k1) .none (.fields #[(.str z9 769), (.str z9 770), (.str z3 771), (.int 246 0), (.int 3 0), (.int 0 0), (.int 0 0), (.int 3 0), (.ref 383), (.bool .true), (.int 181 0), (.ref 384), .none, (.ref 385), (.ref 386), (.ref 387), (.int 775 0), (.int 246 0), (.str z3 776)]) #[])
noncomputable def o_446 : PO := fun v => (.mk (.type k5) .none (.func (.mk z9 z9 (fA (sg PB 31)) (.stmts (fB (sg PB 31))) (fC (sg PB 31)) 3 [] .none .none .none (.str z1 717) .none (.ref 388) .none 0)) #[])
noncomputable def o_447 : PO := fun v => (.mk (.type k0) .none (.seq #[] 0) #[])
noncomputable def o_448 : PO := fun v => (.mk .none .none (.fields #[]) #[])
noncomputable def o_449 : PO := fun v => (.mk (.type k0) .none (.seq #[(.str z21 781), (.str z17 782), (.str z18 783), (.str z19 784), (.str z20 785), (.str z22 786)] 0) #[])
noncomputable def o_450 : PO := fun v => (.mk (.type k0) .none (.seq #[] 0) #[])
noncomputable def o_451 : PO := fun v => (.mk .none .none (.func (.mk z126 z126 (fA (sg PB 32)) (.stmts (fB (sg PB 32))) (fC (sg PB 32)) 0 [] .none .none .none .none .none .none .none 0)) #[])
noncomputable def o_452 : PO := fun v => (.mk (.type k1) .none (.fields #[(.str z126 778), (.str z126 779), (.str z3 780), (.int 248 0), (.int 5 0), (.int 0 0), (.int 0 0), (.int 3 0), (.ref 390), (.bool .true), (.int 181 0), (.ref 391), .none, (.ref 392), (.ref 393), (.ref 394), (.int 787 0), (.int 248 0), (.str z3 788)]) #[])
noncomputable def o_453 : PO := fun v => (.mk (.type k5) .none (.func (.mk z126 z126 (fA (sg PB 32)) (.stmts (fB (sg PB 32))) (fC (sg PB 32)) 3 [] .none .none .none (.str z1 717) .none (.ref 395) .none 0)) #[])
noncomputable def o_454 : PO := fun v => (.mk (.type k0) .none (.seq #[] 0) #[])
noncomputable def o_455 : PO := fun v => (.mk .none .none (.fields #[]) #[])
noncomputable def o_456 : PO := fun v => (.mk (.type k0) .none (.seq #[(.str z21 793), (.str z69 794), (.str z70 795)] 0) #[])
noncomputable def o_457 : PO := fun v => (.mk (.type k0) .none (.seq #[] 0) #[])
noncomputable def o_458 : PO := fun v => (.mk .none .none (.func (.mk z92 z92 (fA (sg PB 33)) (.stmts (fB (sg PB 33))) (fC (sg PB 33)) 0 [] .none .none .none .none .none .none .none 0)) #[])
noncomputable def o_459 : PO := fun v => (.mk (.type k1) .none (.fields #[(.str z92 790), (.str z92 791), (.str z3 792), (.int 253 0), (.int 3 0), (.int 0 0), (.int 0 0), (.int 3 0), (.ref 397), (.bool .true), (.int 181 0), (.ref 398), .none, (.ref 399), (.ref 400), (.ref 401), (.int 796 0), (.int 253 0), (.str z3 797)]) #[])
noncomputable def o_460 : PO := fun v => (.mk (.type k5) .none (.func (.mk z92 z92 (fA (sg PB 33)) (.stmts (fB (sg PB 33))) (fC (sg PB 33)) 3 [] .none .none .none (.str z1 717) .none (.ref 402) .none 0)) #[])
noncomputable def o_461 : PO := fun v => (.mk (.type k0) .none (.seq #[] 0) #[])
noncomputable def o_462 : PO := fun v => (.mk .none .none (.fields #[]) #[])
noncomputable def o_463 : PO := fun v => (.mk (.type k0) .none (.seq #[(.str z117 802), (.str z57 803), (.str z32 804), (.str z118 805), (.str z119 806), (.str z120 807)] 0) #[])
noncomputable def o_464 : PO := fun v => (.mk (.type k0) .none (.seq #[] 0) #[])
noncomputable def o_465 : PO := fun v => (.mk .none .none (.func (.mk z14 z14 (fA (sg PB 34)) (.stmts (fB (sg PB 34))) (fC (sg PB 34)) 0 [] .none .none .none .none .none .none .none 0)) #[])
noncomputable def o_466 : PO := fun v => (.mk (.type k1) .none (.fields #[(.str z14 799), (.str z14 800), (.str z3 801), (.int 255 0), (.int 6 0), (.int 0 0), (.int 0 0), (.int 3 0), (.ref 404), (.bool .true), (.int 181 0), (.ref 405), .none, (.ref 406), (.ref 407), (.ref 408), (.int 808 0), (.int 255 0), (.str z3 809)]) #[])
noncomputable def o_467 : PO := fun v => (.mk (.type k5) .none (.func (.mk z14 z14 (fA (sg PB 34)) (.stmts (fB (sg PB 34))) (fC (sg PB 34)) 3 [] .none .none .none (.str z1 717) .none (.ref 409) .none 0)) #[])
noncomputable def o_468 : PO := fun v => (.mk (.type k0) .none (.seq #[] 0) #[])
noncomputable def o_469 : PO := fun v => (.mk .none .none (.fields #[]) #[])
noncomputable def o_470 : PO := fun v => (.mk (.type k0) .none (.seq #[(.str z61 814), (.str z179 815), (.str z21 816), (.str z133 817), (.str z180 818), (.str z181 819), (.str z73 820), (.str z182 821)] 0) #[])
noncomputable def o_471 : PO := fun v => (.mk (.type k0) .none (.seq #[] 0) #[])
noncomputable def o_472 : PO := fun v => (.mk .none .none (.func (.mk z122 z122 (fA (sg PB 35)) (.stmts (fB (sg PB 35))) (fC (sg PB 35)) 0 [] .none .none .none .none .none .none .none 0)) #[])
noncomputable def o_473 : PO := fun v => (.mk (.type k1) .none (.fields #[(.str z122 811), (.str z122 812), (.str z3 813), (.int 265 0), (.int 1 0), (.int 0 0), (.int 0 0), (.int 3 0), (.ref 411), (.bool .true), (.int 181 0), (.ref 412), .none, (.ref 413), (.ref 414), (.ref 415), (.int 822 0), (.int 265 0), (.str z3 823)]) #[])
noncomputable def o_474 : PO := fun v => (.mk (.type k5) .none (.func (.mk z122 z122 (fA (sg PB 35)) (.stmts (fB (sg PB 35))) (fC (sg PB 35)) 3 [] .none .none .none (.str z1 717) .none (.ref 416) .none 0)) #[])
noncomputable def o_475 : PO := fun v => (.mk (.type k0) .none (.seq #[] 0) #[])
noncomputable def o_476 : PO := fun v => (.mk .none .none (.fields #[]) #[])
noncomputable def o_477 : PO := fun v => (.mk (.type k0) .none (.seq #[(.str z61 828), (.str z73 829), (.str z74 830), (.str z75 831), (.str z192 832), (.str z80 833), (.str z21 834), (.str z22 835), (.str z79 836), (.str z118 837), (.str z81 838), (.str z82 839), (.str z77 840)] 0) #[])
noncomputable def o_478 : PO := fun v => (.mk (.type k0) .none (.seq #[] 0) #[])
noncomputable def o_479 : PO := fun v => (.mk .none .none (.func (.mk z94 z94 (fA (sg PB 36)) (.stmts (fB (sg PB 36))) (fC (sg PB 36)) 0 [] .none .none .none .none .none .none .none 0)) #[])
noncomputable def o_480 : PO := fun v => (.mk (.type k1) .none (.fields #[(.str z94 825), (.str z94 826), (.str z3 827), (.int 276 0), (.int 4 0), (.int 0 0), (.int 0 0), (.int 3 0), (.ref 418), (.bool .true), (.int 181 0), (.ref 419), .none, (.ref 420), (.ref 421), (.ref 422), (.int 841 0), (.int 276 0), (.str z3 842)]) #[])
noncomputable def o_481 : PO := fun v => (.mk (.type k5) .none (.func (.mk z94 z94 (fA (sg PB 36)) (.stmts (fB (sg PB 36))) (fC (sg PB 36)) 3 [] .none .none .none (.str z1 717) .none (.ref 423) .none 0)) #[])
noncomputable def tree_481 : PT := fun v => (.node (b0 v) (.node (b1 v) (.node (o_403 v) (.node (b7 v) (.node (o_51 v) (.node (o_234 v) (.node (o_101 v) (.node (o_169 v) (.node (o_306 v) .nil .nil) (.node (o_440 v) .nil .nil)) (.node (o_240 v) (.node (o_374 v) .nil .nil) .nil)) (.node (o_135 v) (.node (o_203 v) (.node (o_342 v) .nil .nil) (.node (o_472 v) .nil .nil)) (.node (o_274 v) (.node (o_408 v) .nil .nil) .nil))) (.node (o_85 v) (.node (o_119 v) (.node (o_185 v) (.node (o_324 v) .nil .nil) (.node (o_456 v) .nil .nil)) (.node (o_258 v) (.node (o_390 v) .nil .nil) .nil)) (.node (o_151 v) (.node (o_219 v) (.node (o_358 v) .nil .nil) .nil) (.node (o_290 v) (.node (o_424 v) .nil .nil) .nil)))) (.node (o_59 v) (.node (o_77 v) (.node (o_109 v) (.node (o_177 v) (.node (o_316 v) .nil .nil) (.node (o_448 v) .nil .nil)) (.node (o_248 v) (.node (o_382 v) .nil .nil) .nil)) (.node (o_143 v) (.node (o_211 v) (.node (o_350 v) .nil .nil) (.node (o_480 v) .nil .nil)) (.node (o_282 v) (.node (o_416 v) .nil .nil) .nil))) (.node (o_93 v) (.node (o_127 v) (.node (o_195 v) (.node (o_334 v) .nil .nil) (.node (o_464 v) .nil .nil)) (.node (o_266 v) (.node (o_398 v) .nil .nil) .nil)) (.node (o_161 v) (.node (o_227 v) (.node (o_366 v) .nil .nil) .nil) (.node (o_298 v) (.node (o_432 v) .nil .nil) .nil))))) (.node (o_43 v) (.node (o_55 v) (.node (o_73 v) (.node (o_105 v) (.node (o_173 v) (.node (o_310 v) .nil .nil) (.node (o_444 v) .nil .nil)) (.node (o_244 v) (.node (o_378 v) .nil .nil) .nil)) (.node (o_139 v) (.node (o_207 v) (.node (o_346 v) .nil .nil) (.node (o_476 v) .nil .nil)) (.node (o_278 v) (.node (o_412 v) .nil .nil) .nil))) (.node (o_89 v) (.node (o_123 v) (.node (o_191 v) (.node (o_328 v) .nil .nil) (.node (o_460 v) .nil .nil)) (.node (o_262 v) (.node (o_394 v) .nil .nil) .nil)) (.node (o_155 v) (.node (o_223 v) (.node (o_362 v) .nil .nil) .nil) (.node (o_294 v) (.node (o_428 v) .nil .nil) .nil)))) (.node (o_63 v) (.node (o_81 v) (.node (o_113 v) (.node (o_181 v) (.node (o_320 v) .nil .nil) (.node (o_452 v) .nil .nil)) (.node (o_252 v) (.node (o_386 v) .nil .nil) .nil)) (.node (o_147 v) (.node (o_215 v) (.node (o_354 v) .nil .nil) .nil) (.node (o_286 v) (.node (o_420 v) .nil .nil) .nil))) (.node (o_97 v) (.node (o_131 v) (.node (o_199 v) (.node (o_338 v) .nil .nil) (.node (o_468 v) .nil .nil)) (.node (o_270 v) (.node (o_402 v) .nil .nil) .nil)) (.node (o_165 v) (.node (o_236 v) (.node (o_370 v) .nil .nil) .nil) (.node (o_302 v) (.node (o_436 v) .nil .nil) .nil)))))) (.node (b5 v) (.node (b9 v) (.node (o_53 v) (.node (o_69 v) (.node (o_103 v) (.node (o_171 v) (.node (o_308 v) .nil .nil) (.node (o_442 v) .nil .nil)) (.node (o_242 v) (.node (o_376 v) .nil .nil) .nil)) (.node (o_137 v) (.node (o_205 v) (.node (o_344 v) .nil .nil) (.node (o_474 v) .nil .nil)) (.node (o_276 v) (.node (o_410 v) .nil .nil) .nil))) (.node (o_87 v) (.node (o_121 v) (.node (o_187 v) (.node (o_326 v) .nil .nil) (.node (o_458 v) .nil .nil)) (.node (o_260 v) (.node (o_392 v) .nil .nil) .nil)) (.node (o_153 v) (.node (o_221 v) (.node (o_360 v) .nil .nil) .nil) (.node (o_292 v) (.node (o_426 v) .nil .nil) .nil)))) (.node (o_61 v) (.node (o_79 v) (.node (o_111 v) (.node (o_179 v) (.node (o_318 v) .nil .nil) (.node (o_450 v) .nil .nil)) (.node (o_250 v) (.node (o_384 v) .nil .nil) .nil)) (.node (o_145 v) (.node (o_213 v) (.node (o_352 v) .nil .nil) .nil) (.node (o_284 v) (.node (o_418 v) .nil .nil) .nil))) (.node (o_95 v) (.node (o_129 v) (.node (o_197 v) (.node (o_336 v) .nil .nil) (.node (o_466 v) .nil .nil)) (.node (o_268 v) (.node (o_400 v) .nil .nil) .nil)) (.node (o_163 v) (.node (o_229 v) (.node (o_368 v) .nil .nil) .nil) (.node (o_300 v) (.node (o_434 v) .nil .nil) .nil))))) (.node (o_45 v) (.node (o_57 v) (.node (o_75 v) (.node (o_107 v) (.node (o_175 v) (.node (o_312 v) .nil .nil) (.node (o_446 v) .nil .nil)) (.node (o_246 v) (.node (o_380 v) .nil .nil) .nil)) (.node (o_141 v) (.node (o_209 v) (.node (o_348 v) .nil .nil) (.node (o_478 v) .nil .nil)) (.node (o_280 v) (.node (o_414 v) .nil .nil) .nil))) (.node (o_91 v) (.node (o_125 v) (.node (o_193 v) (.node (o_332 v) .nil .nil) (.node (o_462 v) .nil .nil)) (.node (o_264 v) (.node (o_396 v) .nil .nil) .nil)) (.node (o_157 v) (.node (o_225 v) (.node (o_364 v) .nil .nil) .nil) (.node (o_296 v) (.node (o_430 v) .nil .nil) .nil)))) (.node (o_65 v) (.node (o_83 v) (.node (o_117 v) (.node (o_183 v) (.node (o_322 v) .nil .nil) (.node (o_454 v) .nil .nil)) (.node (o_256 v) (.node (o_388 v) .nil .nil) .nil)) (.node (o_149 v) (.node (o_217 v) (.node (o_356 v) .nil .nil) .nil) (.node (o_288 v) (.node (o_422 v) .nil .nil) .nil))) (.node (o_99 v) (.node (o_133 v) (.node (o_201 v) (.node (o_340 v) .nil .nil) (.node (o_470 v) .nil .nil)) (.node (o_272 v) (.node (o_406 v) .nil .nil) .nil)) (.node (o_167 v) (.node (o_238 v) (.node (o_372 v) .nil .nil) .nil) (.node (o_304 v) (.node (o_438 v) .nil .nil) .nil))))))) (.node (b2 v) (.node (b4 v) (.node (b8 v) (.node (o_52 v) (.node (o_68 v) (.node (o_102 v) (.node (o_170 v) (.node (o_307 v) .nil .nil) (.node (o_441 v) .nil .nil)) (.node (o_241 v) (.node (o_375 v) .nil .nil) .nil)) (.node (o_136 v) (.node (o_204 v) (.node (o_343 v) .nil .nil) (.node (o_473 v) .nil .nil)) (.node (o_275 v) (.node (o_409 v) .nil .nil) .nil))) (.node (o_86 v) (.node (o_120 v) (.node (o_186 v) (.node (o_325 v) .nil .nil) (.node (o_457 v) .nil .nil)) (.node (o_259 v) (.node (o_391 v) .nil .nil) .nil)) (.node (o_152 v) (.node (o_220 v) (.node (o_359 v) .nil .nil) .nil) (.node (o_291 v) (.node (o_425 v) .nil .nil) .nil)))) (.node (o_60 v) (.node (o_78 v) (.node (o_110 v) (.node (o_178 v) (.node (o_317 v) .nil .nil) (.node (o_449 v) .nil .nil)) (.node (o_249 v) (.node (o_383 v) .nil .nil) .nil)) (.node (o_144 v) (.node (o_212 v) (.node (o_351 v) .nil .nil) (.node (o_481 v) .nil .nil)) (.node (o_283 v) (.node (o_417 v) .nil .nil) .nil))) (.node (o_94 v) (.node (o_128 v) (.node (o_196 v) (.node (o_335 v) .nil .nil) (.node (o_465 v) .nil .nil)) (.node (o_267 v) (.node (o_399 v) .nil .nil) .nil)) (.node (o_162 v) (.node (o_228 v) (.node (o_367 v) .nil .nil) .nil) (.node (o_299 v) (.node (o_433 v) .nil .nil) .nil))))) (.node (o_404 v) (.node (o_56 v) (.node (o_74 v) (.node (o_106 v) (.node (o_174 v) (.node (o_311 v) .nil .nil) (.node (o_445 v) .nil .nil)) (.node (o_245 v) (.node (o_379 v) .nil .nil) .nil)) (.node (o_140 v) (.node (o_208 v) (.node (o_347 v) .nil .nil) (.node (o_477 v) .nil .nil)) (.node (o_279 v) (.node (o_413 v) .nil .nil) .nil))) (.node (o_90 v) (.node (o_124 v) (.node (o_192 v) (.node (o_331 v) .nil .nil) (.node (o_461 v) .nil .nil)) (.node (o_263 v) (.node (o_395 v) .nil .nil) .nil)) (.node (o_156 v) (.node (o_224 v) (.node (o_363 v) .nil .nil) .nil) (.node (o_295 v) (.node (o_429 v) .nil .nil) .nil)))) (.node (o_64 v) (.node (o_82 v) (.node (o_114 v) (.node (o_182 v) (.node (o_321 v) .nil .nil) (.node (o_453 v) .nil .nil)) (.node (o_253 v) (.node (o_387 v) .nil .nil) .nil)) (.node (o_148 v) (.node (o_216 v) (.node (o_355 v) .nil .nil) .nil) (.node (o_287 v) (.node (o_421 v) .nil .nil) .nil))) (.node (o_98 v) (.node (o_132 v) (.node (o_200 v) (.node (o_339 v) .nil .nil) (.node (o_469 v) .nil .nil)) (.node (o_271 v) (.node (o_405 v) .nil .nil) .nil)) (.node (o_166 v) (.node (o_237 v) (.node (o_371 v) .nil .nil) .nil) (.node (o_303 v) (.node (o_437 v) .nil .nil) .nil)))))) (.node (b6 v) (.node (b10 v) (.node (o_54 v) (.node (o_70 v) (.node (o_104 v) (.node (o_172 v) (.node (o_309 v) .nil .nil) (.node (o_443 v) .nil .nil)) (.node (o_243 v) (.node (o_377 v) .nil .nil) .nil)) (.node (o_138 v) (.node (o_206 v) (.node (o_345 v) .nil .nil) (.node (o_475 v) .nil .nil)) (.node (o_277 v) (.node (o_411 v) .nil .nil) .nil))) (.node (o_88 v) (.node (o_122 v) (.node (o_188 v) (.node (o_327 v) .nil .nil) (.node (o_459 v) .nil .nil)) (.node (o_261 v) (.node (o_393 v) .nil .nil) .nil)) (.node (o_154 v) (.node (o_222 v) (.node (o_361 v) .nil .nil) .nil) (.node (o_293 v) (.node (o_427 v) .nil .nil) .nil)))) (.node (o_62 v) (.node (o_80 v) (.node (o_112 v) (.node (o_180 v) (.node (o_319 v) .nil .nil) (.node (o_451 v) .nil .nil)) (.node (o_251 v) (.node (o_385 v) .nil .nil) .nil)) (.node (o_146 v) (.node (o_214 v) (.node (o_353 v) .nil .nil) .nil) (.node (o_285 v) (.node (o_419 v) .nil .nil) .nil))) (.node (o_96 v) (.node (o_130 v) (.node (o_198 v) (.node (o_337 v) .nil .nil) (.node (o_467 v) .nil .nil)) (.node (o_269 v) (.node (o_401 v) .nil .nil) .nil)) (.node (o_164 v) (.node (o_235 v) (.node (o_369 v) .nil .nil) .nil) (.node (o_301 v) (.node (o_435 v) .nil .nil) .nil))))) (.node (o_46 v) (.node (o_58 v) (.node (o_76 v) (.node (o_108 v) (.node (o_176 v) (.node (o_315 v) .nil .nil) (.node (o_447 v) .nil .nil)) (.node (o_247 v) (.node (o_381 v) .nil .nil) .nil)) (.node (o_142 v) (.node (o_210 v) (.node (o_349 v) .nil .nil) (.node (o_479 v) .nil .nil)) (.node (o_281 v) (.node (o_415 v) .nil .nil) .nil))) (.node (o_92 v) (.node (o_126 v) (.node (o_194 v) (.node (o_333 v) .nil .nil) (.node (o_463 v) .nil .nil)) (.node (o_265 v) (.node (o_397 v) .nil .nil) .nil)) (.node (o_158 v) (.node (o_226 v) (.node (o_365 v) .nil .nil) .nil) (.node (o_297 v) (.node (o_431 v) .nil .nil) .nil)))) (.node (o_66 v) (.node (o_84 v) (.node (o_118 v) (.node (o_184 v) (.node (o_323 v) .nil .nil) (.node (o_455 v) .nil .nil)) (.node (o_257 v) (.node (o_389 v) .nil .nil) .nil)) (.node (o_150 v) (.node (o_218 v) (.node (o_357 v) .nil .nil) .nil) (.node (o_289 v) (.node (o_423 v) .nil .nil) .nil))) (.node (o_100 v) (.node (o_134 v) (.node (o_202 v) (.node (o_341 v) .nil .nil) (.node (o_471 v) .nil .nil)) (.node (o_273 v) (.node (o_407 v) .nil .nil) .nil)) (.node (o_168 v) (.node (o_239 v) (.node (o_373 v) .nil .nil) .nil) (.node (o_305 v) (.node (o_439 v) .nil .nil) .nil))))))))
noncomputable def o_482 : PO := fun v => (.mk (.type k3) .none (.dict #[(de v z34 165 (.str z1 717)), (de v z35 166 .none), (de v z36 167 .none), (de v z37 168 (.builtin k4)), (de v z38 169 .none), (de v z39 170 (.ref 6)), (de v z40 171 (.ref 4)), (de v z41 173 (.str z3 172)), (de v z42 174 .none), (de v z43 193 (.ref 21)), (de v z44 197 (.int 12 196)), (de v z45 199 (.int 4 198)), (de v z46 201 (.int 16 200)), (de v z27 219 (.ref 31)), (de v z47 283 (.ref 72)), (de v z48 354 (.ref 114)), (de v z49 358 (.int 128 357)), (de v z8 384 (.ref 128)), (de v z2 396 (.ref 139)), (de v z50 403 (.ref 146)), (de v z51 431 (.ref 156)), (de v z52 438 (.ref 167)), (de v z53 450 (.ref 174)), (de v z54 463 (.ref 175)), (de v z55 470 (.ref 185)), (de v z10 486 (.ref 195)), (de v z114 498 (.ref 204)), (de v z123 596 (.ref 257)), (de v z124 605 (.ref 268)), (de v z6 615 (.ref 275)), (de v z93 716 (.ref 343)), (de v z125 728 (.ref 354)), (de v z65 737 (.ref 361)), (de v z0 745 (.ref 368)), (de v z60 756 (.ref 375)), (de v z91 768 (.ref 382)), (de v z9 777 (.ref 389)), (de v z126 789 (.ref 396)), (de v z92 798 (.ref 403)), (de v z14 810 (.ref 410)), (de v z122 824 (.ref 417)), (de v z94 843 (.ref 424)), (de v z110 853 (.ref 431)), (de v z7 877 (.ref 438)), (de v z127 892 (.ref 445))] 45) #[])
noncomputable def o_483 : PO := fun v => (.mk .none .none (.fields #[(.int 1 0), (.int 0 0), (.ref 20), (.int 8 0), (.int 0 0), (.ref 27), (.int 10 0), (.int 0 0), (.ref 40), (.int 33 0), (.int 0 0), (.ref 82), (.int 77 0), (.int 0 0), (.ref 124), (.int 81 0), (.int 0 0), (.ref 138), (.int 91 0), (.int 0 0), (.ref 145), (.int 94 0), (.int 0 0), (.ref 152), (.int 98 0), (.int 0 0), (.ref 166), (.int 102 0), (.int 0 0), (.ref 173), (.int 105 0), (.int 0 0), (.ref 184), (.int 107 0), (.int 0 0), (.ref 191), (.int 109 0), (.int 0 0), (.ref 203), (.int 119 0), (.int 0 0), (.ref 210), (.int 171 0), (.int 0 0), (.ref 267), (.int 176 0), (.int 0 0), (.ref 274), (.int 185 0), (.int 0 0), (.ref 281), (.int 227 0), (.int 0 0), (.ref 353), (.int 234 0), (.int 0 0), (.ref 360), (.int 237 0), (.int 0 0), (.ref 367), (.int 239 0), (.int 0 0), (.ref 374), (.int 241 0), (.int 0 0), (.ref 381), (.int 246 0), (.int 0 0), (.ref 388), (.int 248 0), (.int 0 0), (.ref 395), (.int 253 0), (.int 0 0), (.ref 402), (.int 255 0), (.int 0 0), (.ref 409), (.int 265 0), (.int 0 0), (.ref 416), (.int 276 0), (.int 0 0), (.ref 423), (.int 291 0), (.int 0 0), (.ref 430), (.int 299 0), (.int 0 0), (.ref 437), (.int 317 0), (.int 0 0), (.ref 444)]) #[])
noncomputable def o_484 : PO := fun v => (.mk (.type k0) .none (.seq #[] 0) #[])
noncomputable def o_485 : PO := fun v => (.mk .none .none (.fields #[]) #[])
noncomputable def o_486 : PO := fun v => (.mk (.type k0) .none (.seq #[(.str z73 847), (.str z74 848), (.str z182 849), (.str z193 850)] 0) #[])
noncomputable def o_487 : PO := fun v => (.mk (.type k0) .none (.seq #[] 0) #[])
noncomputable def o_488 : PO := fun v => (.mk .none .none (.func (.mk z110 z110 (fA (sg PB 37)) (.stmts (fB (sg PB 37))) (fC (sg PB 37)) 0 [] .none .none .none .none .none .none .none 0)) #[])
noncomputable def o_489 : PO := fun v => (.mk (.type k1) .none (.fields #[(.str z110 844), (.str z110 845), (.str z3 846), (.int 291 0), (.int 2 0), (.int 0 0), (.int 0 0), (.int 3 0), (.ref 425), (.bool .true), (.int 181 0), (.ref 426), .none, (.ref 427), (.ref 428), (.ref 429), (.int 851 0), (.int 291 0), (.str z3 852)]) #[])
noncomputable def o_490 : PO := fun v => (.mk (.type k5) .none (.func (.mk z110 z110 (fA (sg PB 37)) (.stmts (fB (sg PB 37))) (fC (sg PB 37)) 3 [] .none .none .none (.str z1 717) .none (.ref 430) .none 0)) #[])
noncomputable def o_491 : PO := fun v => (.mk (.type k0) .none (.seq #[] 0) #[])
noncomputable def o_492 : PO := fun v => (.mk .none .none (.fields #[]) #[])
noncomputable def o_493 : PO := fun v => (.mk (.type k0) .none (.seq #[(.str z61 857), (.str z73 858), (.str z74 859), (.str z75 860), (.str z76 861), (.str z77 862), (.str z78 863), (.str z79 864), (.str z80 865), (.str z81 866), (.str z82 867), (.str z22 868), (.str z83 869), (.str z64 870), (.str z84 871), (.str z85 872), (.str z86 873), (.str z87 874)] 0) #[])
noncomputable def o_494 : PO := fun v => (.mk (.type k0) .none (.seq #[] 0) #[])
noncomputable def o_495 : PO := fun v => (.mk .none .none (.func (.mk z7 z7 (fA (sg PB 38)) (.stmts (fB (sg PB 38))) (fC (sg PB 38)) 0 [] .none .none .none .none .none .none .none 0)) #[])
noncomputable def o_496 : PO := fun v => (.mk (.type k1) .none (.fields #[(.str z7 854), (.str z7 855), (.str z3 856), (.int 299 0), (.int 5 0), (.int 0 0), (.int 0 0), (.int 3 0), (.ref 432), (.bool .true), (.int 181 0), (.ref 433), .none, (.ref 434), (.ref 435), (.ref 436), (.int 875 0), (.int 299 0), (.str z3 876)]) #[])
noncomputable def o_497 : PO := fun v => (.mk (.type k5) .none (.func (.mk z7 z7 (fA (sg PB 38)) (.stmts (fB (sg PB 38))) (fC (sg PB 38)) 3 [] .none .none .none (.str z1 717) .none (.ref 437) .none 0)) #[])
noncomputable def o_498 : PO := fun v => (.mk (.type k0) .none (.seq #[] 0) #[])
noncomputable def o_499 : PO := fun v => (.mk .none .none (.fields #[]) #[])
noncomputable def o_500 : PO := fun v => (.mk (.type k0) .none (.seq #[(.str z160 881), (.str z61 882), (.str z73 883), (.str z74 884), (.str z161 885), (.str z75 886), (.str z162 887), (.str z76 888), (.str z163 889)] 0) #[])
noncomputable def o_501 : PO := fun v => (.mk (.type k0) .none (.seq #[] 0) #[])
noncomputable def o_502 : PO := fun v => (.mk .none .none (.func (.mk z127 z127 (fA (sg PB 39)) (.stmts (fB (sg PB 39))) (fC (sg PB 39)) 0 [] .none .none .none .none .none .none .none 0)) #[])
noncomputable def o_503 : PO := fun v => (.mk (.type k1) .none (.fields #[(.str z127 878), (.str z127 879), (.str z3 880), (.int 317 0), (.int 1 0), (.int 0 0), (.int 0 0), (.int 3 0), (.ref 439), (.bool .true), (.int 181 0), (.ref 440), .none, (.ref 441), (.ref 442), (.ref 443), (.int 890 0), (.int 317 0), (.str z3 891)]) #[])
noncomputable def o_504 : PO := fun v => (.mk (.type k5) .none (.func (.mk z127 z127 (fA (sg PB 39)) (.stmts (fB (sg PB 39))) (fC (sg PB 39)) 3 [] .none .none .none (.str z1 717) .none (.ref 444) .none 0)) #[])
noncomputable def tree_504 : PT := fun v => (.node (b0 v) (.node (b1 v) (.node (o_482 v) (.node (b7 v) (.node (o_51 v) (.node (o_234 v) (.node (o_101 v) (.node (o_169 v) (.node (o_306 v) .nil .nil) (.node (o_440 v) .nil .nil)) (.node (o_240 v) (.node (o_374 v) .nil .nil) .nil)) (.node (o_135 v) (.node (o_203 v) (.node (o_342 v) .nil .nil) (.node (o_472 v) .nil .nil)) (.node (o_274 v) (.node (o_408 v) .nil .nil) .nil))) (.node (o_85 v) (.node (o_119 v) (.node (o_185 v) (.node (o_324 v) .nil .nil) (.node (o_456 v) .nil .nil)) (.node (o_258 v) (.node (o_390 v) .nil .nil) .nil)) (.node (o_151 v) (.node (o_219 v) (.node (o_358 v) .nil .nil) (.node (o_490 v) .nil .nil)) (.node (o_290 v) (.node (o_424 v) .nil .nil) .nil)))) (.node (o_59 v) (.node (o_77 v) (.node (o_109 v) (.node (o_177 v) (.node (o_316 v) .nil .nil) (.node (o_448 v) .nil .nil)) (.node (o_248 v) (.node (o_382 v) .nil .nil) .nil)) (.node (o_143 v) (.node (o_211 v) (.node (o_350 v) .nil .nil) (.node (o_480 v) .nil .nil)) (.node (o_282 v) (.node (o_416 v) .nil .nil) .nil))) (.node (o_93 v) (.node (o_127 v) (.node (o_195 v) (.node (o_334 v) .nil .nil) (.node (o_464 v) .nil .nil)) (.node (o_266 v) (.node (o_398 v) .nil .nil) .nil)) (.node (o_161 v) (.node (o_227 v) (.node (o_366 v) .nil .nil) (.node (o_498 v) .nil .nil)) (.node (o_298 v) (.node (o_432 v) .nil .nil) .nil))))) (.node (o_43 v) (.node (o_55 v) (.node (o_73 v) (.node (o_105 v) (.node (o_173 v) (.node (o_310 v) .nil .nil) (.node (o_444 v) .nil .nil)) (.node (o_244 v) (.node (o_378 v) .nil .nil) .nil)) (.node (o_139 v) (.node (o_207 v) (.node (o_346 v) .nil .nil) (.node (o_476 v) .nil .nil)) (.node (o_278 v) (.node (o_412 v) .nil .nil) .nil))) (.node (o_89 v) (.node (o_123 v) (.node (o_191 v) (.node (o_328 v) .nil .nil) (.node (o_460 v) .nil .nil)) (.node (o_262 v) (.node (o_394 v) .nil .nil) .nil)) (.node (o_155 v) (.node (o_223 v) (.node (o_362 v) .nil .nil) (.node (o_494 v) .nil .nil)) (.node (o_294 v) (.node (o_428 v) .nil .nil) .nil)))) (.node (o_63 v) (.node (o_81 v) (.node (o_113 v) (.node (o_181 v) (.node (o_320 v) .nil .nil) (.node (o_452 v) .nil .nil)) (.node (o_252 v) (.node (o_386 v) .nil .nil) .nil)) (.node (o_147 v) (.node (o_215 v) (.node (o_354 v) .nil .nil) (.node (o_486 v) .nil .nil)) (.node (o_286 v) (.node (o_420 v) .nil .nil) .nil))) (.node (o_97 v) (.node (o_131 v) (.node (o_199 v) (.node (o_338 v) .nil .nil) (.node (o_468 v) .nil .nil)) (.node (o_270 v) (.node (o_402 v) .nil .nil) .nil)) (.node (o_165 v) (.node (o_236 v) (.node (o_370 v) .nil .nil) (.node (o_502 v) .nil .nil)) (.node (o_302 v) (.node (o_436 v) .nil .nil) .nil)))))) (.node (b5 v) (.node (b9 v) (.node (o_53 v) (.node (o_69 v) (.node (o_103 v) (.node (o_171 v) (.node (o_308 v) .nil .nil) (.node (o_442 v) .nil .nil)) (.node (o_242 v) (.node (o_376 v) .nil .nil) .nil)) (.node (o_137 v) (.node (o_205 v) (.node (o_344 v) .nil .nil) (.node (o_474 v) .nil .nil)) (.node (o_276 v) (.node (o_410 v) .nil .nil) .nil))) (.node (o_87 v) (.node (o_121 v) (.node (o_187 v) (.node (o_326 v) .nil .nil) (.node (o_458 v) .nil .nil)) (.node (o_260 v) (.node (o_392 v) .nil .nil) .nil)) (.node (o_153 v) (.node (o_221 v) (.node (o_360 v) .nil .nil) (.node (o_492 v) .nil .nil)) (.node (o_292 v) (.node (o_426 v) .nil .nil) .nil)))) (.node (o_61 v) (.node (o_79 v) (.node (o_111 v) (.node (o_179 v) (.node (o_318 v) .nil .nil) (.node (o_450 v) .nil .nil)) (.node (o_250 v) (.node (o_384 v) .nil .nil) .nil)) (.node (o_145 v) (.node (o_213 v) (.node (o_352 v) .nil .nil) (.node (o_484 v) .nil .nil)) (.node (o_284 v) (.node (o_418 v) .nil .nil) .nil))) (.node (o_95 v) (.node (o_129 v) (.node (o_197 v) (.node (o_336 v) .nil .nil) (.node (o_466 v) .nil .nil)) (.node (o_268 v) (.node (o_400 v) .nil .nil) .nil)) (.node (o_163 v) (.node (o_229 v) (.node (o_368 v) .nil .nil) (.node (o_500 v) .nil .nil)) (.node (o_300 v) (.node (o_434 v) .nil .nil) .nil))))) (.node (o_45 v) (.node (o_57 v) (.node (o_75 v) (.node (o_107 v) (.node (o_175 v) (.node (o_312 v) .nil .nil) (.node (o_446 v) .nil .nil)) (.node (o_246 v) (.node (o_380 v) .nil .nil) .nil)) (.node (o_141 v) (.node (o_209 v) (.node (o_348 v) .nil .nil) (.node (o_478 v) .nil .nil)) (.node (o_280 v) (.node (o_414 v) .nil .nil) .nil))) (.node (o_91 v) (.node (o_125 v) (.node (o_193 v) (.node (o_332 v) .nil .nil) (.node (o_462 v) .nil .nil)) (.node (o_264 v) (.node (o_396 v) .nil .nil) .nil)) (.node (o_157 v) (.node (o_225 v) (.node (o_364 v) .nil .nil) (.node (o_496 v) .nil .nil)) (.node (o_296 v) (.node (o_430 v) .nil .nil) .nil)))) (.node (o_65 v) (.node (o_83 v) (.node (o_117 v) (.node (o_183 v) (.node (o_322 v) .nil .nil) (.node (o_454 v) .nil .nil)) (.node (o_256 v) (.node (o_388 v) .nil .nil) .nil)) (.node (o_149 v) (.node (o_217 v) (.node (o_356 v) .nil .nil) (.node (o_488 v) .nil .nil)) (.node (o_288 v) (.node (o_422 v) .nil .nil) .nil))) (.node (o_99 v) (.node (o_133 v) (.node (o_201 v) (.node (o_340 v) .nil .nil) (.node (o_470 v) .nil .nil)) (.node (o_272 v) (.node (o_406 v) .nil .nil) .nil)) (.node (o_167 v) (.node (o_238 v) (.node (o_372 v) .nil .nil) (.node (o_504 v) .nil .nil)) (.node (o_304 v) (.node (o_438 v) .nil .nil) .nil))))))) (.node (b2 v) (.node (b4 v) (.node (b8 v) (.node (o_52 v) (.node (o_68 v) (.node (o_102 v) (.node (o_170 v) (.node (o_307 v) .nil .nil) (.node (o_441 v) .nil .nil)) (.node (o_241 v) (.node (o_375 v) .nil .nil) .nil)) (.node (o_136 v) (.node (o_204 v) (.node (o_343 v) .nil .nil) (.node (o_473 v) .nil .nil)) (.node (o_275 v) (.node (o_409 v) .nil .nil) .nil))) (.node (o_86 v) (.node (o_120 v) (.node (o_186 v) (.node (o_325 v) .nil .nil) (.node (o_457 v) .nil .nil)) (.node (o_259 v) (.node (o_391 v) .nil .nil) .nil)) (.node (o_152 v) (.node (o_220 v) (.node (o_359 v) .nil .nil) (.node (o_491 v) .nil .nil)) (.node (o_291 v) (.node (o_425 v) .nil .nil) .nil)))) (.node (o_60 v) (.node (o_78 v) (.node (o_110 v) (.node (o_178 v) (.node (o_317 v) .nil .nil) (.node (o_449 v) .nil .nil)) (.node (o_249 v) (.node (o_383 v) .nil .nil) .nil)) (.node (o_144 v) (.node (o_212 v) (.node (o_351 v) .nil .nil) (.node (o_481 v) .nil .nil)) (.node (o_283 v) (.node (o_417 v) .nil .nil) .nil))) (.node (o_94 v) (.node (o_128 v) (.node (o_196 v) (.node (o_335 v) .nil .nil) (.node (o_465 v) .nil .nil)) (.node (o_267 v) (.node (o_399 v) .nil .nil) .nil)) (.node (o_162 v) (.node (o_228 v) (.node (o_367 v) .nil .nil) (.node (o_499 v) .nil .nil)) (.node (o_299 v) (.node (o_433 v) .nil .nil) .nil))))) (.node (o_483 v) (.node (o_56 v) (.node (o_74 v) (.node (o_106 v) (.node (o_174 v) (.node (o_311 v) .nil .nil) (.node (o_445 v) .nil .nil)) (.node (o_245 v) (.node (o_379 v) .nil .nil) .nil)) (.node (o_140 v) (.node (o_208 v) (.node (o_347 v) .nil .nil) (.node (o_477 v) .nil .nil)) (.node (o_279 v) (.node (o_413 v) .nil .nil) .nil))) (.node (o_90 v) (.node (o_124 v) (.node (o_192 v) (.node (o_331 v) .nil .nil) (.node (o_461 v) .nil .nil)) (.node (o_263 v) (.node (o_395 v) .nil .nil) .nil)) (.node (o_156 v) (.node (o_224 v) (.node (o_363 v) .nil .nil) (.node (o_495 v) .nil .nil)) (.node (o_295 v) (.node (o_429 v) .nil .nil) .nil)))) (.node (o_64 v) (.node (o_82 v) (.node (o_114 v) (.node (o_182 v) (.node (o_321 v) .nil .nil) (.node (o_453 v) .nil .nil)) (.node (o_253 v) (.node (o_387 v) .nil .nil) .nil)) (.node (o_148 v) (.node (o_216 v) (.node (o_355 v) .nil .nil) (.node (o_487 v) .nil .nil)) (.node (o_287 v) (.node (o_421 v) .nil .nil) .nil))) (.node (o_98 v) (.node (o_132 v) (.node (o_200 v) (.node (o_339 v) .nil .nil) (.node (o_469 v) .nil .nil)) (.node (o_271 v) (.node (o_405 v) .nil .nil) .nil)) (.node (o_166 v) (.node (o_237 v) (.node (o_371 v) .nil .nil) (.node (o_503 v) .nil .nil)) (.node (o_303 v) (.node (o_437 v) .nil .nil) .nil)))))) (.node (b6 v) (.node (b10 v) (.node (o_54 v) (.node (o_70 v) (.node (o_104 v) (.node (o_172 v) (.node (o_309 v) .nil .nil) (.node (o_443 v) .nil .nil)) (.node (o_243 v) (.node (o_377 v) .nil .nil) .nil)) (.node (o_138 v) (.node (o_206 v) (.node (o_345 v) .nil .nil) (.node (o_475 v) .nil .nil)) (.node (o_277 v) (.node (o_411 v) .nil .nil) .nil))) (.node (o_88 v) (.node (o_122 v) (.node (o_188 v) (.node (o_327 v) .nil .nil) (.node (o_459 v) .nil .nil)) (.node (o_261 v) (.node (o_393 v) .nil .nil) .nil)) (.node (o_154 v) (.node (o_222 v) (.node (o_361 v) .nil .nil) (.node (o_493 v) .nil .nil)) (.node (o_293 v) (.node (o_427 v) .nil .nil) .nil)))) (.node (o_62 v) (.node (o_80 v) (.node (o_112 v) (.node (o_180 v) (.node (o_319 v) .nil .nil) (.node (o_451 v) .nil .nil)) (.node (o_251 v) (.node (o_385 v) .nil .nil) .nil)) (.node (o_146 v) (.node (o_214 v) (.node (o_353 v) .nil .nil) (.node (o_485 v) .nil .nil)) (.node (o_285 v) (.node (o_419 v) .nil .nil) .nil))) (.node (o_96 v) (.node (o_130 v) (.node (o_198 v) (.node (o_337 v) .nil .nil) (.node (o_467 v) .nil .nil)) (.node (o_269 v) (.node (o_401 v) .nil .nil) .nil)) (.node (o_164 v) (.node (o_235 v) (.node (o_369 v) .nil .nil) (.node (o_501 v) .nil .nil)) (.node (o_301 v) (.node (o_435 v) .nil .nil) .nil))))) (.node (o_46 v) (.node (o_58 v) (.node (o_76 v) (.node (o_108 v) (.node (o_176 v) (.node (o_315 v) .nil .nil) (.node (o_447 v) .nil .nil)) (.node (o_247 v) (.node (o_381 v) .nil .nil) .nil)) (.node (o_142 v) (.node (o_210 v) (.node (o_349 v) .nil .nil) (.node (o_479 v) .nil .nil)) (.node (o_281 v) (.node (o_415 v) .nil .nil) .nil))) (.node (o_92 v) (.node (o_126 v) (.node (o_194 v) (.node (o_333 v) .nil .nil) (.node (o_463 v) .nil .nil)) (.node (o_265 v) (.node (o_397 v) .nil .nil) .nil)) (.node (o_158 v) (.node (o_226 v) (.node (o_365 v) .nil .nil) (.node (o_497 v) .nil .nil)) (.node (o_297 v) (.node (o_431 v) .nil .nil) .nil)))) (.node (o_66 v) (.node (o_84 v) (.node (o_118 v) (.node (o_184 v) (.node (o_323 v) .nil .nil) (.node (o_455 v) .nil .nil)) (.node (o_257 v) (.node (o_389 v) .nil .nil) .nil)) (.node (o_150 v) (.node (o_218 v) (.node (o_357 v) .nil .nil) (.node (o_489 v) .nil .nil)) (.node (o_289 v) (.node (o_423 v) .nil .nil) .nil))) (.node (o_100 v) (.node (o_134 v) (.node (o_202 v) (.node (o_341 v) .nil .nil) (.node (o_471 v) .nil .nil)) (.node (o_273 v) (.node (o_407 v) .nil .nil) .nil)) (.node (o_168 v) (.node (o_239 v) (.node (o_373 v) .nil .nil) .nil) (.node (o_305 v) (.node (o_439 v) .nil .nil) .nil))))))))
noncomputable def env_41 : Env := (.mk (@PySem.Module.scope (@PySem.Program.main ((@PySem.W.OpenRow.toRowW (@PySem.W.Fast.tw2368527892694137696 PySem.Challenge.rw_ja0003_01))).1)) @PySem.mainNs @PySem.mainNs [] @PySem.Str.empty .none (.ref 13) (.some 14) 0)
noncomputable def sts_115 : List Stmt := [(sg PB 7), (sg PB 8), (sg PB 9)]
noncomputable def sts_159 : List Stmt := [(sg PB 10), (sg PB 11), (sg PB 12), (sg PB 13)]
noncomputable def sts_189 : List Stmt := [(sg PB 14), (sg PB 15), (sg PB 16), (sg PB 17), (sg PB 18)]
noncomputable def sts_232 : List Stmt := [(sg PB 19), (sg PB 20)]
noncomputable def sts_254 : List Stmt := [(sg PB 21)]
noncomputable def sts_313 : List Stmt := [(sg PB 22), (sg PB 23)]
noncomputable def sts_329 : List Stmt := [(sg PB 24)]
noncomputable def sts_403 : List Stmt := [(sg PB 25), (sg PB 26), (sg PB 27), (sg PB 28), (sg PB 29), (sg PB 30), (sg PB 31), (sg PB 32), (sg PB 33), (sg PB 34), (sg PB 35), (sg PB 36)]
noncomputable def sts_482 : List Stmt := [(sg PB 37), (sg PB 38), (sg PB 39)]
noncomputable def sts_49 : List Stmt := [(sg PB 0), (sg PB 1), (sg PB 2), (sg PB 3), (sg PB 4), (sg PB 5)]
noncomputable def sts_71 : List Stmt := [(sg PB 6)]
noncomputable def heap_46 : Params → Heap := (fun (v0 : @PySem.Params) => (.mk (.mk [(@PySem.W.boot_o_0 v0), (@PySem.W.boot_o_1 v0), (@PySem.W.boot_o_2 v0), (@PySem.W.boot_o_3 v0), (@PySem.W.boot_o_4 v0), (@PySem.W.boot_o_5 v0), (@PySem.W.boot_o_6 v0), (@PySem.W.boot_o_7 v0), (@PySem.W.boot_o_8 v0), (@PySem.W.boot_o_9 v0), (@PySem.W.boot_o_10 v0), (o_43 v0), (o_44 v0), (o_45 v0), (o_46 v0)]) (.mk [] [] [] 0 [] [] .false #[] [] 0 .false .false .false 0 [2000, 10, 10] .false 0 .true [] [] 0 .false)))
noncomputable def heap_505 : Params → Heap := (fun (v0 : @PySem.Params) => (.mk (.mk [(@PySem.W.boot_o_0 v0), (@PySem.W.boot_o_1 v0), (@PySem.W.boot_o_2 v0), (o_482 v0), (@PySem.W.boot_o_4 v0), (@PySem.W.boot_o_5 v0), (@PySem.W.boot_o_6 v0), (@PySem.W.boot_o_7 v0), (@PySem.W.boot_o_8 v0), (@PySem.W.boot_o_9 v0), (@PySem.W.boot_o_10 v0), (o_43 v0), (o_483 v0), (o_45 v0), (o_46 v0), (o_51 v0), (o_52 v0), (o_53 v0), (o_54 v0), (o_55 v0), (o_56 v0), (o_57 v0), (o_58 v0), (o_59 v0), (o_60 v0), (o_61 v0), (o_62 v0), (o_63 v0), (o_64 v0), (o_65 v0), (o_66 v0), (o_234 v0), (o_68 v0), (o_69 v0), (o_70 v0), (o_73 v0), (o_74 v0), (o_75 v0), (o_76 v0), (o_77 v0), (o_78 v0), (o_79 v0), (o_80 v0), (o_81 v0), (o_82 v0), (o_83 v0), (o_84 v0), (o_85 v0), (o_86 v0), (o_87 v0), (o_88 v0), (o_89 v0), (o_90 v0), (o_91 v0), (o_92 v0), (o_93 v0), (o_94 v0), (o_95 v0), (o_96 v0), (o_97 v0), (o_98 v0), (o_99 v0), (o_100 v0), (o_101 v0), (o_102 v0), (o_103 v0), (o_104 v0), (o_105 v0), (o_106 v0), (o_107 v0), (o_108 v0), (o_109 v0), (o_110 v0), (o_111 v0), (o_112 v0), (o_113 v0), (o_114 v0), (o_117 v0), (o_118 v0), (o_119 v0), (o_120 v0), (o_121 v0), (o_122 v0), (o_123 v0), (o_124 v0), (o_125 v0), (o_126 v0), (o_127 v0), (o_128 v0), (o_129 v0), (o_130 v0), (o_131 v0), (o_132 v0), (o_133 v0), (o_134 v0), (o_135 v0), (o_136 v0), (o_137 v0), (o_138 v0), (o_139 v0), (o_140 v0), (o_141 v0), (o_142 v0), (o_143 v0), (o_144 v0), (o_145 v0), (o_146 v0), (o_147 v0), (o_148 v0), (o_149 v0), (o_150 v0), (o_151 v0), (o_152 v0), (o_153 v0), (o_154 v0), (o_155 v0), (o_156 v0), (o_157 v0), (o_158 v0), (o_161 v0), (o_162 v0), (o_163 v0), (o_164 v0), (o_165 v0), (o_166 v0), (o_167 v0), (o_168 v0), (o_169 v0), (o_170 v0), (o_171 v0), (o_172 v0), (o_173 v0), (o_174 v0), (o_175 v0), (o_176 v0), (o_177 v0), (o_178 v0), (o_179 v0), (o_180 v0), (o_181 v0), (o_182 v0), (o_183 v0), (o_184 v0), (o_185 v0), (o_186 v0), (o_187 v0), (o_188 v0), (o_191 v0), (o_192 v0), (o_193 v0), (o_194 v0), (o_195 v0), (o_196 v0), (o_197 v0), (o_198 v0), (o_199 v0), (o_200 v0), (o_201 v0), (o_202 v0), (o_203 v0), (o_204 v0), (o_205 v0), (o_206 v0), (o_207 v0), (o_208 v0), (o_209 v0), (o_210 v0), (o_211 v0), (o_212 v0), (o_213 v0), (o_214 v0), (o_215 v0), (o_216 v0), (o_217 v0), (o_218 v0), (o_219 v0), (o_220 v0), (o_221 v0), (o_222 v0), (o_223 v0), (o_224 v0), (o_225 v0), (o_226 v0), (o_227 v0), (o_228 v0), (o_229 v0), (o_235 v0), (o_236 v0), (o_237 v0), (o_238 v0), (o_239 v0), (o_240 v0), (o_241 v0), (o_242 v0), (o_243 v0), (o_244 v0), (o_245 v0), (o_246 v0), (o_247 v0), (o_248 v0), (o_249 v0), (o_250 v0), (o_251 v0), (o_252 v0), (o_253 v0), (o_256 v0), (o_257 v0), (o_258 v0), (o_259 v0), (o_260 v0), (o_261 v0), (o_262 v0), (o_263 v0), (o_264 v0), (o_265 v0), (o_266 v0), (o_267 v0), (o_268 v0), (o_269 v0), (o_270 v0), (o_271 v0), (o_272 v0), (o_273 v0), (o_274 v0), (o_275 v0), (o_276 v0), (o_277 v0), (o_278 v0), (o_279 v0), (o_280 v0), (o_281 v0), (o_282 v0), (o_283 v0), (o_284 v0), (o_285 v0), (o_286 v0), (o_287 v0), (o_288 v0), (o_289 v0), (o_290 v0), (o_291 v0), (o_292 v0), (o_293 v0), (o_294 v0), (o_295 v0), (o_296 v0), (o_297 v0), (o_298 v0), (o_299 v0), (o_300 v0), (o_301 v0), (o_302 v0), (o_303 v0), (o_304 v0), (o_305 v0), (o_306 v0), (o_307 v0), (o_308 v0), (o_309 v0), (o_310 v0), (o_311 v0), (o_312 v0), (o_315 v0), (o_316 v0), (o_317 v0), (o_318 v0), (o_319 v0), (o_320 v0), (o_321 v0), (o_322 v0), (o_323 v0), (o_324 v0), (o_325 v0), (o_326 v0), (o_327 v0), (o_328 v0), (o_331 v0), (o_332 v0), (o_333 v0), (o_334 v0), (o_335 v0), (o_336 v0), (o_337 v0), (o_338 v0), (o_339 v0), (o_340 v0), (o_341 v0), (o_342 v0), (o_343 v0), (o_344 v0), (o_345 v0), (o_346 v0), (o_347 v0), (o_348 v0), (o_349 v0), (o_350 v0), (o_351 v0), (o_352 v0), (o_353 v0), (o_354 v0), (o_355 v0), (o_356 v0), (o_357 v0), (o_358 v0), (o_359 v0), (o_360 v0), (o_361 v0), (o_362 v0), (o_363 v0), (o_364 v0), (o_365 v0), (o_366 v0), (o_367 v0), (o_368 v0), (o_369 v0), (o_370 v0), (o_371 v0), (o_372 v0), (o_373 v0), (o_374 v0), (o_375 v0), (o_376 v0), (o_377 v0), (o_378 v0), (o_379 v0), (o_380 v0), (o_381 v0), (o_382 v0), (o_383 v0), (o_384 v0), (o_385 v0), (o_386 v0), (o_387 v0), (o_388 v0), (o_389 v0), (o_390 v0), (o_391 v0), (o_392 v0), (o_393 v0), (o_394 v0), (o_395 v0), (o_396 v0), (o_397 v0), (o_398 v0), (o_399 v0), (o_400 v0), (o_401 v0), (o_402 v0), (o_405 v0), (o_406 v0), (o_407 v0), (o_408 v0), (o_409 v0), (o_410 v0), (o_411 v0), (o_412 v0), (o_413 v0), (o_414 v0), (o_415 v0), (o_416 v0), (o_417 v0), (o_418 v0), (o_419 v0), (o_420 v0), (o_421 v0), (o_422 v0), (o_423 v0), (o_424 v0), (o_425 v0), (o_426 v0), (o_427 v0), (o_428 v0), (o_429 v0), (o_430 v0), (o_431 v0), (o_432 v0), (o_433 v0), (o_434 v0), (o_435 v0), (o_436 v0), (o_437 v0), (o_438 v0), (o_439 v0), (o_440 v0), (o_441 v0), (o_442 v0), (o_443 v0), (o_444 v0), (o_445 v0), (o_446 v0), (o_447 v0), (o_448 v0), (o_449 v0), (o_450 v0), (o_451 v0), (o_452 v0), (o_453 v0), (o_454 v0), (o_455 v0), (o_456 v0), (o_457 v0), (o_458 v0), (o_459 v0), (o_460 v0), (o_461 v0), (o_462 v0), (o_463 v0), (o_464 v0), (o_465 v0), (o_466 v0), (o_467 v0), (o_468 v0), (o_469 v0), (o_470 v0), (o_471 v0), (o_472 v0), (o_473 v0), (o_474 v0), (o_475 v0), (o_476 v0), (o_477 v0), (o_478 v0), (o_479 v0), (o_480 v0), (o_481 v0), (o_484 v0), (o_485 v0), (o_486 v0), (o_487 v0), (o_488 v0), (o_489 v0), (o_490 v0), (o_491 v0), (o_492 v0), (o_493 v0), (o_494 v0), (o_495 v0), (o_496 v0), (o_497 v0), (o_498 v0), (o_499 v0), (o_500 v0), (o_501 v0), (o_502 v0), (o_503 v0), (o_504 v0)]) (.mk [] [] [] 0 [] [] .false #[] [] 0 .false .false .false 0 [2000, 10, 10] .false 0 .true [] [] 0 .false)))
noncomputable def view_39 : Program := (.mk (.mk [(sg PB 0), (sg PB 2), (sg PB 3), (sg PB 4), (sg PB 5), (sg PB 6), (sg PB 7), (sg PB 9), (sg PB 10), (sg PB 11), (sg PB 12), (sg PB 14), (sg PB 15), (sg PB 16), (sg PB 17), (sg PB 18), (sg PB 19), (sg PB 20), (sg PB 21), (sg PB 22), (sg PB 23), (sg PB 24), (sg PB 26), (sg PB 27), (sg PB 28), (sg PB 29), (sg PB 30), (sg PB 31), (sg PB 32), (sg PB 33), (sg PB 34), (sg PB 35), (sg PB 36), (sg PB 37), (sg PB 38), (sg PB 39)] (@PySem.Module.scope (@PySem.Program.main ((@PySem.W.OpenRow.toRowW (@PySem.W.Fast.tw2368527892694137696 PySem.Challenge.rw_ja0003_01))).1)) (@PySem.Module.futureAnnotations (@PySem.Program.main ((@PySem.W.OpenRow.toRowW (@PySem.W.Fast.tw2368527892694137696 PySem.Challenge.rw_ja0003_01))).1)) (@PySem.Module.file (@PySem.Program.main ((@PySem.W.OpenRow.toRowW (@PySem.W.Fast.tw2368527892694137696 PySem.Challenge.rw_ja0003_01))).1)) (@PySem.Module.more (@PySem.Program.main ((@PySem.W.OpenRow.toRowW (@PySem.W.Fast.tw2368527892694137696 PySem.Challenge.rw_ja0003_01))).1))) (@PySem.Program.modules ((@PySem.W.OpenRow.toRowW (@PySem.W.Fast.tw2368527892694137696 PySem.Challenge.rw_ja0003_01))).1) (@PySem.Program.parses ((@PySem.W.OpenRow.toRowW (@PySem.W.Fast.tw2368527892694137696 PySem.Challenge.rw_ja0003_01))).1) (@PySem.Program.absent ((@PySem.W.OpenRow.toRowW (@PySem.W.Fast.tw2368527892694137696 PySem.Challenge.rw_ja0003_01))).1) (@PySem.Program.harvested ((@PySem.W.OpenRow.toRowW (@PySem.W.Fast.tw2368527892694137696 PySem.Challenge.rw_ja0003_01))).1) (@PySem.Program.given ((@PySem.W.OpenRow.toRowW (@PySem.W.Fast.tw2368527892694137696 PySem.Challenge.rw_ja0003_01))).1))
end
section
noncomputable def PBr : List Stmt := (OpenRow.toRowW (OpenLaw.row PySem.Challenge.rw_ja0003_01)).prog.main.body
noncomputable def fAll : Stmt → Arguments × List Stmt × Scope
  | .FunctionDef _ a b _ _ _ c .. => (a, b, c)
  | _ => (⟨[], [], none, [], [], none, []⟩, [], ⟨.function, [], false, false, []⟩)
noncomputable def lit1 {α : Type} (F : Arguments → List Stmt → Scope → α) (pa : Arguments) (bo : List Stmt) (sc : Scope) {x : Stmt} (_ : fAll x = (pa, bo, sc)) : α := F pa bo sc
noncomputable def r_57 : Params → Obj := by
  refine lit1 (fun pa bo sc => (fun (v0 : @PySem.Params) => (.mk (.type k5) .none (.func (.mk (PySem.Str.ofString "_wall") (PySem.Str.ofString "_wall") pa (.stmts bo) sc 3 [] .none .none .none (.str z59 164) .none (.ref 20) .none 0)) #[]))) ?pa ?bo ?sc (x := (sg PBr 0)) ?h
  case h => (conv => lhs; whnf)
noncomputable def r_86 : Params → Obj := by
  refine lit1 (fun pa bo sc => (fun (v0 : @PySem.Params) => (.mk (.type k5) .none (.func (.mk (PySem.Str.ofString "__init__") (PySem.Str.ofString "AEAD.__init__") pa (.stmts bo) sc 3 [] .none .none .none (.str z25 194) .none (.ref 47) .none 0)) #[]))) ?pa ?bo ?sc (x := (sg (fB (sg PBr 6)) 0)) ?h
  case h => (conv => lhs; whnf)
noncomputable def r_93 : Params → Obj := by
  refine lit1 (fun pa bo sc => (fun (v0 : @PySem.Params) => (.mk (.type k5) .none (.func (.mk (PySem.Str.ofString "decrypt") (PySem.Str.ofString "AEAD.decrypt") pa (.stmts bo) sc 3 [] .none .none .none (.str z25 194) .none (.ref 54) .none 0)) #[]))) ?pa ?bo ?sc (x := (sg (fB (sg PBr 6)) 1)) ?h
  case h => (conv => lhs; whnf)
noncomputable def r_100 : Params → Obj := by
  refine lit1 (fun pa bo sc => (fun (v0 : @PySem.Params) => (.mk (.type k5) .none (.func (.mk (PySem.Str.ofString "encrypt") (PySem.Str.ofString "AEAD.encrypt") pa (.stmts bo) sc 3 [] .none .none .none (.str z25 194) .none (.ref 61) .none 0)) #[]))) ?pa ?bo ?sc (x := (sg (fB (sg PBr 6)) 2)) ?h
  case h => (conv => lhs; whnf)
noncomputable def r_107 : Params → Obj := by
  refine lit1 (fun pa bo sc => (fun (v0 : @PySem.Params) => (.mk (.type k5) .none (.func (.mk (PySem.Str.ofString "_nonce") (PySem.Str.ofString "AEAD._nonce") pa (.stmts bo) sc 3 [] .none .none .none (.str z25 194) .none (.ref 68) .none 0)) #[]))) ?pa ?bo ?sc (x := (sg (fB (sg PBr 6)) 3)) ?h
  case h => (conv => lhs; whnf)
noncomputable def r_130 : Params → Obj := by
  refine lit1 (fun pa bo sc => (fun (v0 : @PySem.Params) => (.mk (.type k5) .none (.func (.mk (PySem.Str.ofString "__init__") (PySem.Str.ofString "HeaderProtection.__init__") pa (.stmts bo) sc 3 [] .none .none .none (.str z25 194) .none (.ref 89) .none 0)) #[]))) ?pa ?bo ?sc (x := (sg (fB (sg PBr 7)) 0)) ?h
  case h => (conv => lhs; whnf)
noncomputable def r_137 : Params → Obj := by
  refine lit1 (fun pa bo sc => (fun (v0 : @PySem.Params) => (.mk (.type k5) .none (.func (.mk (PySem.Str.ofString "apply") (PySem.Str.ofString "HeaderProtection.apply") pa (.stmts bo) sc 3 [] .none .none .none (.str z25 194) .none (.ref 96) .none 0)) #[]))) ?pa ?bo ?sc (x := (sg (fB (sg PBr 7)) 1)) ?h
  case h => (conv => lhs; whnf)
noncomputable def r_144 : Params → Obj := by
  refine lit1 (fun pa bo sc => (fun (v0 : @PySem.Params) => (.mk (.type k5) .none (.func (.mk (PySem.Str.ofString "remove") (PySem.Str.ofString "HeaderProtection.remove") pa (.stmts bo) sc 3 [] .none .none .none (.str z25 194) .none (.ref 103) .none 0)) #[]))) ?pa ?bo ?sc (x := (sg (fB (sg PBr 7)) 2)) ?h
  case h => (conv => lhs; whnf)
noncomputable def r_151 : Params → Obj := by
  refine lit1 (fun pa bo sc => (fun (v0 : @PySem.Params) => (.mk (.type k5) .none (.func (.mk (PySem.Str.ofString "_mask") (PySem.Str.ofString "HeaderProtection._mask") pa (.stmts bo) sc 3 [] .none .none .none (.str z25 194) .none (.ref 110) .none 0)) #[]))) ?pa ?bo ?sc (x := (sg (fB (sg PBr 7)) 3)) ?h
  case h => (conv => lhs; whnf)
noncomputable def r_181 : Params → Obj := by
  refine lit1 (fun pa bo sc => (fun (v0 : @PySem.Params) => (.mk (.type k5) .none (.func (.mk (PySem.Str.ofString "decode_packet_number") (PySem.Str.ofString "decode_packet_number") pa (.stmts bo) sc 3 [] .none .none .none (.str z99 355) .none (.ref 138) .none 0)) #[]))) ?pa ?bo ?sc (x := (sg PBr 11)) ?h
  case h => (conv => lhs; whnf)
noncomputable def r_188 : Params → Obj := by
  refine lit1 (fun pa bo sc => (fun (v0 : @PySem.Params) => (.mk (.type k5) .none (.func (.mk (PySem.Str.ofString "is_long_header") (PySem.Str.ofString "is_long_header") pa (.stmts bo) sc 3 [] .none .none .none (.str z99 355) .none (.ref 145) .none 0)) #[]))) ?pa ?bo ?sc (x := (sg PBr 12)) ?h
  case h => (conv => lhs; whnf)
noncomputable def r_211 : Params → Obj := by
  refine lit1 (fun pa bo sc => (fun (v0 : @PySem.Params) => (.mk (.type k5) .none (.func (.mk (PySem.Str.ofString "cipher_suite_hash") (PySem.Str.ofString "cipher_suite_hash") pa (.stmts bo) sc 3 [] .none .none .none (.str z13 404) .none (.ref 166) .none 0)) #[]))) ?pa ?bo ?sc (x := (sg PBr 15)) ?h
  case h => (conv => lhs; whnf)
noncomputable def r_218 : Params → Obj := by
  refine lit1 (fun pa bo sc => (fun (v0 : @PySem.Params) => (.mk (.type k5) .none (.func (.mk (PySem.Str.ofString "hkdf_expand_label") (PySem.Str.ofString "hkdf_expand_label") pa (.stmts bo) sc 3 [] .none .none .none (.str z13 404) .none (.ref 173) .none 0)) #[]))) ?pa ?bo ?sc (x := (sg PBr 16)) ?h
  case h => (conv => lhs; whnf)
noncomputable def r_229 : Params → Obj := by
  refine lit1 (fun pa bo sc => (fun (v0 : @PySem.Params) => (.mk (.type k5) .none (.func (.mk (PySem.Str.ofString "NoCallback") (PySem.Str.ofString "NoCallback") pa (.stmts bo) sc 3 [] .none .none .none (.str z13 404) .none (.ref 184) .none 0)) #[]))) ?pa ?bo ?sc (x := (sg PBr 18)) ?h
  case h => (conv => lhs; whnf)
noncomputable def r_253 : Params → Obj := by
  refine lit1 (fun pa bo sc => (fun (v0 : @PySem.Params) => (.mk (.type k5) .none (.func (.mk (PySem.Str.ofString "derive_key_iv_hp") (PySem.Str.ofString "derive_key_iv_hp") pa (.stmts bo) sc 3 [] .none .none .none (.str z13 404) .none (.ref 203) .none 0)) #[]))) ?pa ?bo ?sc (x := (sg PBr 20)) ?h
  case h => (conv => lhs; whnf)
noncomputable def r_270 : Params → Obj := by
  refine lit1 (fun pa bo sc => (fun (v0 : @PySem.Params) => (.mk (.type k5) .none (.func (.mk (PySem.Str.ofString "__init__") (PySem.Str.ofString "CryptoContext.__init__") pa (.stmts bo) sc 3 [] (.ref 212) .none .none (.str z13 404) .none (.ref 218) .none 0)) #[]))) ?pa ?bo ?sc (x := (sg (fB (sg PBr 21)) 0)) ?h
  case h => (conv => lhs; whnf)
noncomputable def r_277 : Params → Obj := by
  refine lit1 (fun pa bo sc => (fun (v0 : @PySem.Params) => (.mk (.type k5) .none (.func (.mk (PySem.Str.ofString "decrypt_packet") (PySem.Str.ofString "CryptoContext.decrypt_packet") pa (.stmts bo) sc 3 [] .none .none .none (.str z13 404) .none (.ref 225) .none 0)) #[]))) ?pa ?bo ?sc (x := (sg (fB (sg PBr 21)) 1)) ?h
  case h => (conv => lhs; whnf)
noncomputable def r_284 : Params → Obj := by
  refine lit1 (fun pa bo sc => (fun (v0 : @PySem.Params) => (.mk (.type k5) .none (.func (.mk (PySem.Str.ofString "encrypt_packet") (PySem.Str.ofString "CryptoContext.encrypt_packet") pa (.stmts bo) sc 3 [] .none .none .none (.str z13 404) .none (.ref 232) .none 0)) #[]))) ?pa ?bo ?sc (x := (sg (fB (sg PBr 21)) 2)) ?h
  case h => (conv => lhs; whnf)
noncomputable def r_291 : Params → Obj := by
  refine lit1 (fun pa bo sc => (fun (v0 : @PySem.Params) => (.mk (.type k5) .none (.func (.mk (PySem.Str.ofString "is_valid") (PySem.Str.ofString "CryptoContext.is_valid") pa (.stmts bo) sc 3 [] .none .none .none (.str z13 404) .none (.ref 239) .none 0)) #[]))) ?pa ?bo ?sc (x := (sg (fB (sg PBr 21)) 3)) ?h
  case h => (conv => lhs; whnf)
noncomputable def r_298 : Params → Obj := by
  refine lit1 (fun pa bo sc => (fun (v0 : @PySem.Params) => (.mk (.type k5) .none (.func (.mk (PySem.Str.ofString "setup") (PySem.Str.ofString "CryptoContext.setup") pa (.stmts bo) sc 3 [] .none .none .none (.str z13 404) .none (.ref 246) .none 0)) #[]))) ?pa ?bo ?sc (x := (sg (fB (sg PBr 21)) 4)) ?h
  case h => (conv => lhs; whnf)
noncomputable def r_305 : Params → Obj := by
  refine lit1 (fun pa bo sc => (fun (v0 : @PySem.Params) => (.mk (.type k5) .none (.func (.mk (PySem.Str.ofString "teardown") (PySem.Str.ofString "CryptoContext.teardown") pa (.stmts bo) sc 3 [] .none .none .none (.str z13 404) .none (.ref 253) .none 0)) #[]))) ?pa ?bo ?sc (x := (sg (fB (sg PBr 21)) 5)) ?h
  case h => (conv => lhs; whnf)
noncomputable def r_321 : Params → Obj := by
  refine lit1 (fun pa bo sc => (fun (v0 : @PySem.Params) => (.mk (.type k5) .none (.func (.mk (PySem.Str.ofString "apply_key_phase") (PySem.Str.ofString "apply_key_phase") pa (.stmts bo) sc 3 [] .none .none .none (.str z13 404) .none (.ref 267) .none 0)) #[]))) ?pa ?bo ?sc (x := (sg PBr 22)) ?h
  case h => (conv => lhs; whnf)
noncomputable def r_328 : Params → Obj := by
  refine lit1 (fun pa bo sc => (fun (v0 : @PySem.Params) => (.mk (.type k5) .none (.func (.mk (PySem.Str.ofString "next_key_phase") (PySem.Str.ofString "next_key_phase") pa (.stmts bo) sc 3 [] .none .none .none (.str z13 404) .none (.ref 274) .none 0)) #[]))) ?pa ?bo ?sc (x := (sg PBr 23)) ?h
  case h => (conv => lhs; whnf)
noncomputable def r_345 : Params → Obj := by
  refine lit1 (fun pa bo sc => (fun (v0 : @PySem.Params) => (.mk (.type k5) .none (.func (.mk (PySem.Str.ofString "__init__") (PySem.Str.ofString "CryptoPair.__init__") pa (.stmts bo) sc 3 [] (.ref 283) .none .none (.str z13 404) .none (.ref 289) .none 0)) #[]))) ?pa ?bo ?sc (x := (sg (fB (sg PBr 24)) 0)) ?h
  case h => (conv => lhs; whnf)
noncomputable def r_352 : Params → Obj := by
  refine lit1 (fun pa bo sc => (fun (v0 : @PySem.Params) => (.mk (.type k5) .none (.func (.mk (PySem.Str.ofString "decrypt_packet") (PySem.Str.ofString "CryptoPair.decrypt_packet") pa (.stmts bo) sc 3 [] .none .none .none (.str z13 404) .none (.ref 296) .none 0)) #[]))) ?pa ?bo ?sc (x := (sg (fB (sg PBr 24)) 1)) ?h
  case h => (conv => lhs; whnf)
noncomputable def r_359 : Params → Obj := by
  refine lit1 (fun pa bo sc => (fun (v0 : @PySem.Params) => (.mk (.type k5) .none (.func (.mk (PySem.Str.ofString "encrypt_packet") (PySem.Str.ofString "CryptoPair.encrypt_packet") pa (.stmts bo) sc 3 [] .none .none .none (.str z13 404) .none (.ref 303) .none 0)) #[]))) ?pa ?bo ?sc (x := (sg (fB (sg PBr 24)) 2)) ?h
  case h => (conv => lhs; whnf)
noncomputable def r_366 : Params → Obj := by
  refine lit1 (fun pa bo sc => (fun (v0 : @PySem.Params) => (.mk (.type k5) .none (.func (.mk (PySem.Str.ofString "setup_initial") (PySem.Str.ofString "CryptoPair.setup_initial") pa (.stmts bo) sc 3 [] .none .none .none (.str z13 404) .none (.ref 310) .none 0)) #[]))) ?pa ?bo ?sc (x := (sg (fB (sg PBr 24)) 3)) ?h
  case h => (conv => lhs; whnf)
noncomputable def r_373 : Params → Obj := by
  refine lit1 (fun pa bo sc => (fun (v0 : @PySem.Params) => (.mk (.type k5) .none (.func (.mk (PySem.Str.ofString "teardown") (PySem.Str.ofString "CryptoPair.teardown") pa (.stmts bo) sc 3 [] .none .none .none (.str z13 404) .none (.ref 317) .none 0)) #[]))) ?pa ?bo ?sc (x := (sg (fB (sg PBr 24)) 4)) ?h
  case h => (conv => lhs; whnf)
noncomputable def r_380 : Params → Obj := by
  refine lit1 (fun pa bo sc => (fun (v0 : @PySem.Params) => (.mk (.type k5) .none (.func (.mk (PySem.Str.ofString "update_key") (PySem.Str.ofString "CryptoPair.update_key") pa (.stmts bo) sc 3 [] .none .none .none (.str z13 404) .none (.ref 324) .none 0)) #[]))) ?pa ?bo ?sc (x := (sg (fB (sg PBr 24)) 5)) ?h
  case h => (conv => lhs; whnf)
noncomputable def r_387 : Params → Obj := by
  refine lit1 (fun pa bo sc => (fun (v0 : @PySem.Params) => (.mk (.type k5) .none (.func (.mk (PySem.Str.ofString "key_phase") (PySem.Str.ofString "CryptoPair.key_phase") pa (.stmts bo) sc 3 [] .none .none .none (.str z13 404) .none (.ref 331) .none 0)) #[]))) ?pa ?bo ?sc (x := (sg (fB (sg PBr 24)) 6)) ?h
  case h => (conv => lhs; whnf)
noncomputable def r_395 : Params → Obj := by
  refine lit1 (fun pa bo sc => (fun (v0 : @PySem.Params) => (.mk (.type k5) .none (.func (.mk (PySem.Str.ofString "_update_key") (PySem.Str.ofString "CryptoPair._update_key") pa (.stmts bo) sc 3 [] .none .none .none (.str z13 404) .none (.ref 339) .none 0)) #[]))) ?pa ?bo ?sc (x := (sg (fB (sg PBr 24)) 7)) ?h
  case h => (conv => lhs; whnf)
noncomputable def r_411 : Params → Obj := by
  refine lit1 (fun pa bo sc => (fun (v0 : @PySem.Params) => (.mk (.type k5) .none (.func (.mk (PySem.Str.ofString "_law_take") (PySem.Str.ofString "_law_take") pa (.stmts bo) sc 3 [] .none .none .none (.str z1 717) .none (.ref 353) .none 0)) #[]))) ?pa ?bo ?sc (x := (sg PBr 26)) ?h
  case h => (conv => lhs; whnf)
noncomputable def r_418 : Params → Obj := by
  refine lit1 (fun pa bo sc => (fun (v0 : @PySem.Params) => (.mk (.type k5) .none (.func (.mk (PySem.Str.ofString "_law_state") (PySem.Str.ofString "_law_state") pa (.stmts bo) sc 3 [] .none .none .none (.str z1 717) .none (.ref 360) .none 0)) #[]))) ?pa ?bo ?sc (x := (sg PBr 27)) ?h
  case h => (conv => lhs; whnf)
noncomputable def r_425 : Params → Obj := by
  refine lit1 (fun pa bo sc => (fun (v0 : @PySem.Params) => (.mk (.type k5) .none (.func (.mk (PySem.Str.ofString "_law_octets") (PySem.Str.ofString "_law_octets") pa (.stmts bo) sc 3 [] .none .none .none (.str z1 717) .none (.ref 367) .none 0)) #[]))) ?pa ?bo ?sc (x := (sg PBr 28)) ?h
  case h => (conv => lhs; whnf)
noncomputable def r_432 : Params → Obj := by
  refine lit1 (fun pa bo sc => (fun (v0 : @PySem.Params) => (.mk (.type k5) .none (.func (.mk (PySem.Str.ofString "_law_seal") (PySem.Str.ofString "_law_seal") pa (.stmts bo) sc 3 [] .none .none .none (.str z1 717) .none (.ref 374) .none 0)) #[]))) ?pa ?bo ?sc (x := (sg PBr 29)) ?h
  case h => (conv => lhs; whnf)
noncomputable def r_439 : Params → Obj := by
  refine lit1 (fun pa bo sc => (fun (v0 : @PySem.Params) => (.mk (.type k5) .none (.func (.mk (PySem.Str.ofString "_law_opened") (PySem.Str.ofString "_law_opened") pa (.stmts bo) sc 3 [] .none .none .none (.str z1 717) .none (.ref 381) .none 0)) #[]))) ?pa ?bo ?sc (x := (sg PBr 30)) ?h
  case h => (conv => lhs; whnf)
noncomputable def r_446 : Params → Obj := by
  refine lit1 (fun pa bo sc => (fun (v0 : @PySem.Params) => (.mk (.type k5) .none (.func (.mk (PySem.Str.ofString "_law_mask") (PySem.Str.ofString "_law_mask") pa (.stmts bo) sc 3 [] .none .none .none (.str z1 717) .none (.ref 388) .none 0)) #[]))) ?pa ?bo ?sc (x := (sg PBr 31)) ?h
  case h => (conv => lhs; whnf)
noncomputable def r_453 : Params → Obj := by
  refine lit1 (fun pa bo sc => (fun (v0 : @PySem.Params) => (.mk (.type k5) .none (.func (.mk (PySem.Str.ofString "_law_expand") (PySem.Str.ofString "_law_expand") pa (.stmts bo) sc 3 [] .none .none .none (.str z1 717) .none (.ref 395) .none 0)) #[]))) ?pa ?bo ?sc (x := (sg PBr 32)) ?h
  case h => (conv => lhs; whnf)
noncomputable def r_460 : Params → Obj := by
  refine lit1 (fun pa bo sc => (fun (v0 : @PySem.Params) => (.mk (.type k5) .none (.func (.mk (PySem.Str.ofString "_law_extract") (PySem.Str.ofString "_law_extract") pa (.stmts bo) sc 3 [] .none .none .none (.str z1 717) .none (.ref 402) .none 0)) #[]))) ?pa ?bo ?sc (x := (sg PBr 33)) ?h
  case h => (conv => lhs; whnf)
noncomputable def r_467 : Params → Obj := by
  refine lit1 (fun pa bo sc => (fun (v0 : @PySem.Params) => (.mk (.type k5) .none (.func (.mk (PySem.Str.ofString "_law_primitives") (PySem.Str.ofString "_law_primitives") pa (.stmts bo) sc 3 [] .none .none .none (.str z1 717) .none (.ref 409) .none 0)) #[]))) ?pa ?bo ?sc (x := (sg PBr 34)) ?h
  case h => (conv => lhs; whnf)
noncomputable def r_474 : Params → Obj := by
  refine lit1 (fun pa bo sc => (fun (v0 : @PySem.Params) => (.mk (.type k5) .none (.func (.mk (PySem.Str.ofString "_law_sides") (PySem.Str.ofString "_law_sides") pa (.stmts bo) sc 3 [] .none .none .none (.str z1 717) .none (.ref 416) .none 0)) #[]))) ?pa ?bo ?sc (x := (sg PBr 35)) ?h
  case h => (conv => lhs; whnf)
noncomputable def r_481 : Params → Obj := by
  refine lit1 (fun pa bo sc => (fun (v0 : @PySem.Params) => (.mk (.type k5) .none (.func (.mk (PySem.Str.ofString "_law_sealed") (PySem.Str.ofString "_law_sealed") pa (.stmts bo) sc 3 [] .none .none .none (.str z1 717) .none (.ref 423) .none 0)) #[]))) ?pa ?bo ?sc (x := (sg PBr 36)) ?h
  case h => (conv => lhs; whnf)
noncomputable def r_490 : Params → Obj := by
  refine lit1 (fun pa bo sc => (fun (v0 : @PySem.Params) => (.mk (.type k5) .none (.func (.mk (PySem.Str.ofString "_law_phases") (PySem.Str.ofString "_law_phases") pa (.stmts bo) sc 3 [] .none .none .none (.str z1 717) .none (.ref 430) .none 0)) #[]))) ?pa ?bo ?sc (x := (sg PBr 37)) ?h
  case h => (conv => lhs; whnf)
noncomputable def r_497 : Params → Obj := by
  refine lit1 (fun pa bo sc => (fun (v0 : @PySem.Params) => (.mk (.type k5) .none (.func (.mk (PySem.Str.ofString "_law_taken") (PySem.Str.ofString "_law_taken") pa (.stmts bo) sc 3 [] .none .none .none (.str z1 717) .none (.ref 437) .none 0)) #[]))) ?pa ?bo ?sc (x := (sg PBr 38)) ?h
  case h => (conv => lhs; whnf)
noncomputable def r_504 : Params → Obj := by
  refine lit1 (fun pa bo sc => (fun (v0 : @PySem.Params) => (.mk (.type k5) .none (.func (.mk (PySem.Str.ofString "law") (PySem.Str.ofString "law") pa (.stmts bo) sc 3 [] .none .none .none (.str z1 717) .none (.ref 444) .none 0)) #[]))) ?pa ?bo ?sc (x := (sg PBr 39)) ?h
  case h => (conv => lhs; whnf)
noncomputable def KK : Params → Frag := fun P => (nat_lit 2, PySem.W.boot_o_2 P) :: (nat_lit 3, o_482 P) :: (nat_lit 15, o_51 P) :: (nat_lit 17, o_53 P) :: (nat_lit 18, o_54 P) :: (nat_lit 20, o_56 P) :: (nat_lit 21, r_57 P) :: (nat_lit 22, o_58 P) :: (nat_lit 29, o_65 P) :: (nat_lit 30, o_66 P) :: (nat_lit 31, o_234 P) :: (nat_lit 32, o_68 P) :: (nat_lit 42, o_80 P) :: (nat_lit 44, o_82 P) :: (nat_lit 45, o_83 P) :: (nat_lit 47, o_85 P) :: (nat_lit 48, r_86 P) :: (nat_lit 49, o_87 P) :: (nat_lit 51, o_89 P) :: (nat_lit 52, o_90 P) :: (nat_lit 54, o_92 P) :: (nat_lit 55, r_93 P) :: (nat_lit 56, o_94 P) :: (nat_lit 58, o_96 P) :: (nat_lit 59, o_97 P) :: (nat_lit 61, o_99 P) :: (nat_lit 62, r_100 P) :: (nat_lit 63, o_101 P) :: (nat_lit 65, o_103 P) :: (nat_lit 66, o_104 P) :: (nat_lit 68, o_106 P) :: (nat_lit 69, r_107 P) :: (nat_lit 70, o_108 P) :: (nat_lit 71, o_109 P) :: (nat_lit 72, o_110 P) :: (nat_lit 73, o_111 P) :: (nat_lit 74, o_112 P) :: (nat_lit 84, o_124 P) :: (nat_lit 86, o_126 P) :: (nat_lit 87, o_127 P) :: (nat_lit 89, o_129 P) :: (nat_lit 90, r_130 P) :: (nat_lit 91, o_131 P) :: (nat_lit 93, o_133 P) :: (nat_lit 94, o_134 P) :: (nat_lit 96, o_136 P) :: (nat_lit 97, r_137 P) :: (nat_lit 98, o_138 P) :: (nat_lit 100, o_140 P) :: (nat_lit 101, o_141 P) :: (nat_lit 103, o_143 P) :: (nat_lit 104, r_144 P) :: (nat_lit 105, o_145 P) :: (nat_lit 107, o_147 P) :: (nat_lit 108, o_148 P) :: (nat_lit 110, o_150 P) :: (nat_lit 111, r_151 P) :: (nat_lit 112, o_152 P) :: (nat_lit 113, o_153 P) :: (nat_lit 114, o_154 P) :: (nat_lit 115, o_155 P) :: (nat_lit 116, o_156 P) :: (nat_lit 126, o_168 P) :: (nat_lit 127, o_169 P) :: (nat_lit 128, o_170 P) :: (nat_lit 129, o_171 P) :: (nat_lit 130, o_172 P) :: (nat_lit 133, o_175 P) :: (nat_lit 135, o_177 P) :: (nat_lit 136, o_178 P) :: (nat_lit 138, o_180 P) :: (nat_lit 139, r_181 P) :: (nat_lit 140, o_182 P) :: (nat_lit 142, o_184 P) :: (nat_lit 143, o_185 P) :: (nat_lit 145, o_187 P) :: (nat_lit 146, r_188 P) :: (nat_lit 154, o_198 P) :: (nat_lit 155, o_199 P) :: (nat_lit 156, o_200 P) :: (nat_lit 157, o_201 P) :: (nat_lit 158, o_202 P) :: (nat_lit 161, o_205 P) :: (nat_lit 163, o_207 P) :: (nat_lit 164, o_208 P) :: (nat_lit 166, o_210 P) :: (nat_lit 167, r_211 P) :: (nat_lit 168, o_212 P) :: (nat_lit 170, o_214 P) :: (nat_lit 171, o_215 P) :: (nat_lit 173, o_217 P) :: (nat_lit 174, r_218 P) :: (nat_lit 175, o_219 P) :: (nat_lit 176, o_220 P) :: (nat_lit 177, o_221 P) :: (nat_lit 178, o_222 P) :: (nat_lit 179, o_223 P) :: (nat_lit 181, o_225 P) :: (nat_lit 182, o_226 P) :: (nat_lit 184, o_228 P) :: (nat_lit 185, r_229 P) :: (nat_lit 186, o_235 P) :: (nat_lit 193, o_242 P) :: (nat_lit 194, o_243 P) :: (nat_lit 195, o_244 P) :: (nat_lit 198, o_247 P) :: (nat_lit 200, o_249 P) :: (nat_lit 201, o_250 P) :: (nat_lit 203, o_252 P) :: (nat_lit 204, r_253 P) :: (nat_lit 212, o_263 P) :: (nat_lit 213, o_264 P) :: (nat_lit 215, o_266 P) :: (nat_lit 216, o_267 P) :: (nat_lit 218, o_269 P) :: (nat_lit 219, r_270 P) :: (nat_lit 220, o_271 P) :: (nat_lit 222, o_273 P) :: (nat_lit 223, o_274 P) :: (nat_lit 225, o_276 P) :: (nat_lit 226, r_277 P) :: (nat_lit 227, o_278 P) :: (nat_lit 229, o_280 P) :: (nat_lit 230, o_281 P) :: (nat_lit 232, o_283 P) :: (nat_lit 233, r_284 P) :: (nat_lit 234, o_285 P) :: (nat_lit 236, o_287 P) :: (nat_lit 237, o_288 P) :: (nat_lit 239, o_290 P) :: (nat_lit 240, r_291 P) :: (nat_lit 241, o_292 P) :: (nat_lit 243, o_294 P) :: (nat_lit 244, o_295 P) :: (nat_lit 246, o_297 P) :: (nat_lit 247, r_298 P) :: (nat_lit 248, o_299 P) :: (nat_lit 250, o_301 P) :: (nat_lit 251, o_302 P) :: (nat_lit 253, o_304 P) :: (nat_lit 254, r_305 P) :: (nat_lit 255, o_306 P) :: (nat_lit 256, o_307 P) :: (nat_lit 257, o_308 P) :: (nat_lit 258, o_309 P) :: (nat_lit 259, o_310 P) :: (nat_lit 262, o_315 P) :: (nat_lit 264, o_317 P) :: (nat_lit 265, o_318 P) :: (nat_lit 267, o_320 P) :: (nat_lit 268, r_321 P) :: (nat_lit 269, o_322 P) :: (nat_lit 271, o_324 P) :: (nat_lit 272, o_325 P) :: (nat_lit 274, o_327 P) :: (nat_lit 275, r_328 P) :: (nat_lit 283, o_338 P) :: (nat_lit 284, o_339 P) :: (nat_lit 286, o_341 P) :: (nat_lit 287, o_342 P) :: (nat_lit 289, o_344 P) :: (nat_lit 290, r_345 P) :: (nat_lit 291, o_346 P) :: (nat_lit 293, o_348 P) :: (nat_lit 294, o_349 P) :: (nat_lit 296, o_351 P) :: (nat_lit 297, r_352 P) :: (nat_lit 298, o_353 P) :: (nat_lit 300, o_355 P) :: (nat_lit 301, o_356 P) :: (nat_lit 303, o_358 P) :: (nat_lit 304, r_359 P) :: (nat_lit 305, o_360 P) :: (nat_lit 307, o_362 P) :: (nat_lit 308, o_363 P) :: (nat_lit 310, o_365 P) :: (nat_lit 311, r_366 P) :: (nat_lit 312, o_367 P) :: (nat_lit 314, o_369 P) :: (nat_lit 315, o_370 P) :: (nat_lit 317, o_372 P) :: (nat_lit 318, r_373 P) :: (nat_lit 319, o_374 P) :: (nat_lit 321, o_376 P) :: (nat_lit 322, o_377 P) :: (nat_lit 324, o_379 P) :: (nat_lit 325, r_380 P) :: (nat_lit 326, o_381 P) :: (nat_lit 328, o_383 P) :: (nat_lit 329, o_384 P) :: (nat_lit 331, o_386 P) :: (nat_lit 332, r_387 P) :: (nat_lit 333, o_388 P) :: (nat_lit 334, o_389 P) :: (nat_lit 336, o_391 P) :: (nat_lit 337, o_392 P) :: (nat_lit 339, o_394 P) :: (nat_lit 340, r_395 P) :: (nat_lit 341, o_396 P) :: (nat_lit 342, o_397 P) :: (nat_lit 343, o_398 P) :: (nat_lit 344, o_399 P) :: (nat_lit 345, o_400 P) :: (nat_lit 348, o_405 P) :: (nat_lit 350, o_407 P) :: (nat_lit 351, o_408 P) :: (nat_lit 353, o_410 P) :: (nat_lit 354, r_411 P) :: (nat_lit 355, o_412 P) :: (nat_lit 357, o_414 P) :: (nat_lit 358, o_415 P) :: (nat_lit 360, o_417 P) :: (nat_lit 361, r_418 P) :: (nat_lit 362, o_419 P) :: (nat_lit 364, o_421 P) :: (nat_lit 365, o_422 P) :: (nat_lit 367, o_424 P) :: (nat_lit 368, r_425 P) :: (nat_lit 369, o_426 P) :: (nat_lit 371, o_428 P) :: (nat_lit 372, o_429 P) :: (nat_lit 374, o_431 P) :: (nat_lit 375, r_432 P) :: (nat_lit 376, o_433 P) :: (nat_lit 378, o_435 P) :: (nat_lit 379, o_436 P) :: (nat_lit 381, o_438 P) :: (nat_lit 382, r_439 P) :: (nat_lit 383, o_440 P) :: (nat_lit 385, o_442 P) :: (nat_lit 386, o_443 P) :: (nat_lit 388, o_445 P) :: (nat_lit 389, r_446 P) :: (nat_lit 390, o_447 P) :: (nat_lit 392, o_449 P) :: (nat_lit 393, o_450 P) :: (nat_lit 395, o_452 P) :: (nat_lit 396, r_453 P) :: (nat_lit 397, o_454 P) :: (nat_lit 399, o_456 P) :: (nat_lit 400, o_457 P) :: (nat_lit 402, o_459 P) :: (nat_lit 403, r_460 P) :: (nat_lit 404, o_461 P) :: (nat_lit 406, o_463 P) :: (nat_lit 407, o_464 P) :: (nat_lit 409, o_466 P) :: (nat_lit 410, r_467 P) :: (nat_lit 411, o_468 P) :: (nat_lit 413, o_470 P) :: (nat_lit 414, o_471 P) :: (nat_lit 416, o_473 P) :: (nat_lit 417, r_474 P) :: (nat_lit 418, o_475 P) :: (nat_lit 420, o_477 P) :: (nat_lit 421, o_478 P) :: (nat_lit 423, o_480 P) :: (nat_lit 424, r_481 P) :: (nat_lit 425, o_484 P) :: (nat_lit 427, o_486 P) :: (nat_lit 428, o_487 P) :: (nat_lit 430, o_489 P) :: (nat_lit 431, r_490 P) :: (nat_lit 432, o_491 P) :: (nat_lit 434, o_493 P) :: (nat_lit 435, o_494 P) :: (nat_lit 437, o_496 P) :: (nat_lit 438, r_497 P) :: (nat_lit 439, o_498 P) :: (nat_lit 441, o_500 P) :: (nat_lit 442, o_501 P) :: (nat_lit 444, o_503 P) :: (nat_lit 445, r_504 P) :: []
noncomputable abbrev HK : Hook := kHook KK [(nat_lit 2), (nat_lit 3), (nat_lit 15), (nat_lit 17), (nat_lit 18), (nat_lit 20), (nat_lit 21), (nat_lit 22), (nat_lit 29), (nat_lit 30), (nat_lit 31), (nat_lit 32), (nat_lit 42), (nat_lit 44), (nat_lit 45), (nat_lit 47), (nat_lit 48), (nat_lit 49), (nat_lit 51), (nat_lit 52), (nat_lit 54), (nat_lit 55), (nat_lit 56), (nat_lit 58), (nat_lit 59), (nat_lit 61), (nat_lit 62), (nat_lit 63), (nat_lit 65), (nat_lit 66), (nat_lit 68), (nat_lit 69), (nat_lit 70), (nat_lit 71), (nat_lit 72), (nat_lit 73), (nat_lit 74), (nat_lit 84), (nat_lit 86), (nat_lit 87), (nat_lit 89), (nat_lit 90), (nat_lit 91), (nat_lit 93), (nat_lit 94), (nat_lit 96), (nat_lit 97), (nat_lit 98), (nat_lit 100), (nat_lit 101), (nat_lit 103), (nat_lit 104), (nat_lit 105), (nat_lit 107), (nat_lit 108), (nat_lit 110), (nat_lit 111), (nat_lit 112), (nat_lit 113), (nat_lit 114), (nat_lit 115), (nat_lit 116), (nat_lit 126), (nat_lit 127), (nat_lit 128), (nat_lit 129), (nat_lit 130), (nat_lit 133), (nat_lit 135), (nat_lit 136), (nat_lit 138), (nat_lit 139), (nat_lit 140), (nat_lit 142), (nat_lit 143), (nat_lit 145), (nat_lit 146), (nat_lit 154), (nat_lit 155), (nat_lit 156), (nat_lit 157), (nat_lit 158), (nat_lit 161), (nat_lit 163), (nat_lit 164), (nat_lit 166), (nat_lit 167), (nat_lit 168), (nat_lit 170), (nat_lit 171), (nat_lit 173), (nat_lit 174), (nat_lit 175), (nat_lit 176), (nat_lit 177), (nat_lit 178), (nat_lit 179), (nat_lit 181), (nat_lit 182), (nat_lit 184), (nat_lit 185), (nat_lit 186), (nat_lit 193), (nat_lit 194), (nat_lit 195), (nat_lit 198), (nat_lit 200), (nat_lit 201), (nat_lit 203), (nat_lit 204), (nat_lit 212), (nat_lit 213), (nat_lit 215), (nat_lit 216), (nat_lit 218), (nat_lit 219), (nat_lit 220), (nat_lit 222), (nat_lit 223), (nat_lit 225), (nat_lit 226), (nat_lit 227), (nat_lit 229), (nat_lit 230), (nat_lit 232), (nat_lit 233), (nat_lit 234), (nat_lit 236), (nat_lit 237), (nat_lit 239), (nat_lit 240), (nat_lit 241), (nat_lit 243), (nat_lit 244), (nat_lit 246), (nat_lit 247), (nat_lit 248), (nat_lit 250), (nat_lit 251), (nat_lit 253), (nat_lit 254), (nat_lit 255), (nat_lit 256), (nat_lit 257), (nat_lit 258), (nat_lit 259), (nat_lit 262), (nat_lit 264), (nat_lit 265), (nat_lit 267), (nat_lit 268), (nat_lit 269), (nat_lit 271), (nat_lit 272), (nat_lit 274), (nat_lit 275), (nat_lit 283), (nat_lit 284), (nat_lit 286), (nat_lit 287), (nat_lit 289), (nat_lit 290), (nat_lit 291), (nat_lit 293), (nat_lit 294), (nat_lit 296), (nat_lit 297), (nat_lit 298), (nat_lit 300), (nat_lit 301), (nat_lit 303), (nat_lit 304), (nat_lit 305), (nat_lit 307), (nat_lit 308), (nat_lit 310), (nat_lit 311), (nat_lit 312), (nat_lit 314), (nat_lit 315), (nat_lit 317), (nat_lit 318), (nat_lit 319), (nat_lit 321), (nat_lit 322), (nat_lit 324), (nat_lit 325), (nat_lit 326), (nat_lit 328), (nat_lit 329), (nat_lit 331), (nat_lit 332), (nat_lit 333), (nat_lit 334), (nat_lit 336), (nat_lit 337), (nat_lit 339), (nat_lit 340), (nat_lit 341), (nat_lit 342), (nat_lit 343), (nat_lit 344), (nat_lit 345), (nat_lit 348), (nat_lit 350), (nat_lit 351), (nat_lit 353), (nat_lit 354), (nat_lit 355), (nat_lit 357), (nat_lit 358), (nat_lit 360), (nat_lit 361), (nat_lit 362), (nat_lit 364), (nat_lit 365), (nat_lit 367), (nat_lit 368), (nat_lit 369), (nat_lit 371), (nat_lit 372), (nat_lit 374), (nat_lit 375), (nat_lit 376), (nat_lit 378), (nat_lit 379), (nat_lit 381), (nat_lit 382), (nat_lit 383), (nat_lit 385), (nat_lit 386), (nat_lit 388), (nat_lit 389), (nat_lit 390), (nat_lit 392), (nat_lit 393), (nat_lit 395), (nat_lit 396), (nat_lit 397), (nat_lit 399), (nat_lit 400), (nat_lit 402), (nat_lit 403), (nat_lit 404), (nat_lit 406), (nat_lit 407), (nat_lit 409), (nat_lit 410), (nat_lit 411), (nat_lit 413), (nat_lit 414), (nat_lit 416), (nat_lit 417), (nat_lit 418), (nat_lit 420), (nat_lit 421), (nat_lit 423), (nat_lit 424), (nat_lit 425), (nat_lit 427), (nat_lit 428), (nat_lit 430), (nat_lit 431), (nat_lit 432), (nat_lit 434), (nat_lit 435), (nat_lit 437), (nat_lit 438), (nat_lit 439), (nat_lit 441), (nat_lit 442), (nat_lit 444), (nat_lit 445)] (fun _ => by kernel_rfl)
end
section
theorem q46 : (∀ (v0 : @PySem.World), (@Eq (∀ (v1 : @PySem.OsState), (@Option (@Prod @PySem.Shared @PySem.Thread))) (fun (v1 : @PySem.OsState) => (@PySem.W.Fast.tw15667345088766844465 @PySem.W.Fast.tw14364793385576792824 ((@PySem.W.OpenRow.toRowW (@PySem.W.Fast.tw2368527892694137696 PySem.Challenge.rw_ja0003_01))).1 v0 (nat_lit 11) (@Option.some @PySem.Value (@PySem.Value.ref 6)) (nat_lit 12) (@PySem.Shared.mk (@PySem.W.boot_heap (@PySem.World.params v0)) (@Array.mk @PySem.GenState []) @PySem.W.boot_drawn @PySem.W.boot_toks v1) (@PySem.W.topStub ((@PySem.W.OpenRow.toRowW (@PySem.W.Fast.tw2368527892694137696 PySem.Challenge.rw_ja0003_01))).1))) (fun (v1 : @PySem.OsState) => (@Option.some (@Prod @PySem.Shared @PySem.Thread) (@Prod.mk @PySem.Shared @PySem.Thread (@PySem.Shared.mk (heap_46 (@PySem.World.params v0)) (@Array.mk @PySem.GenState []) (@PySem.Drawn.mk 0 0 0 0) (nat_lit 187) v1) (@PySem.Thread.mk (@PySem.W.Fast.tw11892475500146522536 @PySem.W.Fast.tw14364793385576792824 (@PySem.Code.body (@PySem.W.behindTheImports ((@PySem.W.OpenRow.toRowW (@PySem.W.Fast.tw2368527892694137696 PySem.Challenge.rw_ja0003_01))).1) env_41)) (@PySem.Code.body (@PySem.W.behindTheImports ((@PySem.W.OpenRow.toRowW (@PySem.W.Fast.tw2368527892694137696 PySem.Challenge.rw_ja0003_01))).1) env_41) (@PySem.Pos.mk 0 0 0 0) [(@PySem.W.topFrame (@PySem.Pos.mk 0 0 0 0))])))))) := by
  intro w
  kernel_rfl
theorem q48 : (∀ (v0 : @PySem.World), (@Eq (∀ (v1 : @PySem.OsState), (@Option (@Prod @PySem.Flow (@Prod @PySem.Shared (@Prod @PySem.Code @PySem.Pos))))) (fun (v1 : @PySem.OsState) => (@PySem.W.Fast.tw14374325043358763698 @PySem.W.Fast.tw14364793385576792824 ((@PySem.W.OpenRow.toRowW (@PySem.W.Fast.tw2368527892694137696 PySem.Challenge.rw_ja0003_01))).1 v0 (nat_lit 11) (@Option.some @PySem.Value (@PySem.Value.ref 6)) (nat_lit 1) (nat_lit 1) (@PySem.Shared.mk (heap_46 (@PySem.World.params v0)) (@Array.mk @PySem.GenState []) (@PySem.Drawn.mk 0 0 0 0) (nat_lit 187) v1) (@PySem.W.blockOf (@PySem.W.behindTheImports ((@PySem.W.OpenRow.toRowW (@PySem.W.Fast.tw2368527892694137696 PySem.Challenge.rw_ja0003_01))).1) env_41 (@PySem.Code.body (@PySem.W.behindTheImports ((@PySem.W.OpenRow.toRowW (@PySem.W.Fast.tw2368527892694137696 PySem.Challenge.rw_ja0003_01))).1) env_41) (@PySem.Pos.mk 0 0 0 0) [(@PySem.W.topFrame (@PySem.Pos.mk 0 0 0 0))]))) (fun (v1 : @PySem.OsState) => (@Option.some (@Prod @PySem.Flow (@Prod @PySem.Shared (@Prod @PySem.Code @PySem.Pos))) (@Prod.mk @PySem.Flow (@Prod @PySem.Shared (@Prod @PySem.Code @PySem.Pos)) @PySem.Flow.next (@Prod.mk @PySem.Shared (@Prod @PySem.Code @PySem.Pos) (@PySem.W.SharedT.abs (@PySem.W.SharedT.mk (tree_47 (@PySem.World.params v0)) (nat_lit 15) (@PySem.Life.mk [] [] [] 0 [] [] @Bool.false #[] [] 0 @Bool.false @Bool.false @Bool.false 0 [2000, 10, 10] @Bool.false 0 @Bool.true [] [] 0 @Bool.false) (@Array.mk @PySem.GenState []) (@PySem.Drawn.mk 0 0 0 0) (nat_lit 187) v1)) (@Prod.mk @PySem.Code @PySem.Pos (@PySem.Code.body (@PySem.W.behindTheImports ((@PySem.W.OpenRow.toRowW (@PySem.W.Fast.tw2368527892694137696 PySem.Challenge.rw_ja0003_01))).1) env_41) (@PySem.Pos.mk 0 0 0 0)))))))) := by
  intro w
  kernel_rfl
theorem q70 : (∀ (v0 : @PySem.World), (@Eq (∀ (v1 : @PySem.OsState), (@Option (@Prod @PySem.Flow (@Prod @PySem.W.SharedT (@Prod @PySem.Code @PySem.Pos))))) (fun (v1 : @PySem.OsState) => (@PySem.W.Fast.tw10110043849684766642 @PySem.W.Fast.tw14364793385576792824 ((@PySem.W.OpenRow.toRowW (@PySem.W.Fast.tw2368527892694137696 PySem.Challenge.rw_ja0003_01))).1 v0 (nat_lit 11) (@Option.some @PySem.Value (@PySem.Value.ref 6)) (nat_lit 1) (nat_lit 252) (@PySem.W.SharedT.mk (tree_47 (@PySem.World.params v0)) (nat_lit 15) (@PySem.Life.mk [] [] [] 0 [] [] @Bool.false #[] [] 0 @Bool.false @Bool.false @Bool.false 0 [2000, 10, 10] @Bool.false 0 @Bool.true [] [] 0 @Bool.false) (@Array.mk @PySem.GenState []) (@PySem.Drawn.mk 0 0 0 0) (nat_lit 187) v1) (@PySem.W.piecesOf sts_49 env_41 (@PySem.Code.body (@PySem.W.behindTheImports ((@PySem.W.OpenRow.toRowW (@PySem.W.Fast.tw2368527892694137696 PySem.Challenge.rw_ja0003_01))).1) env_41) (@PySem.Pos.mk 0 0 0 0) [(@PySem.W.topFrame (@PySem.Pos.mk 0 0 0 0))]))) (fun (v1 : @PySem.OsState) => (@Option.some (@Prod @PySem.Flow (@Prod @PySem.W.SharedT (@Prod @PySem.Code @PySem.Pos))) (@Prod.mk @PySem.Flow (@Prod @PySem.W.SharedT (@Prod @PySem.Code @PySem.Pos)) @PySem.Flow.next (@Prod.mk @PySem.W.SharedT (@Prod @PySem.Code @PySem.Pos) (@PySem.W.SharedT.mk (tree_70 (@PySem.World.params v0)) (nat_lit 35) (@PySem.Life.mk [] [] [] 0 [] [] @Bool.false #[] [] 0 @Bool.false @Bool.false @Bool.false 0 [2000, 10, 10] @Bool.false 0 @Bool.true [] [] 0 @Bool.false) (@Array.mk @PySem.GenState []) (@PySem.Drawn.mk 0 0 0 0) (nat_lit 220) v1) (@Prod.mk @PySem.Code @PySem.Pos (@PySem.Code.body (@PySem.W.behindTheImports ((@PySem.W.OpenRow.toRowW (@PySem.W.Fast.tw2368527892694137696 PySem.Challenge.rw_ja0003_01))).1) env_41) (@PySem.Pos.mk 8 0 9 8)))))))) := by
  intro w
  kernel_rfl
theorem q114 : (∀ (v0 : @PySem.World), (@Eq (∀ (v1 : @PySem.OsState), (@Option (@Prod @PySem.Flow (@Prod @PySem.W.SharedT (@Prod @PySem.Code @PySem.Pos))))) (fun (v1 : @PySem.OsState) => (@PySem.W.Fast.tw10110043849684766642 @PySem.W.Fast.tw14364793385576792824 ((@PySem.W.OpenRow.toRowW (@PySem.W.Fast.tw2368527892694137696 PySem.Challenge.rw_ja0003_01))).1 v0 (nat_lit 11) (@Option.some @PySem.Value (@PySem.Value.ref 6)) (nat_lit 1) (nat_lit 330) (@PySem.W.SharedT.mk (tree_70 (@PySem.World.params v0)) (nat_lit 35) (@PySem.Life.mk [] [] [] 0 [] [] @Bool.false #[] [] 0 @Bool.false @Bool.false @Bool.false 0 [2000, 10, 10] @Bool.false 0 @Bool.true [] [] 0 @Bool.false) (@Array.mk @PySem.GenState []) (@PySem.Drawn.mk 0 0 0 0) (nat_lit 220) v1) (@PySem.W.piecesOf sts_71 env_41 (@PySem.Code.body (@PySem.W.behindTheImports ((@PySem.W.OpenRow.toRowW (@PySem.W.Fast.tw2368527892694137696 PySem.Challenge.rw_ja0003_01))).1) env_41) (@PySem.Pos.mk 8 0 9 8) [(@PySem.W.topFrame (@PySem.Pos.mk 0 0 0 0))]))) (fun (v1 : @PySem.OsState) => (@Option.some (@Prod @PySem.Flow (@Prod @PySem.W.SharedT (@Prod @PySem.Code @PySem.Pos))) (@Prod.mk @PySem.Flow (@Prod @PySem.W.SharedT (@Prod @PySem.Code @PySem.Pos)) @PySem.Flow.next (@Prod.mk @PySem.W.SharedT (@Prod @PySem.Code @PySem.Pos) (@PySem.W.SharedT.mk (tree_114 (@PySem.World.params v0)) (nat_lit 77) (@PySem.Life.mk [] [] [] 0 [] [] @Bool.false #[] [] 0 @Bool.false @Bool.false @Bool.false 0 [2000, 10, 10] @Bool.false 0 @Bool.true [] [] 0 @Bool.false) (@Array.mk @PySem.GenState []) (@PySem.Drawn.mk 0 0 0 0) (nat_lit 284) v1) (@Prod.mk @PySem.Code @PySem.Pos (@PySem.Code.body (@PySem.W.behindTheImports ((@PySem.W.OpenRow.toRowW (@PySem.W.Fast.tw2368527892694137696 PySem.Challenge.rw_ja0003_01))).1) env_41) (@PySem.Pos.mk 10 0 32 76)))))))) := by
  intro w
  kernel_rfl
theorem q158 : (∀ (v0 : @PySem.World), (@Eq (∀ (v1 : @PySem.OsState), (@Option (@Prod @PySem.Flow (@Prod @PySem.W.SharedT (@Prod @PySem.Code @PySem.Pos))))) (fun (v1 : @PySem.OsState) => (@PySem.W.Fast.tw10110043849684766642 @PySem.W.Fast.tw14364793385576792824 ((@PySem.W.OpenRow.toRowW (@PySem.W.Fast.tw2368527892694137696 PySem.Challenge.rw_ja0003_01))).1 v0 (nat_lit 11) (@Option.some @PySem.Value (@PySem.Value.ref 6)) (nat_lit 1) (nat_lit 355) (@PySem.W.SharedT.mk (tree_114 (@PySem.World.params v0)) (nat_lit 77) (@PySem.Life.mk [] [] [] 0 [] [] @Bool.false #[] [] 0 @Bool.false @Bool.false @Bool.false 0 [2000, 10, 10] @Bool.false 0 @Bool.true [] [] 0 @Bool.false) (@Array.mk @PySem.GenState []) (@PySem.Drawn.mk 0 0 0 0) (nat_lit 284) v1) (@PySem.W.piecesOf sts_115 env_41 (@PySem.Code.body (@PySem.W.behindTheImports ((@PySem.W.OpenRow.toRowW (@PySem.W.Fast.tw2368527892694137696 PySem.Challenge.rw_ja0003_01))).1) env_41) (@PySem.Pos.mk 10 0 32 76) [(@PySem.W.topFrame (@PySem.Pos.mk 0 0 0 0))]))) (fun (v1 : @PySem.OsState) => (@Option.some (@Prod @PySem.Flow (@Prod @PySem.W.SharedT (@Prod @PySem.Code @PySem.Pos))) (@Prod.mk @PySem.Flow (@Prod @PySem.W.SharedT (@Prod @PySem.Code @PySem.Pos)) @PySem.Flow.next (@Prod.mk @PySem.W.SharedT (@Prod @PySem.Code @PySem.Pos) (@PySem.W.SharedT.mk (tree_158 (@PySem.World.params v0)) (nat_lit 119) (@PySem.Life.mk [] [] [] 0 [] [] @Bool.false #[] [] 0 @Bool.false @Bool.false @Bool.false 0 [2000, 10, 10] @Bool.false 0 @Bool.true [] [] 0 @Bool.false) (@Array.mk @PySem.GenState []) (@PySem.Drawn.mk 0 0 0 0) (nat_lit 359) v1) (@Prod.mk @PySem.Code @PySem.Pos (@PySem.Code.body (@PySem.W.behindTheImports ((@PySem.W.OpenRow.toRowW (@PySem.W.Fast.tw2368527892694137696 PySem.Challenge.rw_ja0003_01))).1) env_41) (@PySem.Pos.mk 76 0 76 18)))))))) := by
  intro w
  kernel_rfl
theorem q188 : (∀ (v0 : @PySem.World), (@Eq (∀ (v1 : @PySem.OsState), (@Option (@Prod @PySem.Flow (@Prod @PySem.W.SharedT (@Prod @PySem.Code @PySem.Pos))))) (fun (v1 : @PySem.OsState) => (@PySem.W.Fast.tw10110043849684766642 @PySem.W.Fast.tw14364793385576792824 ((@PySem.W.OpenRow.toRowW (@PySem.W.Fast.tw2368527892694137696 PySem.Challenge.rw_ja0003_01))).1 v0 (nat_lit 11) (@Option.some @PySem.Value (@PySem.Value.ref 6)) (nat_lit 1) (nat_lit 292) (@PySem.W.SharedT.mk (tree_158 (@PySem.World.params v0)) (nat_lit 119) (@PySem.Life.mk [] [] [] 0 [] [] @Bool.false #[] [] 0 @Bool.false @Bool.false @Bool.false 0 [2000, 10, 10] @Bool.false 0 @Bool.true [] [] 0 @Bool.false) (@Array.mk @PySem.GenState []) (@PySem.Drawn.mk 0 0 0 0) (nat_lit 359) v1) (@PySem.W.piecesOf sts_159 env_41 (@PySem.Code.body (@PySem.W.behindTheImports ((@PySem.W.OpenRow.toRowW (@PySem.W.Fast.tw2368527892694137696 PySem.Challenge.rw_ja0003_01))).1) env_41) (@PySem.Pos.mk 76 0 76 18) [(@PySem.W.topFrame (@PySem.Pos.mk 0 0 0 0))]))) (fun (v1 : @PySem.OsState) => (@Option.some (@Prod @PySem.Flow (@Prod @PySem.W.SharedT (@Prod @PySem.Code @PySem.Pos))) (@Prod.mk @PySem.Flow (@Prod @PySem.W.SharedT (@Prod @PySem.Code @PySem.Pos)) @PySem.Flow.next (@Prod.mk @PySem.W.SharedT (@Prod @PySem.Code @PySem.Pos) (@PySem.W.SharedT.mk (tree_188 (@PySem.World.params v0)) (nat_lit 147) (@PySem.Life.mk [] [] [] 0 [] [] @Bool.false #[] [] 0 @Bool.false @Bool.false @Bool.false 0 [2000, 10, 10] @Bool.false 0 @Bool.true [] [] 0 @Bool.false) (@Array.mk @PySem.GenState []) (@PySem.Drawn.mk 0 0 0 0) (nat_lit 406) v1) (@Prod.mk @PySem.Code @PySem.Pos (@PySem.Code.body (@PySem.W.behindTheImports ((@PySem.W.OpenRow.toRowW (@PySem.W.Fast.tw2368527892694137696 PySem.Challenge.rw_ja0003_01))).1) env_41) (@PySem.Pos.mk 93 0 93 8)))))))) := by
  intro w
  kernel_rfl
theorem q229 : (∀ (v0 : @PySem.World), (@Eq (∀ (v1 : @PySem.OsState), (@Option (@Prod @PySem.Flow (@Prod @PySem.W.SharedT (@Prod @PySem.Code @PySem.Pos))))) (fun (v1 : @PySem.OsState) => (@PySem.W.Fast.tw10110043849684766642 @PySem.W.Fast.tw14364793385576792824 ((@PySem.W.OpenRow.toRowW (@PySem.W.Fast.tw2368527892694137696 PySem.Challenge.rw_ja0003_01))).1 (@PySem.World.withFollow v0 "special-get-raises" @Bool.false) (nat_lit 11) (@Option.some @PySem.Value (@PySem.Value.ref 6)) (nat_lit 1) (nat_lit 370) (@PySem.W.SharedT.mk (tree_188 (@PySem.World.params (@PySem.World.withFollow v0 "special-get-raises" @Bool.false))) (nat_lit 147) (@PySem.Life.mk [] [] [] 0 [] [] @Bool.false #[] [] 0 @Bool.false @Bool.false @Bool.false 0 [2000, 10, 10] @Bool.false 0 @Bool.true [] [] 0 @Bool.false) (@Array.mk @PySem.GenState []) (@PySem.Drawn.mk 0 0 0 0) (nat_lit 406) v1) (@PySem.W.piecesOf sts_189 env_41 (@PySem.Code.body (@PySem.W.behindTheImports ((@PySem.W.OpenRow.toRowW (@PySem.W.Fast.tw2368527892694137696 PySem.Challenge.rw_ja0003_01))).1) env_41) (@PySem.Pos.mk 93 0 93 8) [(@PySem.W.topFrame (@PySem.Pos.mk 0 0 0 0))]))) (fun (v1 : @PySem.OsState) => (@Option.some (@Prod @PySem.Flow (@Prod @PySem.W.SharedT (@Prod @PySem.Code @PySem.Pos))) (@Prod.mk @PySem.Flow (@Prod @PySem.W.SharedT (@Prod @PySem.Code @PySem.Pos)) @PySem.Flow.next (@Prod.mk @PySem.W.SharedT (@Prod @PySem.Code @PySem.Pos) (@PySem.W.SharedT.mk (tree_229 (@PySem.World.params (@PySem.World.withFollow v0 "special-get-raises" @Bool.false))) (nat_lit 186) (@PySem.Life.mk [] [] [] 0 [] [] @Bool.false #[] [] 0 @Bool.false @Bool.false @Bool.false 0 [2000, 10, 10] @Bool.false 0 @Bool.true [] [] 0 @Bool.false) (@Array.mk @PySem.GenState []) (@PySem.Drawn.mk 0 0 0 0) (nat_lit 471) v1) (@Prod.mk @PySem.Code @PySem.Pos (@PySem.Code.body (@PySem.W.behindTheImports ((@PySem.W.OpenRow.toRowW (@PySem.W.Fast.tw2368527892694137696 PySem.Challenge.rw_ja0003_01))).1) env_41) (@PySem.Pos.mk 105 0 106 8)))))))) := by
  intro w
  kernel_rfl
theorem q231 : (∀ (v0 : @PySem.World), (@Eq (∀ (v1 : @PySem.OsState), (@Option (@Prod @PySem.Flow (@Prod @PySem.W.SharedT (@Prod @PySem.Code @PySem.Pos))))) (fun (v1 : @PySem.OsState) => (@PySem.W.Fast.tw10110043849684766642 @PySem.W.Fast.tw14364793385576792824 ((@PySem.W.OpenRow.toRowW (@PySem.W.Fast.tw2368527892694137696 PySem.Challenge.rw_ja0003_01))).1 (@PySem.World.withFollow v0 "special-get-raises" @Bool.true) (nat_lit 11) (@Option.some @PySem.Value (@PySem.Value.ref 6)) (nat_lit 1) (nat_lit 370) (@PySem.W.SharedT.mk (tree_188 (@PySem.World.params (@PySem.World.withFollow v0 "special-get-raises" @Bool.true))) (nat_lit 147) (@PySem.Life.mk [] [] [] 0 [] [] @Bool.false #[] [] 0 @Bool.false @Bool.false @Bool.false 0 [2000, 10, 10] @Bool.false 0 @Bool.true [] [] 0 @Bool.false) (@Array.mk @PySem.GenState []) (@PySem.Drawn.mk 0 0 0 0) (nat_lit 406) v1) (@PySem.W.piecesOf sts_189 env_41 (@PySem.Code.body (@PySem.W.behindTheImports ((@PySem.W.OpenRow.toRowW (@PySem.W.Fast.tw2368527892694137696 PySem.Challenge.rw_ja0003_01))).1) env_41) (@PySem.Pos.mk 93 0 93 8) [(@PySem.W.topFrame (@PySem.Pos.mk 0 0 0 0))]))) (fun (v1 : @PySem.OsState) => (@Option.some (@Prod @PySem.Flow (@Prod @PySem.W.SharedT (@Prod @PySem.Code @PySem.Pos))) (@Prod.mk @PySem.Flow (@Prod @PySem.W.SharedT (@Prod @PySem.Code @PySem.Pos)) @PySem.Flow.next (@Prod.mk @PySem.W.SharedT (@Prod @PySem.Code @PySem.Pos) (@PySem.W.SharedT.mk (tree_229 (@PySem.World.params (@PySem.World.withFollow v0 "special-get-raises" @Bool.true))) (nat_lit 186) (@PySem.Life.mk [] [] [] 0 [] [] @Bool.false #[] [] 0 @Bool.false @Bool.false @Bool.false 0 [2000, 10, 10] @Bool.false 0 @Bool.true [] [] 0 @Bool.false) (@Array.mk @PySem.GenState []) (@PySem.Drawn.mk 0 0 0 0) (nat_lit 471) v1) (@Prod.mk @PySem.Code @PySem.Pos (@PySem.Code.body (@PySem.W.behindTheImports ((@PySem.W.OpenRow.toRowW (@PySem.W.Fast.tw2368527892694137696 PySem.Challenge.rw_ja0003_01))).1) env_41) (@PySem.Pos.mk 105 0 106 8)))))))) := by
  intro w
  kernel_rfl
theorem q253 : (∀ (v0 : @PySem.World), (@Eq (∀ (v1 : @PySem.OsState), (@Option (@Prod @PySem.Flow (@Prod @PySem.W.SharedT (@Prod @PySem.Code @PySem.Pos))))) (fun (v1 : @PySem.OsState) => (@PySem.W.Fast.tw10110043849684766642 @PySem.W.Fast.tw14364793385576792824 ((@PySem.W.OpenRow.toRowW (@PySem.W.Fast.tw2368527892694137696 PySem.Challenge.rw_ja0003_01))).1 v0 (nat_lit 11) (@Option.some @PySem.Value (@PySem.Value.ref 6)) (nat_lit 1) (nat_lit 248) (@PySem.W.SharedT.mk (tree_229 (@PySem.World.params v0)) (nat_lit 186) (@PySem.Life.mk [] [] [] 0 [] [] @Bool.false #[] [] 0 @Bool.false @Bool.false @Bool.false 0 [2000, 10, 10] @Bool.false 0 @Bool.true [] [] 0 @Bool.false) (@Array.mk @PySem.GenState []) (@PySem.Drawn.mk 0 0 0 0) (nat_lit 471) v1) (@PySem.W.piecesOf sts_232 env_41 (@PySem.Code.body (@PySem.W.behindTheImports ((@PySem.W.OpenRow.toRowW (@PySem.W.Fast.tw2368527892694137696 PySem.Challenge.rw_ja0003_01))).1) env_41) (@PySem.Pos.mk 105 0 106 8) [(@PySem.W.topFrame (@PySem.Pos.mk 0 0 0 0))]))) (fun (v1 : @PySem.OsState) => (@Option.some (@Prod @PySem.Flow (@Prod @PySem.W.SharedT (@Prod @PySem.Code @PySem.Pos))) (@Prod.mk @PySem.Flow (@Prod @PySem.W.SharedT (@Prod @PySem.Code @PySem.Pos)) @PySem.Flow.next (@Prod.mk @PySem.W.SharedT (@Prod @PySem.Code @PySem.Pos) (@PySem.W.SharedT.mk (tree_253 (@PySem.World.params v0)) (nat_lit 205) (@PySem.Life.mk [] [] [] 0 [] [] @Bool.false #[] [] 0 @Bool.false @Bool.false @Bool.false 0 [2000, 10, 10] @Bool.false 0 @Bool.true [] [] 0 @Bool.false) (@Array.mk @PySem.GenState []) (@PySem.Drawn.mk 0 0 0 0) (nat_lit 499) v1) (@Prod.mk @PySem.Code @PySem.Pos (@PySem.Code.body (@PySem.W.behindTheImports ((@PySem.W.OpenRow.toRowW (@PySem.W.Fast.tw2368527892694137696 PySem.Challenge.rw_ja0003_01))).1) env_41) (@PySem.Pos.mk 109 0 118 241)))))))) := by
  intro w
  kernel_rfl
theorem q312 : (∀ (v0 : @PySem.World), (@Eq (∀ (v1 : @PySem.OsState), (@Option (@Prod @PySem.Flow (@Prod @PySem.W.SharedT (@Prod @PySem.Code @PySem.Pos))))) (fun (v1 : @PySem.OsState) => (@PySem.W.Fast.tw10110043849684766642 @PySem.W.Fast.tw14364793385576792824 ((@PySem.W.OpenRow.toRowW (@PySem.W.Fast.tw2368527892694137696 PySem.Challenge.rw_ja0003_01))).1 v0 (nat_lit 11) (@Option.some @PySem.Value (@PySem.Value.ref 6)) (nat_lit 1) (nat_lit 421) (@PySem.W.SharedT.mk (tree_253 (@PySem.World.params v0)) (nat_lit 205) (@PySem.Life.mk [] [] [] 0 [] [] @Bool.false #[] [] 0 @Bool.false @Bool.false @Bool.false 0 [2000, 10, 10] @Bool.false 0 @Bool.true [] [] 0 @Bool.false) (@Array.mk @PySem.GenState []) (@PySem.Drawn.mk 0 0 0 0) (nat_lit 499) v1) (@PySem.W.piecesOf sts_254 env_41 (@PySem.Code.body (@PySem.W.behindTheImports ((@PySem.W.OpenRow.toRowW (@PySem.W.Fast.tw2368527892694137696 PySem.Challenge.rw_ja0003_01))).1) env_41) (@PySem.Pos.mk 109 0 118 241) [(@PySem.W.topFrame (@PySem.Pos.mk 0 0 0 0))]))) (fun (v1 : @PySem.OsState) => (@Option.some (@Prod @PySem.Flow (@Prod @PySem.W.SharedT (@Prod @PySem.Code @PySem.Pos))) (@Prod.mk @PySem.Flow (@Prod @PySem.W.SharedT (@Prod @PySem.Code @PySem.Pos)) @PySem.Flow.next (@Prod.mk @PySem.W.SharedT (@Prod @PySem.Code @PySem.Pos) (@PySem.W.SharedT.mk (tree_312 (@PySem.World.params v0)) (nat_lit 262) (@PySem.Life.mk [] [] [] 0 [] [] @Bool.false #[] [] 0 @Bool.false @Bool.false @Bool.false 0 [2000, 10, 10] @Bool.false 0 @Bool.true [] [] 0 @Bool.false) (@Array.mk @PySem.GenState []) (@PySem.Drawn.mk 0 0 0 0) (nat_lit 597) v1) (@Prod.mk @PySem.Code @PySem.Pos (@PySem.Code.body (@PySem.W.behindTheImports ((@PySem.W.OpenRow.toRowW (@PySem.W.Fast.tw2368527892694137696 PySem.Challenge.rw_ja0003_01))).1) env_41) (@PySem.Pos.mk 119 0 170 32)))))))) := by
  intro w
  kernel_rfl
theorem q328 : (∀ (v0 : @PySem.World), (@Eq (∀ (v1 : @PySem.OsState), (@Option (@Prod @PySem.Flow (@Prod @PySem.W.SharedT (@Prod @PySem.Code @PySem.Pos))))) (fun (v1 : @PySem.OsState) => (@PySem.W.Fast.tw10110043849684766642 @PySem.W.Fast.tw14364793385576792824 ((@PySem.W.OpenRow.toRowW (@PySem.W.Fast.tw2368527892694137696 PySem.Challenge.rw_ja0003_01))).1 v0 (nat_lit 11) (@Option.some @PySem.Value (@PySem.Value.ref 6)) (nat_lit 1) (nat_lit 64) (@PySem.W.SharedT.mk (tree_312 (@PySem.World.params v0)) (nat_lit 262) (@PySem.Life.mk [] [] [] 0 [] [] @Bool.false #[] [] 0 @Bool.false @Bool.false @Bool.false 0 [2000, 10, 10] @Bool.false 0 @Bool.true [] [] 0 @Bool.false) (@Array.mk @PySem.GenState []) (@PySem.Drawn.mk 0 0 0 0) (nat_lit 597) v1) (@PySem.W.piecesOf sts_313 env_41 (@PySem.Code.body (@PySem.W.behindTheImports ((@PySem.W.OpenRow.toRowW (@PySem.W.Fast.tw2368527892694137696 PySem.Challenge.rw_ja0003_01))).1) env_41) (@PySem.Pos.mk 119 0 170 32) [(@PySem.W.topFrame (@PySem.Pos.mk 0 0 0 0))]))) (fun (v1 : @PySem.OsState) => (@Option.some (@Prod @PySem.Flow (@Prod @PySem.W.SharedT (@Prod @PySem.Code @PySem.Pos))) (@Prod.mk @PySem.Flow (@Prod @PySem.W.SharedT (@Prod @PySem.Code @PySem.Pos)) @PySem.Flow.next (@Prod.mk @PySem.W.SharedT (@Prod @PySem.Code @PySem.Pos) (@PySem.W.SharedT.mk (tree_328 (@PySem.World.params v0)) (nat_lit 276) (@PySem.Life.mk [] [] [] 0 [] [] @Bool.false #[] [] 0 @Bool.false @Bool.false @Bool.false 0 [2000, 10, 10] @Bool.false 0 @Bool.true [] [] 0 @Bool.false) (@Array.mk @PySem.GenState []) (@PySem.Drawn.mk 0 0 0 0) (nat_lit 616) v1) (@Prod.mk @PySem.Code @PySem.Pos (@PySem.Code.body (@PySem.W.behindTheImports ((@PySem.W.OpenRow.toRowW (@PySem.W.Fast.tw2368527892694137696 PySem.Challenge.rw_ja0003_01))).1) env_41) (@PySem.Pos.mk 176 0 184 17)))))))) := by
  intro w
  kernel_rfl
theorem q402 : (∀ (v0 : @PySem.World), (@Eq (∀ (v1 : @PySem.OsState), (@Option (@Prod @PySem.Flow (@Prod @PySem.W.SharedT (@Prod @PySem.Code @PySem.Pos))))) (fun (v1 : @PySem.OsState) => (@PySem.W.Fast.tw10110043849684766642 @PySem.W.Fast.tw14364793385576792824 ((@PySem.W.OpenRow.toRowW (@PySem.W.Fast.tw2368527892694137696 PySem.Challenge.rw_ja0003_01))).1 v0 (nat_lit 11) (@Option.some @PySem.Value (@PySem.Value.ref 6)) (nat_lit 1) (nat_lit 537) (@PySem.W.SharedT.mk (tree_328 (@PySem.World.params v0)) (nat_lit 276) (@PySem.Life.mk [] [] [] 0 [] [] @Bool.false #[] [] 0 @Bool.false @Bool.false @Bool.false 0 [2000, 10, 10] @Bool.false 0 @Bool.true [] [] 0 @Bool.false) (@Array.mk @PySem.GenState []) (@PySem.Drawn.mk 0 0 0 0) (nat_lit 616) v1) (@PySem.W.piecesOf sts_329 env_41 (@PySem.Code.body (@PySem.W.behindTheImports ((@PySem.W.OpenRow.toRowW (@PySem.W.Fast.tw2368527892694137696 PySem.Challenge.rw_ja0003_01))).1) env_41) (@PySem.Pos.mk 176 0 184 17) [(@PySem.W.topFrame (@PySem.Pos.mk 0 0 0 0))]))) (fun (v1 : @PySem.OsState) => (@Option.some (@Prod @PySem.Flow (@Prod @PySem.W.SharedT (@Prod @PySem.Code @PySem.Pos))) (@Prod.mk @PySem.Flow (@Prod @PySem.W.SharedT (@Prod @PySem.Code @PySem.Pos)) @PySem.Flow.next (@Prod.mk @PySem.W.SharedT (@Prod @PySem.Code @PySem.Pos) (@PySem.W.SharedT.mk (tree_402 (@PySem.World.params v0)) (nat_lit 348) (@PySem.Life.mk [] [] [] 0 [] [] @Bool.false #[] [] 0 @Bool.false @Bool.false @Bool.false 0 [2000, 10, 10] @Bool.false 0 @Bool.true [] [] 0 @Bool.false) (@Array.mk @PySem.GenState []) (@PySem.Drawn.mk 0 0 0 0) (nat_lit 717) v1) (@Prod.mk @PySem.Code @PySem.Pos (@PySem.Code.body (@PySem.W.behindTheImports ((@PySem.W.OpenRow.toRowW (@PySem.W.Fast.tw2368527892694137696 PySem.Challenge.rw_ja0003_01))).1) env_41) (@PySem.Pos.mk 185 0 225 42)))))))) := by
  intro w
  kernel_rfl
theorem q481 : (∀ (v0 : @PySem.World), (@Eq (∀ (v1 : @PySem.OsState), (@Option (@Prod @PySem.Flow (@Prod @PySem.W.SharedT (@Prod @PySem.Code @PySem.Pos))))) (fun (v1 : @PySem.OsState) => (@PySem.W.Fast.tw10110043849684766642 @PySem.W.Fast.tw14364793385576792824 ((@PySem.W.OpenRow.toRowW (@PySem.W.Fast.tw2368527892694137696 PySem.Challenge.rw_ja0003_01))).1 v0 (nat_lit 11) (@Option.some @PySem.Value (@PySem.Value.ref 6)) (nat_lit 1) (nat_lit 377) (@PySem.W.SharedT.mk (tree_402 (@PySem.World.params v0)) (nat_lit 348) (@PySem.Life.mk [] [] [] 0 [] [] @Bool.false #[] [] 0 @Bool.false @Bool.false @Bool.false 0 [2000, 10, 10] @Bool.false 0 @Bool.true [] [] 0 @Bool.false) (@Array.mk @PySem.GenState []) (@PySem.Drawn.mk 0 0 0 0) (nat_lit 717) v1) (@PySem.W.piecesOf sts_403 env_41 (@PySem.Code.body (@PySem.W.behindTheImports ((@PySem.W.OpenRow.toRowW (@PySem.W.Fast.tw2368527892694137696 PySem.Challenge.rw_ja0003_01))).1) env_41) (@PySem.Pos.mk 185 0 225 42) [(@PySem.W.topFrame (@PySem.Pos.mk 0 0 0 0))]))) (fun (v1 : @PySem.OsState) => (@Option.some (@Prod @PySem.Flow (@Prod @PySem.W.SharedT (@Prod @PySem.Code @PySem.Pos))) (@Prod.mk @PySem.Flow (@Prod @PySem.W.SharedT (@Prod @PySem.Code @PySem.Pos)) @PySem.Flow.next (@Prod.mk @PySem.W.SharedT (@Prod @PySem.Code @PySem.Pos) (@PySem.W.SharedT.mk (tree_481 (@PySem.World.params v0)) (nat_lit 425) (@PySem.Life.mk [] [] [] 0 [] [] @Bool.false #[] [] 0 @Bool.false @Bool.false @Bool.false 0 [2000, 10, 10] @Bool.false 0 @Bool.true [] [] 0 @Bool.false) (@Array.mk @PySem.GenState []) (@PySem.Drawn.mk 0 0 0 0) (nat_lit 844) v1) (@Prod.mk @PySem.Code @PySem.Pos (@PySem.Code.body (@PySem.W.behindTheImports ((@PySem.W.OpenRow.toRowW (@PySem.W.Fast.tw2368527892694137696 PySem.Challenge.rw_ja0003_01))).1) env_41) (@PySem.Pos.mk 276 0 290 77)))))))) := by
  intro w
  kernel_rfl
theorem q504 : (∀ (v0 : @PySem.World), (@Eq (∀ (v1 : @PySem.OsState), (@Option (@Prod @PySem.Flow (@Prod @PySem.W.SharedT (@Prod @PySem.Code @PySem.Pos))))) (fun (v1 : @PySem.OsState) => (@PySem.W.Fast.tw10110043849684766642 @PySem.W.Fast.tw14364793385576792824 ((@PySem.W.OpenRow.toRowW (@PySem.W.Fast.tw2368527892694137696 PySem.Challenge.rw_ja0003_01))).1 v0 (nat_lit 11) (@Option.some @PySem.Value (@PySem.Value.ref 6)) (nat_lit 1) (nat_lit 116) (@PySem.W.SharedT.mk (tree_481 (@PySem.World.params v0)) (nat_lit 425) (@PySem.Life.mk [] [] [] 0 [] [] @Bool.false #[] [] 0 @Bool.false @Bool.false @Bool.false 0 [2000, 10, 10] @Bool.false 0 @Bool.true [] [] 0 @Bool.false) (@Array.mk @PySem.GenState []) (@PySem.Drawn.mk 0 0 0 0) (nat_lit 844) v1) (@PySem.W.piecesOf sts_482 env_41 (@PySem.Code.body (@PySem.W.behindTheImports ((@PySem.W.OpenRow.toRowW (@PySem.W.Fast.tw2368527892694137696 PySem.Challenge.rw_ja0003_01))).1) env_41) (@PySem.Pos.mk 276 0 290 77) [(@PySem.W.topFrame (@PySem.Pos.mk 0 0 0 0))]))) (fun (v1 : @PySem.OsState) => (@Option.some (@Prod @PySem.Flow (@Prod @PySem.W.SharedT (@Prod @PySem.Code @PySem.Pos))) (@Prod.mk @PySem.Flow (@Prod @PySem.W.SharedT (@Prod @PySem.Code @PySem.Pos)) @PySem.Flow.next (@Prod.mk @PySem.W.SharedT (@Prod @PySem.Code @PySem.Pos) (@PySem.W.SharedT.mk (tree_504 (@PySem.World.params v0)) (nat_lit 446) (@PySem.Life.mk [] [] [] 0 [] [] @Bool.false #[] [] 0 @Bool.false @Bool.false @Bool.false 0 [2000, 10, 10] @Bool.false 0 @Bool.true [] [] 0 @Bool.false) (@Array.mk @PySem.GenState []) (@PySem.Drawn.mk 0 0 0 0) (nat_lit 893) v1) (@Prod.mk @PySem.Code @PySem.Pos (@PySem.Code.body (@PySem.W.behindTheImports ((@PySem.W.OpenRow.toRowW (@PySem.W.Fast.tw2368527892694137696 PySem.Challenge.rw_ja0003_01))).1) env_41) (@PySem.Pos.mk 317 0 343 107)))))))) := by
  intro w
  kernel_rfl
theorem q506 : (∀ (v0 : @PySem.World), (@Eq (∀ (v1 : @PySem.OsState), (@Option @PySem.Shared)) (fun (v1 : @PySem.OsState) => (@PySem.W.Fast.tw14082659384304107361 @PySem.W.Fast.tw14364793385576792824 ((@PySem.W.OpenRow.toRowW (@PySem.W.Fast.tw2368527892694137696 PySem.Challenge.rw_ja0003_01))).1 v0 (nat_lit 11) (@Option.some @PySem.Value (@PySem.Value.ref 6)) (nat_lit 2) (@PySem.W.SharedT.abs (@PySem.W.SharedT.mk (tree_504 (@PySem.World.params v0)) (nat_lit 446) (@PySem.Life.mk [] [] [] 0 [] [] @Bool.false #[] [] 0 @Bool.false @Bool.false @Bool.false 0 [2000, 10, 10] @Bool.false 0 @Bool.true [] [] 0 @Bool.false) (@Array.mk @PySem.GenState []) (@PySem.Drawn.mk 0 0 0 0) (nat_lit 893) v1)) (@PySem.Thread.mk (@PySem.W.doneF @PySem.Flow.next) (@PySem.Code.body (@PySem.W.behindTheImports ((@PySem.W.OpenRow.toRowW (@PySem.W.Fast.tw2368527892694137696 PySem.Challenge.rw_ja0003_01))).1) env_41) (@PySem.Pos.mk 317 0 343 107) [(@PySem.W.topFrame (@PySem.Pos.mk 0 0 0 0))]))) (fun (v1 : @PySem.OsState) => (@Option.some @PySem.Shared (@PySem.Shared.mk (heap_505 (@PySem.World.params v0)) (@Array.mk @PySem.GenState []) (@PySem.Drawn.mk 0 0 0 0) (nat_lit 893) v1))))) := by
  intro w
  kernel_rfl
theorem q509 : (∀ (v0 : @PySem.World), (@Eq (@Prod @Bool (@Prod @Nat (@Option @PySem.Value))) (@Prod.mk @Bool (@Prod @Nat (@Option @PySem.Value)) (@Bool.and (@PySem.Heap.isNs (@PySem.W.boot_heap (@PySem.World.params v0)) @PySem.mainGlobals) (@BEq.beq @Nat (@instBEqOfDecidableEq @Nat @instDecidableEqNat) (@Array.size @PySem.GenState (@Array.mk @PySem.GenState [])) 0)) (@Prod.mk @Nat (@Option @PySem.Value) (@Array.size @PySem.Obj (@PySem.Heap.objs (@PySem.W.boot_heap (@PySem.World.params v0)))) (@PySem.W.Fast.tw8920871248978507458 (@PySem.W.boot_heap (@PySem.World.params v0)) @PySem.mainGlobals z39))) (@Prod.mk @Bool (@Prod @Nat (@Option @PySem.Value)) @Bool.true (@Prod.mk @Nat (@Option @PySem.Value) (nat_lit 11) (@Option.some @PySem.Value (@PySem.Value.ref 6)))))) := by
  intro w
  kernel_rfl
theorem q511 : (∀ (v0 : @PySem.World), (@Eq (∀ (v1 : @PySem.OsState), @Bool) (fun (v1 : @PySem.OsState) => (@Bool.and (@Bool.and (@Bool.and (@PySem.W.staticsOk (@PySem.W.Fast.tw5923862056798008813 (@PySem.Module.body (@PySem.Program.main ((@PySem.W.OpenRow.toRowW (@PySem.W.Fast.tw2368527892694137696 PySem.Challenge.rw_ja0003_01))).1))) (@PySem.W.boot_heap (@PySem.World.params v0)) (heap_505 (@PySem.World.params v0))) (@PySem.W.namesBound ((@PySem.W.OpenRow.toRowW (@PySem.W.Fast.tw2368527892694137696 PySem.Challenge.rw_ja0003_01))).1 (heap_505 (@PySem.World.params v0)))) (@PySem.W.gensDone (@PySem.Shared.mk (heap_505 (@PySem.World.params v0)) (@Array.mk @PySem.GenState []) (@PySem.Drawn.mk 0 0 0 0) (nat_lit 893) v1))) (@PySem.W.laidKept (@PySem.W.boot_heap (@PySem.World.params v0)) (heap_505 (@PySem.World.params v0))))) (fun (v1 : @PySem.OsState) => @Bool.true))) := by
  intro w
  kernel_rfl
theorem q513 : (∀ (v0 : @PySem.World), (@Eq (∀ (v1 : @PySem.OsState), @PyProof.Rows.Seen) (fun (v1 : @PySem.OsState) => (@PySem.W.Fast.tw5160383126252970620 (@PySem.W.R.mapR @PySem.DefRec @PySem.Str (fun (v2 : @PySem.DefRec) => (@PySem.DefRec.name v2)) (@PySem.W.Fast.tw3399658132070893891 view_39)) (@PySem.W.Fast.tw5991557255702980513 view_39) [] (@PySem.Shared.mk (@PySem.Shared.heap (@PySem.Shared.mk (heap_505 (@PySem.World.params v0)) (@Array.mk @PySem.GenState []) (@PySem.Drawn.mk 0 0 0 0) (nat_lit 893) v1)) #[] (@PySem.Shared.drawn (@PySem.Shared.mk (heap_505 (@PySem.World.params v0)) (@Array.mk @PySem.GenState []) (@PySem.Drawn.mk 0 0 0 0) (nat_lit 893) v1)) (@PySem.Shared.toks (@PySem.Shared.mk (heap_505 (@PySem.World.params v0)) (@Array.mk @PySem.GenState []) (@PySem.Drawn.mk 0 0 0 0) (nat_lit 893) v1)) (@PySem.Shared.os (@PySem.Shared.mk (heap_505 (@PySem.World.params v0)) (@Array.mk @PySem.GenState []) (@PySem.Drawn.mk 0 0 0 0) (nat_lit 893) v1))))) (fun (v1 : @PySem.OsState) => (@PyProof.Rows.expectedOf view_39)))) := by
  intro w
  kernel_rfl
theorem q515 : (∀ (v0 : @PySem.World), (@Eq (∀ (v1 : @PySem.OsState), (@Prod (@Option @PySem.Str) (@List (@Prod @PySem.Str @PySem.Value)))) (fun (v1 : @PySem.OsState) => (@PySem.Heap.bltView (@PySem.Shared.heap (@PySem.Shared.mk (heap_505 (@PySem.World.params v0)) (@Array.mk @PySem.GenState []) (@PySem.Drawn.mk 0 0 0 0) (nat_lit 893) v1)))) (fun (v1 : @PySem.OsState) => @PySem.bltViewBooted))) := by
  intro w
  kernel_rfl
theorem q517 : (∀ (v0 : @PySem.World), (@Eq (∀ (v1 : @PySem.OsState), @Bool) (fun (v1 : @PySem.OsState) => (@Bool.and (@Bool.and (@Bool.and (@Bool.and (@Bool.and (@Bool.and (@PySem.W.Fast.tw10880121769531294198 (@PySem.Shared.heap (@PySem.Shared.mk (heap_505 (@PySem.World.params v0)) (@Array.mk @PySem.GenState []) (@PySem.Drawn.mk 0 0 0 0) (nat_lit 893) v1)) (@PySem.W.Fast.tw821141287760084731 view_39 [z8, z51, z54, z123, z93]) (@PySem.W.R.mapR @PySem.DefRec @PySem.Str (fun (v2 : @PySem.DefRec) => (@PySem.DefRec.name v2)) (@PySem.W.Fast.tw3399658132070893891 view_39)) (@PySem.W.R.mapR (@Prod @PySem.Str @PySem.PyData) @PySem.Str (fun (v2 : (@Prod @PySem.Str @PySem.PyData)) => (@Prod.fst @PySem.Str @PySem.PyData v2)) (@PySem.W.Fast.tw7409074990110511671 view_39)) (@PySem.W.R.mapR @PySem.ClsRec @PySem.Str (fun (v2 : @PySem.ClsRec) => (@PySem.ClsRec.name v2)) (@PySem.W.Fast.tw13664370479719496447 view_39 (@PySem.W.Fast.tw821141287760084731 view_39 [z8, z51, z54, z123, z93])))) (@PySem.W.Fast.tw14722251495701143533 (@PySem.Shared.heap (@PySem.Shared.mk (heap_505 (@PySem.World.params v0)) (@Array.mk @PySem.GenState []) (@PySem.Drawn.mk 0 0 0 0) (nat_lit 893) v1)) (@PySem.W.Fast.tw5923862056798008813 (@PySem.Module.body (@PySem.Program.main ((@PySem.W.OpenRow.toRowW (@PySem.W.Fast.tw2368527892694137696 PySem.Challenge.rw_ja0003_01))).1))))) (@PySem.Heap.isNs (@PySem.Shared.heap (@PySem.Shared.mk (heap_505 (@PySem.World.params v0)) (@Array.mk @PySem.GenState []) (@PySem.Drawn.mk 0 0 0 0) (nat_lit 893) v1)) @PySem.mainGlobals)) (@PySem.Heap.isNs (@PySem.Shared.heap (@PySem.Shared.mk (heap_505 (@PySem.World.params v0)) (@Array.mk @PySem.GenState []) (@PySem.Drawn.mk 0 0 0 0) (nat_lit 893) v1)) @PySem.builtinsNs)) (@PySem.W.Fast.tw10994771534591457954 view_39 (@PySem.Shared.heap (@PySem.Shared.mk (heap_505 (@PySem.World.params v0)) (@Array.mk @PySem.GenState []) (@PySem.Drawn.mk 0 0 0 0) (nat_lit 893) v1)))) ((fun (v2 : @PySem.Shared) => (@Bool.and (@PySem.W.xlAt view_39 [] v2) (@PySem.W.recOk (@PySem.W.RowW.records (@PySem.W.OpenRow.toRowW (@PySem.W.Fast.tw2368527892694137696 PySem.Challenge.rw_ja0003_01))) v2))) (@PySem.Shared.mk (heap_505 (@PySem.World.params v0)) (@Array.mk @PySem.GenState []) (@PySem.Drawn.mk 0 0 0 0) (nat_lit 893) v1))) (@ite @Bool (@Eq @Bool @Bool.true @Bool.true) (@instDecidableEqBool @Bool.true @Bool.true) (@BEq.beq @Nat (@instBEqOfDecidableEq @Nat @instDecidableEqNat) (@Array.size @PySem.GenState (@PySem.Shared.gens (@PySem.Shared.mk (heap_505 (@PySem.World.params v0)) (@Array.mk @PySem.GenState []) (@PySem.Drawn.mk 0 0 0 0) (nat_lit 893) v1))) 0) (@Bool.not (@PySem.leftWithCleanup (@PySem.Shared.gens (@PySem.Shared.mk (heap_505 (@PySem.World.params v0)) (@Array.mk @PySem.GenState []) (@PySem.Drawn.mk 0 0 0 0) (nat_lit 893) v1))))))) (fun (v1 : @PySem.OsState) => @Bool.true))) := by
  intro w
  kernel_rfl
theorem q519 : (∀ (v0 : @PySem.World), (@Eq (∀ (v1 : @PySem.OsState), @Bool) (fun (v1 : @PySem.OsState) => (@PySem.W.Fast.tw479339242167458305 view_39 (@PySem.Shared.mk (heap_505 (@PySem.World.params v0)) (@Array.mk @PySem.GenState []) (@PySem.Drawn.mk 0 0 0 0) (nat_lit 893) v1))) (fun (v1 : @PySem.OsState) => @Bool.true))) := by
  intro w
  kernel_rfl
theorem q521 : (∀ (v0 : @PySem.World), (@Eq (∀ (v1 : @PySem.OsState), (@Prod (@List (@Option @PySem.FnShape)) @Bool)) (fun (v1 : @PySem.OsState) => (@PySem.W.Fast.tw16090120013241838585 view_39 (@PySem.W.Fast.tw3247288618530077131 view_39) (@PySem.Shared.mk (heap_505 (@PySem.World.params v0)) (@Array.mk @PySem.GenState []) (@PySem.Drawn.mk 0 0 0 0) (nat_lit 893) v1))) (fun (v1 : @PySem.OsState) => (@PySem.pinGoodD (@PySem.W.Fast.tw3247288618530077131 view_39))))) := by
  intro w
  kernel_rfl
theorem q523 : (∀ (v0 : @PySem.World), (@Eq (∀ (v1 : @PySem.OsState), (@List (@Option @PyProof.Rows.PlainShape))) (fun (v1 : @PySem.OsState) => (@PySem.W.Fast.tw2386780881361962483 view_39 (@PySem.W.Fast.tw821141287760084731 view_39 [z8, z51, z54, z123, z93]) (@PySem.Shared.mk (heap_505 (@PySem.World.params v0)) (@Array.mk @PySem.GenState []) (@PySem.Drawn.mk 0 0 0 0) (nat_lit 893) v1))) (fun (v1 : @PySem.OsState) => (@PyProof.Rows.plainGoodE view_39 (@PySem.W.Fast.tw821141287760084731 view_39 [z8, z51, z54, z123, z93]))))) := by
  intro w
  kernel_rfl
theorem q525 : (∀ (v0 : @PySem.World), (@Eq (∀ (v1 : @PySem.OsState), (@List (@Option (@Prod @PyProof.Rows.PlainShape @Bool)))) (fun (v1 : @PySem.OsState) => (@PySem.W.Fast.tw11698064438423848299 view_39 [z8, z51, z54, z123, z93] (@PySem.Shared.mk (heap_505 (@PySem.World.params v0)) (@Array.mk @PySem.GenState []) (@PySem.Drawn.mk 0 0 0 0) (nat_lit 893) v1))) (fun (v1 : @PySem.OsState) => (@PyProof.Rows.plainGoodD view_39 [z8, z51, z54, z123, z93])))) := by
  intro w
  kernel_rfl
theorem q527 : (∀ (v0 : @PySem.World), (@Eq (∀ (v1 : @PySem.OsState), (@Prod (@List (@Option @PySem.FnShape)) @Bool)) (fun (v1 : @PySem.OsState) => (@PySem.W.Fast.tw7317090234206586261 view_39 (@PySem.Shared.mk (heap_505 (@PySem.World.params v0)) (@Array.mk @PySem.GenState []) (@PySem.Drawn.mk 0 0 0 0) (nat_lit 893) v1))) (fun (v1 : @PySem.OsState) => (@PySem.W.wideGood view_39)))) := by
  intro w
  kernel_rfl
theorem q529 : (∀ (v0 : @PySem.World), (@Eq (∀ (v1 : @PySem.OsState), (@List (@Prod (@Option (@Prod (@List (@Option @PySem.FnShape)) @Bool)) (@Option (@Prod @PyProof.Rows.PlainShape @Bool))))) (fun (v1 : @PySem.OsState) => (@PySem.W.Fast.tw7369524293546568484 view_39 [z8, z51, z54, z123, z93] (@PySem.Shared.mk (heap_505 (@PySem.World.params v0)) (@Array.mk @PySem.GenState []) (@PySem.Drawn.mk 0 0 0 0) (nat_lit 893) v1))) (fun (v1 : @PySem.OsState) => (@PySem.W.clsGoodW view_39 [z8, z51, z54, z123, z93])))) := by
  intro w
  kernel_rfl
end
section
theorem q47 : (∀ (v0 : @PySem.World), (@Eq (∀ (v1 : @PySem.OsState), (@Option (@Prod @PySem.Shared @PySem.Thread))) (fun (v1 : @PySem.OsState) => (@PySem.W.topGo @PySem.treeTable ((@PySem.W.OpenRow.toRowW (@PySem.W.OpenLaw.row @PySem.Challenge.rw_ja0003_01))).1 v0 (nat_lit 11) (@Option.some @PySem.Value (@PySem.Value.ref 6)) (nat_lit 12) (@PySem.Shared.mk (@PySem.W.boot_heap (@PySem.World.params v0)) (@Array.mk @PySem.GenState []) @PySem.W.boot_drawn @PySem.W.boot_toks v1) (@PySem.W.topStub ((@PySem.W.OpenRow.toRowW (@PySem.W.OpenLaw.row @PySem.Challenge.rw_ja0003_01))).1))) (fun (v1 : @PySem.OsState) => (@Option.some (@Prod @PySem.Shared @PySem.Thread) (@Prod.mk @PySem.Shared @PySem.Thread (@PySem.Shared.mk (heap_46 (@PySem.World.params v0)) (@Array.mk @PySem.GenState []) (@PySem.Drawn.mk 0 0 0 0) (nat_lit 187) v1) (@PySem.Thread.mk (@PySem.denote @PySem.treeTable (@PySem.Code.body (@PySem.W.behindTheImports ((@PySem.W.OpenRow.toRowW (@PySem.W.OpenLaw.row @PySem.Challenge.rw_ja0003_01))).1) env_41)) (@PySem.Code.body (@PySem.W.behindTheImports ((@PySem.W.OpenRow.toRowW (@PySem.W.OpenLaw.row @PySem.Challenge.rw_ja0003_01))).1) env_41) (@PySem.Pos.mk 0 0 0 0) [(@PySem.W.topFrame (@PySem.Pos.mk 0 0 0 0))])))))) := by
  try rw [PySem.W.Fast.te15667345088766844465]
  try rw [PySem.W.Fast.te14364793385576792824]
  try rw [PySem.W.Fast.te2368527892694137696]
  try rw [PySem.W.Fast.te11892475500146522536]
  exact q46
theorem q49 : (∀ (v0 : @PySem.World), (@Eq (∀ (v1 : @PySem.OsState), (@Option (@Prod @PySem.Flow (@Prod @PySem.Shared (@Prod @PySem.Code @PySem.Pos))))) (fun (v1 : @PySem.OsState) => (@PySem.W.segRun @PySem.treeTable ((@PySem.W.OpenRow.toRowW (@PySem.W.OpenLaw.row @PySem.Challenge.rw_ja0003_01))).1 v0 (nat_lit 11) (@Option.some @PySem.Value (@PySem.Value.ref 6)) (nat_lit 1) (nat_lit 1) (@PySem.Shared.mk (heap_46 (@PySem.World.params v0)) (@Array.mk @PySem.GenState []) (@PySem.Drawn.mk 0 0 0 0) (nat_lit 187) v1) (@PySem.W.blockOf (@PySem.W.behindTheImports ((@PySem.W.OpenRow.toRowW (@PySem.W.OpenLaw.row @PySem.Challenge.rw_ja0003_01))).1) env_41 (@PySem.Code.body (@PySem.W.behindTheImports ((@PySem.W.OpenRow.toRowW (@PySem.W.OpenLaw.row @PySem.Challenge.rw_ja0003_01))).1) env_41) (@PySem.Pos.mk 0 0 0 0) [(@PySem.W.topFrame (@PySem.Pos.mk 0 0 0 0))]))) (fun (v1 : @PySem.OsState) => (@Option.some (@Prod @PySem.Flow (@Prod @PySem.Shared (@Prod @PySem.Code @PySem.Pos))) (@Prod.mk @PySem.Flow (@Prod @PySem.Shared (@Prod @PySem.Code @PySem.Pos)) @PySem.Flow.next (@Prod.mk @PySem.Shared (@Prod @PySem.Code @PySem.Pos) (@PySem.W.SharedT.abs (@PySem.W.SharedT.mk (tree_47 (@PySem.World.params v0)) (nat_lit 15) (@PySem.Life.mk [] [] [] 0 [] [] @Bool.false #[] [] 0 @Bool.false @Bool.false @Bool.false 0 [2000, 10, 10] @Bool.false 0 @Bool.true [] [] 0 @Bool.false) (@Array.mk @PySem.GenState []) (@PySem.Drawn.mk 0 0 0 0) (nat_lit 187) v1)) (@Prod.mk @PySem.Code @PySem.Pos (@PySem.Code.body (@PySem.W.behindTheImports ((@PySem.W.OpenRow.toRowW (@PySem.W.OpenLaw.row @PySem.Challenge.rw_ja0003_01))).1) env_41) (@PySem.Pos.mk 0 0 0 0)))))))) := by
  try rw [PySem.W.Fast.te14374325043358763698]
  try rw [PySem.W.Fast.te14364793385576792824]
  try rw [PySem.W.Fast.te2368527892694137696]
  exact q48
theorem q71 : (∀ (v0 : @PySem.World), (@Eq (∀ (v1 : @PySem.OsState), (@Option (@Prod @PySem.Flow (@Prod @PySem.W.SharedT (@Prod @PySem.Code @PySem.Pos))))) (fun (v1 : @PySem.OsState) => (@PySem.W.segRunT @PySem.treeTable ((@PySem.W.OpenRow.toRowW (@PySem.W.OpenLaw.row @PySem.Challenge.rw_ja0003_01))).1 v0 (nat_lit 11) (@Option.some @PySem.Value (@PySem.Value.ref 6)) (nat_lit 1) (nat_lit 252) (@PySem.W.SharedT.mk (tree_47 (@PySem.World.params v0)) (nat_lit 15) (@PySem.Life.mk [] [] [] 0 [] [] @Bool.false #[] [] 0 @Bool.false @Bool.false @Bool.false 0 [2000, 10, 10] @Bool.false 0 @Bool.true [] [] 0 @Bool.false) (@Array.mk @PySem.GenState []) (@PySem.Drawn.mk 0 0 0 0) (nat_lit 187) v1) (@PySem.W.piecesOf sts_49 env_41 (@PySem.Code.body (@PySem.W.behindTheImports ((@PySem.W.OpenRow.toRowW (@PySem.W.OpenLaw.row @PySem.Challenge.rw_ja0003_01))).1) env_41) (@PySem.Pos.mk 0 0 0 0) [(@PySem.W.topFrame (@PySem.Pos.mk 0 0 0 0))]))) (fun (v1 : @PySem.OsState) => (@Option.some (@Prod @PySem.Flow (@Prod @PySem.W.SharedT (@Prod @PySem.Code @PySem.Pos))) (@Prod.mk @PySem.Flow (@Prod @PySem.W.SharedT (@Prod @PySem.Code @PySem.Pos)) @PySem.Flow.next (@Prod.mk @PySem.W.SharedT (@Prod @PySem.Code @PySem.Pos) (@PySem.W.SharedT.mk (tree_70 (@PySem.World.params v0)) (nat_lit 35) (@PySem.Life.mk [] [] [] 0 [] [] @Bool.false #[] [] 0 @Bool.false @Bool.false @Bool.false 0 [2000, 10, 10] @Bool.false 0 @Bool.true [] [] 0 @Bool.false) (@Array.mk @PySem.GenState []) (@PySem.Drawn.mk 0 0 0 0) (nat_lit 220) v1) (@Prod.mk @PySem.Code @PySem.Pos (@PySem.Code.body (@PySem.W.behindTheImports ((@PySem.W.OpenRow.toRowW (@PySem.W.OpenLaw.row @PySem.Challenge.rw_ja0003_01))).1) env_41) (@PySem.Pos.mk 8 0 9 8)))))))) := by
  try rw [PySem.W.Fast.te10110043849684766642]
  try rw [PySem.W.Fast.te14364793385576792824]
  try rw [PySem.W.Fast.te2368527892694137696]
  exact q70
theorem q115 : (∀ (v0 : @PySem.World), (@Eq (∀ (v1 : @PySem.OsState), (@Option (@Prod @PySem.Flow (@Prod @PySem.W.SharedT (@Prod @PySem.Code @PySem.Pos))))) (fun (v1 : @PySem.OsState) => (@PySem.W.segRunT @PySem.treeTable ((@PySem.W.OpenRow.toRowW (@PySem.W.OpenLaw.row @PySem.Challenge.rw_ja0003_01))).1 v0 (nat_lit 11) (@Option.some @PySem.Value (@PySem.Value.ref 6)) (nat_lit 1) (nat_lit 330) (@PySem.W.SharedT.mk (tree_70 (@PySem.World.params v0)) (nat_lit 35) (@PySem.Life.mk [] [] [] 0 [] [] @Bool.false #[] [] 0 @Bool.false @Bool.false @Bool.false 0 [2000, 10, 10] @Bool.false 0 @Bool.true [] [] 0 @Bool.false) (@Array.mk @PySem.GenState []) (@PySem.Drawn.mk 0 0 0 0) (nat_lit 220) v1) (@PySem.W.piecesOf sts_71 env_41 (@PySem.Code.body (@PySem.W.behindTheImports ((@PySem.W.OpenRow.toRowW (@PySem.W.OpenLaw.row @PySem.Challenge.rw_ja0003_01))).1) env_41) (@PySem.Pos.mk 8 0 9 8) [(@PySem.W.topFrame (@PySem.Pos.mk 0 0 0 0))]))) (fun (v1 : @PySem.OsState) => (@Option.some (@Prod @PySem.Flow (@Prod @PySem.W.SharedT (@Prod @PySem.Code @PySem.Pos))) (@Prod.mk @PySem.Flow (@Prod @PySem.W.SharedT (@Prod @PySem.Code @PySem.Pos)) @PySem.Flow.next (@Prod.mk @PySem.W.SharedT (@Prod @PySem.Code @PySem.Pos) (@PySem.W.SharedT.mk (tree_114 (@PySem.World.params v0)) (nat_lit 77) (@PySem.Life.mk [] [] [] 0 [] [] @Bool.false #[] [] 0 @Bool.false @Bool.false @Bool.false 0 [2000, 10, 10] @Bool.false 0 @Bool.true [] [] 0 @Bool.false) (@Array.mk @PySem.GenState []) (@PySem.Drawn.mk 0 0 0 0) (nat_lit 284) v1) (@Prod.mk @PySem.Code @PySem.Pos (@PySem.Code.body (@PySem.W.behindTheImports ((@PySem.W.OpenRow.toRowW (@PySem.W.OpenLaw.row @PySem.Challenge.rw_ja0003_01))).1) env_41) (@PySem.Pos.mk 10 0 32 76)))))))) := by
  try rw [PySem.W.Fast.te10110043849684766642]
  try rw [PySem.W.Fast.te14364793385576792824]
  try rw [PySem.W.Fast.te2368527892694137696]
  exact q114
theorem q159 : (∀ (v0 : @PySem.World), (@Eq (∀ (v1 : @PySem.OsState), (@Option (@Prod @PySem.Flow (@Prod @PySem.W.SharedT (@Prod @PySem.Code @PySem.Pos))))) (fun (v1 : @PySem.OsState) => (@PySem.W.segRunT @PySem.treeTable ((@PySem.W.OpenRow.toRowW (@PySem.W.OpenLaw.row @PySem.Challenge.rw_ja0003_01))).1 v0 (nat_lit 11) (@Option.some @PySem.Value (@PySem.Value.ref 6)) (nat_lit 1) (nat_lit 355) (@PySem.W.SharedT.mk (tree_114 (@PySem.World.params v0)) (nat_lit 77) (@PySem.Life.mk [] [] [] 0 [] [] @Bool.false #[] [] 0 @Bool.false @Bool.false @Bool.false 0 [2000, 10, 10] @Bool.false 0 @Bool.true [] [] 0 @Bool.false) (@Array.mk @PySem.GenState []) (@PySem.Drawn.mk 0 0 0 0) (nat_lit 284) v1) (@PySem.W.piecesOf sts_115 env_41 (@PySem.Code.body (@PySem.W.behindTheImports ((@PySem.W.OpenRow.toRowW (@PySem.W.OpenLaw.row @PySem.Challenge.rw_ja0003_01))).1) env_41) (@PySem.Pos.mk 10 0 32 76) [(@PySem.W.topFrame (@PySem.Pos.mk 0 0 0 0))]))) (fun (v1 : @PySem.OsState) => (@Option.some (@Prod @PySem.Flow (@Prod @PySem.W.SharedT (@Prod @PySem.Code @PySem.Pos))) (@Prod.mk @PySem.Flow (@Prod @PySem.W.SharedT (@Prod @PySem.Code @PySem.Pos)) @PySem.Flow.next (@Prod.mk @PySem.W.SharedT (@Prod @PySem.Code @PySem.Pos) (@PySem.W.SharedT.mk (tree_158 (@PySem.World.params v0)) (nat_lit 119) (@PySem.Life.mk [] [] [] 0 [] [] @Bool.false #[] [] 0 @Bool.false @Bool.false @Bool.false 0 [2000, 10, 10] @Bool.false 0 @Bool.true [] [] 0 @Bool.false) (@Array.mk @PySem.GenState []) (@PySem.Drawn.mk 0 0 0 0) (nat_lit 359) v1) (@Prod.mk @PySem.Code @PySem.Pos (@PySem.Code.body (@PySem.W.behindTheImports ((@PySem.W.OpenRow.toRowW (@PySem.W.OpenLaw.row @PySem.Challenge.rw_ja0003_01))).1) env_41) (@PySem.Pos.mk 76 0 76 18)))))))) := by
  try rw [PySem.W.Fast.te10110043849684766642]
  try rw [PySem.W.Fast.te14364793385576792824]
  try rw [PySem.W.Fast.te2368527892694137696]
  exact q158
theorem q189 : (∀ (v0 : @PySem.World), (@Eq (∀ (v1 : @PySem.OsState), (@Option (@Prod @PySem.Flow (@Prod @PySem.W.SharedT (@Prod @PySem.Code @PySem.Pos))))) (fun (v1 : @PySem.OsState) => (@PySem.W.segRunT @PySem.treeTable ((@PySem.W.OpenRow.toRowW (@PySem.W.OpenLaw.row @PySem.Challenge.rw_ja0003_01))).1 v0 (nat_lit 11) (@Option.some @PySem.Value (@PySem.Value.ref 6)) (nat_lit 1) (nat_lit 292) (@PySem.W.SharedT.mk (tree_158 (@PySem.World.params v0)) (nat_lit 119) (@PySem.Life.mk [] [] [] 0 [] [] @Bool.false #[] [] 0 @Bool.false @Bool.false @Bool.false 0 [2000, 10, 10] @Bool.false 0 @Bool.true [] [] 0 @Bool.false) (@Array.mk @PySem.GenState []) (@PySem.Drawn.mk 0 0 0 0) (nat_lit 359) v1) (@PySem.W.piecesOf sts_159 env_41 (@PySem.Code.body (@PySem.W.behindTheImports ((@PySem.W.OpenRow.toRowW (@PySem.W.OpenLaw.row @PySem.Challenge.rw_ja0003_01))).1) env_41) (@PySem.Pos.mk 76 0 76 18) [(@PySem.W.topFrame (@PySem.Pos.mk 0 0 0 0))]))) (fun (v1 : @PySem.OsState) => (@Option.some (@Prod @PySem.Flow (@Prod @PySem.W.SharedT (@Prod @PySem.Code @PySem.Pos))) (@Prod.mk @PySem.Flow (@Prod @PySem.W.SharedT (@Prod @PySem.Code @PySem.Pos)) @PySem.Flow.next (@Prod.mk @PySem.W.SharedT (@Prod @PySem.Code @PySem.Pos) (@PySem.W.SharedT.mk (tree_188 (@PySem.World.params v0)) (nat_lit 147) (@PySem.Life.mk [] [] [] 0 [] [] @Bool.false #[] [] 0 @Bool.false @Bool.false @Bool.false 0 [2000, 10, 10] @Bool.false 0 @Bool.true [] [] 0 @Bool.false) (@Array.mk @PySem.GenState []) (@PySem.Drawn.mk 0 0 0 0) (nat_lit 406) v1) (@Prod.mk @PySem.Code @PySem.Pos (@PySem.Code.body (@PySem.W.behindTheImports ((@PySem.W.OpenRow.toRowW (@PySem.W.OpenLaw.row @PySem.Challenge.rw_ja0003_01))).1) env_41) (@PySem.Pos.mk 93 0 93 8)))))))) := by
  try rw [PySem.W.Fast.te10110043849684766642]
  try rw [PySem.W.Fast.te14364793385576792824]
  try rw [PySem.W.Fast.te2368527892694137696]
  exact q188
theorem q230 : (∀ (v0 : @PySem.World), (@Eq (∀ (v1 : @PySem.OsState), (@Option (@Prod @PySem.Flow (@Prod @PySem.W.SharedT (@Prod @PySem.Code @PySem.Pos))))) (fun (v1 : @PySem.OsState) => (@PySem.W.segRunT @PySem.treeTable ((@PySem.W.OpenRow.toRowW (@PySem.W.OpenLaw.row @PySem.Challenge.rw_ja0003_01))).1 (@PySem.World.withFollow v0 "special-get-raises" @Bool.false) (nat_lit 11) (@Option.some @PySem.Value (@PySem.Value.ref 6)) (nat_lit 1) (nat_lit 370) (@PySem.W.SharedT.mk (tree_188 (@PySem.World.params (@PySem.World.withFollow v0 "special-get-raises" @Bool.false))) (nat_lit 147) (@PySem.Life.mk [] [] [] 0 [] [] @Bool.false #[] [] 0 @Bool.false @Bool.false @Bool.false 0 [2000, 10, 10] @Bool.false 0 @Bool.true [] [] 0 @Bool.false) (@Array.mk @PySem.GenState []) (@PySem.Drawn.mk 0 0 0 0) (nat_lit 406) v1) (@PySem.W.piecesOf sts_189 env_41 (@PySem.Code.body (@PySem.W.behindTheImports ((@PySem.W.OpenRow.toRowW (@PySem.W.OpenLaw.row @PySem.Challenge.rw_ja0003_01))).1) env_41) (@PySem.Pos.mk 93 0 93 8) [(@PySem.W.topFrame (@PySem.Pos.mk 0 0 0 0))]))) (fun (v1 : @PySem.OsState) => (@Option.some (@Prod @PySem.Flow (@Prod @PySem.W.SharedT (@Prod @PySem.Code @PySem.Pos))) (@Prod.mk @PySem.Flow (@Prod @PySem.W.SharedT (@Prod @PySem.Code @PySem.Pos)) @PySem.Flow.next (@Prod.mk @PySem.W.SharedT (@Prod @PySem.Code @PySem.Pos) (@PySem.W.SharedT.mk (tree_229 (@PySem.World.params (@PySem.World.withFollow v0 "special-get-raises" @Bool.false))) (nat_lit 186) (@PySem.Life.mk [] [] [] 0 [] [] @Bool.false #[] [] 0 @Bool.false @Bool.false @Bool.false 0 [2000, 10, 10] @Bool.false 0 @Bool.true [] [] 0 @Bool.false) (@Array.mk @PySem.GenState []) (@PySem.Drawn.mk 0 0 0 0) (nat_lit 471) v1) (@Prod.mk @PySem.Code @PySem.Pos (@PySem.Code.body (@PySem.W.behindTheImports ((@PySem.W.OpenRow.toRowW (@PySem.W.OpenLaw.row @PySem.Challenge.rw_ja0003_01))).1) env_41) (@PySem.Pos.mk 105 0 106 8)))))))) := by
  try rw [PySem.W.Fast.te10110043849684766642]
  try rw [PySem.W.Fast.te14364793385576792824]
  try rw [PySem.W.Fast.te2368527892694137696]
  exact q229
theorem q232 : (∀ (v0 : @PySem.World), (@Eq (∀ (v1 : @PySem.OsState), (@Option (@Prod @PySem.Flow (@Prod @PySem.W.SharedT (@Prod @PySem.Code @PySem.Pos))))) (fun (v1 : @PySem.OsState) => (@PySem.W.segRunT @PySem.treeTable ((@PySem.W.OpenRow.toRowW (@PySem.W.OpenLaw.row @PySem.Challenge.rw_ja0003_01))).1 (@PySem.World.withFollow v0 "special-get-raises" @Bool.true) (nat_lit 11) (@Option.some @PySem.Value (@PySem.Value.ref 6)) (nat_lit 1) (nat_lit 370) (@PySem.W.SharedT.mk (tree_188 (@PySem.World.params (@PySem.World.withFollow v0 "special-get-raises" @Bool.true))) (nat_lit 147) (@PySem.Life.mk [] [] [] 0 [] [] @Bool.false #[] [] 0 @Bool.false @Bool.false @Bool.false 0 [2000, 10, 10] @Bool.false 0 @Bool.true [] [] 0 @Bool.false) (@Array.mk @PySem.GenState []) (@PySem.Drawn.mk 0 0 0 0) (nat_lit 406) v1) (@PySem.W.piecesOf sts_189 env_41 (@PySem.Code.body (@PySem.W.behindTheImports ((@PySem.W.OpenRow.toRowW (@PySem.W.OpenLaw.row @PySem.Challenge.rw_ja0003_01))).1) env_41) (@PySem.Pos.mk 93 0 93 8) [(@PySem.W.topFrame (@PySem.Pos.mk 0 0 0 0))]))) (fun (v1 : @PySem.OsState) => (@Option.some (@Prod @PySem.Flow (@Prod @PySem.W.SharedT (@Prod @PySem.Code @PySem.Pos))) (@Prod.mk @PySem.Flow (@Prod @PySem.W.SharedT (@Prod @PySem.Code @PySem.Pos)) @PySem.Flow.next (@Prod.mk @PySem.W.SharedT (@Prod @PySem.Code @PySem.Pos) (@PySem.W.SharedT.mk (tree_229 (@PySem.World.params (@PySem.World.withFollow v0 "special-get-raises" @Bool.true))) (nat_lit 186) (@PySem.Life.mk [] [] [] 0 [] [] @Bool.false #[] [] 0 @Bool.false @Bool.false @Bool.false 0 [2000, 10, 10] @Bool.false 0 @Bool.true [] [] 0 @Bool.false) (@Array.mk @PySem.GenState []) (@PySem.Drawn.mk 0 0 0 0) (nat_lit 471) v1) (@Prod.mk @PySem.Code @PySem.Pos (@PySem.Code.body (@PySem.W.behindTheImports ((@PySem.W.OpenRow.toRowW (@PySem.W.OpenLaw.row @PySem.Challenge.rw_ja0003_01))).1) env_41) (@PySem.Pos.mk 105 0 106 8)))))))) := by
  try rw [PySem.W.Fast.te10110043849684766642]
  try rw [PySem.W.Fast.te14364793385576792824]
  try rw [PySem.W.Fast.te2368527892694137696]
  exact q231
theorem q254 : (∀ (v0 : @PySem.World), (@Eq (∀ (v1 : @PySem.OsState), (@Option (@Prod @PySem.Flow (@Prod @PySem.W.SharedT (@Prod @PySem.Code @PySem.Pos))))) (fun (v1 : @PySem.OsState) => (@PySem.W.segRunT @PySem.treeTable ((@PySem.W.OpenRow.toRowW (@PySem.W.OpenLaw.row @PySem.Challenge.rw_ja0003_01))).1 v0 (nat_lit 11) (@Option.some @PySem.Value (@PySem.Value.ref 6)) (nat_lit 1) (nat_lit 248) (@PySem.W.SharedT.mk (tree_229 (@PySem.World.params v0)) (nat_lit 186) (@PySem.Life.mk [] [] [] 0 [] [] @Bool.false #[] [] 0 @Bool.false @Bool.false @Bool.false 0 [2000, 10, 10] @Bool.false 0 @Bool.true [] [] 0 @Bool.false) (@Array.mk @PySem.GenState []) (@PySem.Drawn.mk 0 0 0 0) (nat_lit 471) v1) (@PySem.W.piecesOf sts_232 env_41 (@PySem.Code.body (@PySem.W.behindTheImports ((@PySem.W.OpenRow.toRowW (@PySem.W.OpenLaw.row @PySem.Challenge.rw_ja0003_01))).1) env_41) (@PySem.Pos.mk 105 0 106 8) [(@PySem.W.topFrame (@PySem.Pos.mk 0 0 0 0))]))) (fun (v1 : @PySem.OsState) => (@Option.some (@Prod @PySem.Flow (@Prod @PySem.W.SharedT (@Prod @PySem.Code @PySem.Pos))) (@Prod.mk @PySem.Flow (@Prod @PySem.W.SharedT (@Prod @PySem.Code @PySem.Pos)) @PySem.Flow.next (@Prod.mk @PySem.W.SharedT (@Prod @PySem.Code @PySem.Pos) (@PySem.W.SharedT.mk (tree_253 (@PySem.World.params v0)) (nat_lit 205) (@PySem.Life.mk [] [] [] 0 [] [] @Bool.false #[] [] 0 @Bool.false @Bool.false @Bool.false 0 [2000, 10, 10] @Bool.false 0 @Bool.true [] [] 0 @Bool.false) (@Array.mk @PySem.GenState []) (@PySem.Drawn.mk 0 0 0 0) (nat_lit 499) v1) (@Prod.mk @PySem.Code @PySem.Pos (@PySem.Code.body (@PySem.W.behindTheImports ((@PySem.W.OpenRow.toRowW (@PySem.W.OpenLaw.row @PySem.Challenge.rw_ja0003_01))).1) env_41) (@PySem.Pos.mk 109 0 118 241)))))))) := by
  try rw [PySem.W.Fast.te10110043849684766642]
  try rw [PySem.W.Fast.te14364793385576792824]
  try rw [PySem.W.Fast.te2368527892694137696]
  exact q253
theorem q313 : (∀ (v0 : @PySem.World), (@Eq (∀ (v1 : @PySem.OsState), (@Option (@Prod @PySem.Flow (@Prod @PySem.W.SharedT (@Prod @PySem.Code @PySem.Pos))))) (fun (v1 : @PySem.OsState) => (@PySem.W.segRunT @PySem.treeTable ((@PySem.W.OpenRow.toRowW (@PySem.W.OpenLaw.row @PySem.Challenge.rw_ja0003_01))).1 v0 (nat_lit 11) (@Option.some @PySem.Value (@PySem.Value.ref 6)) (nat_lit 1) (nat_lit 421) (@PySem.W.SharedT.mk (tree_253 (@PySem.World.params v0)) (nat_lit 205) (@PySem.Life.mk [] [] [] 0 [] [] @Bool.false #[] [] 0 @Bool.false @Bool.false @Bool.false 0 [2000, 10, 10] @Bool.false 0 @Bool.true [] [] 0 @Bool.false) (@Array.mk @PySem.GenState []) (@PySem.Drawn.mk 0 0 0 0) (nat_lit 499) v1) (@PySem.W.piecesOf sts_254 env_41 (@PySem.Code.body (@PySem.W.behindTheImports ((@PySem.W.OpenRow.toRowW (@PySem.W.OpenLaw.row @PySem.Challenge.rw_ja0003_01))).1) env_41) (@PySem.Pos.mk 109 0 118 241) [(@PySem.W.topFrame (@PySem.Pos.mk 0 0 0 0))]))) (fun (v1 : @PySem.OsState) => (@Option.some (@Prod @PySem.Flow (@Prod @PySem.W.SharedT (@Prod @PySem.Code @PySem.Pos))) (@Prod.mk @PySem.Flow (@Prod @PySem.W.SharedT (@Prod @PySem.Code @PySem.Pos)) @PySem.Flow.next (@Prod.mk @PySem.W.SharedT (@Prod @PySem.Code @PySem.Pos) (@PySem.W.SharedT.mk (tree_312 (@PySem.World.params v0)) (nat_lit 262) (@PySem.Life.mk [] [] [] 0 [] [] @Bool.false #[] [] 0 @Bool.false @Bool.false @Bool.false 0 [2000, 10, 10] @Bool.false 0 @Bool.true [] [] 0 @Bool.false) (@Array.mk @PySem.GenState []) (@PySem.Drawn.mk 0 0 0 0) (nat_lit 597) v1) (@Prod.mk @PySem.Code @PySem.Pos (@PySem.Code.body (@PySem.W.behindTheImports ((@PySem.W.OpenRow.toRowW (@PySem.W.OpenLaw.row @PySem.Challenge.rw_ja0003_01))).1) env_41) (@PySem.Pos.mk 119 0 170 32)))))))) := by
  try rw [PySem.W.Fast.te10110043849684766642]
  try rw [PySem.W.Fast.te14364793385576792824]
  try rw [PySem.W.Fast.te2368527892694137696]
  exact q312
theorem q329 : (∀ (v0 : @PySem.World), (@Eq (∀ (v1 : @PySem.OsState), (@Option (@Prod @PySem.Flow (@Prod @PySem.W.SharedT (@Prod @PySem.Code @PySem.Pos))))) (fun (v1 : @PySem.OsState) => (@PySem.W.segRunT @PySem.treeTable ((@PySem.W.OpenRow.toRowW (@PySem.W.OpenLaw.row @PySem.Challenge.rw_ja0003_01))).1 v0 (nat_lit 11) (@Option.some @PySem.Value (@PySem.Value.ref 6)) (nat_lit 1) (nat_lit 64) (@PySem.W.SharedT.mk (tree_312 (@PySem.World.params v0)) (nat_lit 262) (@PySem.Life.mk [] [] [] 0 [] [] @Bool.false #[] [] 0 @Bool.false @Bool.false @Bool.false 0 [2000, 10, 10] @Bool.false 0 @Bool.true [] [] 0 @Bool.false) (@Array.mk @PySem.GenState []) (@PySem.Drawn.mk 0 0 0 0) (nat_lit 597) v1) (@PySem.W.piecesOf sts_313 env_41 (@PySem.Code.body (@PySem.W.behindTheImports ((@PySem.W.OpenRow.toRowW (@PySem.W.OpenLaw.row @PySem.Challenge.rw_ja0003_01))).1) env_41) (@PySem.Pos.mk 119 0 170 32) [(@PySem.W.topFrame (@PySem.Pos.mk 0 0 0 0))]))) (fun (v1 : @PySem.OsState) => (@Option.some (@Prod @PySem.Flow (@Prod @PySem.W.SharedT (@Prod @PySem.Code @PySem.Pos))) (@Prod.mk @PySem.Flow (@Prod @PySem.W.SharedT (@Prod @PySem.Code @PySem.Pos)) @PySem.Flow.next (@Prod.mk @PySem.W.SharedT (@Prod @PySem.Code @PySem.Pos) (@PySem.W.SharedT.mk (tree_328 (@PySem.World.params v0)) (nat_lit 276) (@PySem.Life.mk [] [] [] 0 [] [] @Bool.false #[] [] 0 @Bool.false @Bool.false @Bool.false 0 [2000, 10, 10] @Bool.false 0 @Bool.true [] [] 0 @Bool.false) (@Array.mk @PySem.GenState []) (@PySem.Drawn.mk 0 0 0 0) (nat_lit 616) v1) (@Prod.mk @PySem.Code @PySem.Pos (@PySem.Code.body (@PySem.W.behindTheImports ((@PySem.W.OpenRow.toRowW (@PySem.W.OpenLaw.row @PySem.Challenge.rw_ja0003_01))).1) env_41) (@PySem.Pos.mk 176 0 184 17)))))))) := by
  try rw [PySem.W.Fast.te10110043849684766642]
  try rw [PySem.W.Fast.te14364793385576792824]
  try rw [PySem.W.Fast.te2368527892694137696]
  exact q328
theorem q403 : (∀ (v0 : @PySem.World), (@Eq (∀ (v1 : @PySem.OsState), (@Option (@Prod @PySem.Flow (@Prod @PySem.W.SharedT (@Prod @PySem.Code @PySem.Pos))))) (fun (v1 : @PySem.OsState) => (@PySem.W.segRunT @PySem.treeTable ((@PySem.W.OpenRow.toRowW (@PySem.W.OpenLaw.row @PySem.Challenge.rw_ja0003_01))).1 v0 (nat_lit 11) (@Option.some @PySem.Value (@PySem.Value.ref 6)) (nat_lit 1) (nat_lit 537) (@PySem.W.SharedT.mk (tree_328 (@PySem.World.params v0)) (nat_lit 276) (@PySem.Life.mk [] [] [] 0 [] [] @Bool.false #[] [] 0 @Bool.false @Bool.false @Bool.false 0 [2000, 10, 10] @Bool.false 0 @Bool.true [] [] 0 @Bool.false) (@Array.mk @PySem.GenState []) (@PySem.Drawn.mk 0 0 0 0) (nat_lit 616) v1) (@PySem.W.piecesOf sts_329 env_41 (@PySem.Code.body (@PySem.W.behindTheImports ((@PySem.W.OpenRow.toRowW (@PySem.W.OpenLaw.row @PySem.Challenge.rw_ja0003_01))).1) env_41) (@PySem.Pos.mk 176 0 184 17) [(@PySem.W.topFrame (@PySem.Pos.mk 0 0 0 0))]))) (fun (v1 : @PySem.OsState) => (@Option.some (@Prod @PySem.Flow (@Prod @PySem.W.SharedT (@Prod @PySem.Code @PySem.Pos))) (@Prod.mk @PySem.Flow (@Prod @PySem.W.SharedT (@Prod @PySem.Code @PySem.Pos)) @PySem.Flow.next (@Prod.mk @PySem.W.SharedT (@Prod @PySem.Code @PySem.Pos) (@PySem.W.SharedT.mk (tree_402 (@PySem.World.params v0)) (nat_lit 348) (@PySem.Life.mk [] [] [] 0 [] [] @Bool.false #[] [] 0 @Bool.false @Bool.false @Bool.false 0 [2000, 10, 10] @Bool.false 0 @Bool.true [] [] 0 @Bool.false) (@Array.mk @PySem.GenState []) (@PySem.Drawn.mk 0 0 0 0) (nat_lit 717) v1) (@Prod.mk @PySem.Code @PySem.Pos (@PySem.Code.body (@PySem.W.behindTheImports ((@PySem.W.OpenRow.toRowW (@PySem.W.OpenLaw.row @PySem.Challenge.rw_ja0003_01))).1) env_41) (@PySem.Pos.mk 185 0 225 42)))))))) := by
  try rw [PySem.W.Fast.te10110043849684766642]
  try rw [PySem.W.Fast.te14364793385576792824]
  try rw [PySem.W.Fast.te2368527892694137696]
  exact q402
theorem q482 : (∀ (v0 : @PySem.World), (@Eq (∀ (v1 : @PySem.OsState), (@Option (@Prod @PySem.Flow (@Prod @PySem.W.SharedT (@Prod @PySem.Code @PySem.Pos))))) (fun (v1 : @PySem.OsState) => (@PySem.W.segRunT @PySem.treeTable ((@PySem.W.OpenRow.toRowW (@PySem.W.OpenLaw.row @PySem.Challenge.rw_ja0003_01))).1 v0 (nat_lit 11) (@Option.some @PySem.Value (@PySem.Value.ref 6)) (nat_lit 1) (nat_lit 377) (@PySem.W.SharedT.mk (tree_402 (@PySem.World.params v0)) (nat_lit 348) (@PySem.Life.mk [] [] [] 0 [] [] @Bool.false #[] [] 0 @Bool.false @Bool.false @Bool.false 0 [2000, 10, 10] @Bool.false 0 @Bool.true [] [] 0 @Bool.false) (@Array.mk @PySem.GenState []) (@PySem.Drawn.mk 0 0 0 0) (nat_lit 717) v1) (@PySem.W.piecesOf sts_403 env_41 (@PySem.Code.body (@PySem.W.behindTheImports ((@PySem.W.OpenRow.toRowW (@PySem.W.OpenLaw.row @PySem.Challenge.rw_ja0003_01))).1) env_41) (@PySem.Pos.mk 185 0 225 42) [(@PySem.W.topFrame (@PySem.Pos.mk 0 0 0 0))]))) (fun (v1 : @PySem.OsState) => (@Option.some (@Prod @PySem.Flow (@Prod @PySem.W.SharedT (@Prod @PySem.Code @PySem.Pos))) (@Prod.mk @PySem.Flow (@Prod @PySem.W.SharedT (@Prod @PySem.Code @PySem.Pos)) @PySem.Flow.next (@Prod.mk @PySem.W.SharedT (@Prod @PySem.Code @PySem.Pos) (@PySem.W.SharedT.mk (tree_481 (@PySem.World.params v0)) (nat_lit 425) (@PySem.Life.mk [] [] [] 0 [] [] @Bool.false #[] [] 0 @Bool.false @Bool.false @Bool.false 0 [2000, 10, 10] @Bool.false 0 @Bool.true [] [] 0 @Bool.false) (@Array.mk @PySem.GenState []) (@PySem.Drawn.mk 0 0 0 0) (nat_lit 844) v1) (@Prod.mk @PySem.Code @PySem.Pos (@PySem.Code.body (@PySem.W.behindTheImports ((@PySem.W.OpenRow.toRowW (@PySem.W.OpenLaw.row @PySem.Challenge.rw_ja0003_01))).1) env_41) (@PySem.Pos.mk 276 0 290 77)))))))) := by
  try rw [PySem.W.Fast.te10110043849684766642]
  try rw [PySem.W.Fast.te14364793385576792824]
  try rw [PySem.W.Fast.te2368527892694137696]
  exact q481
theorem q505 : (∀ (v0 : @PySem.World), (@Eq (∀ (v1 : @PySem.OsState), (@Option (@Prod @PySem.Flow (@Prod @PySem.W.SharedT (@Prod @PySem.Code @PySem.Pos))))) (fun (v1 : @PySem.OsState) => (@PySem.W.segRunT @PySem.treeTable ((@PySem.W.OpenRow.toRowW (@PySem.W.OpenLaw.row @PySem.Challenge.rw_ja0003_01))).1 v0 (nat_lit 11) (@Option.some @PySem.Value (@PySem.Value.ref 6)) (nat_lit 1) (nat_lit 116) (@PySem.W.SharedT.mk (tree_481 (@PySem.World.params v0)) (nat_lit 425) (@PySem.Life.mk [] [] [] 0 [] [] @Bool.false #[] [] 0 @Bool.false @Bool.false @Bool.false 0 [2000, 10, 10] @Bool.false 0 @Bool.true [] [] 0 @Bool.false) (@Array.mk @PySem.GenState []) (@PySem.Drawn.mk 0 0 0 0) (nat_lit 844) v1) (@PySem.W.piecesOf sts_482 env_41 (@PySem.Code.body (@PySem.W.behindTheImports ((@PySem.W.OpenRow.toRowW (@PySem.W.OpenLaw.row @PySem.Challenge.rw_ja0003_01))).1) env_41) (@PySem.Pos.mk 276 0 290 77) [(@PySem.W.topFrame (@PySem.Pos.mk 0 0 0 0))]))) (fun (v1 : @PySem.OsState) => (@Option.some (@Prod @PySem.Flow (@Prod @PySem.W.SharedT (@Prod @PySem.Code @PySem.Pos))) (@Prod.mk @PySem.Flow (@Prod @PySem.W.SharedT (@Prod @PySem.Code @PySem.Pos)) @PySem.Flow.next (@Prod.mk @PySem.W.SharedT (@Prod @PySem.Code @PySem.Pos) (@PySem.W.SharedT.mk (tree_504 (@PySem.World.params v0)) (nat_lit 446) (@PySem.Life.mk [] [] [] 0 [] [] @Bool.false #[] [] 0 @Bool.false @Bool.false @Bool.false 0 [2000, 10, 10] @Bool.false 0 @Bool.true [] [] 0 @Bool.false) (@Array.mk @PySem.GenState []) (@PySem.Drawn.mk 0 0 0 0) (nat_lit 893) v1) (@Prod.mk @PySem.Code @PySem.Pos (@PySem.Code.body (@PySem.W.behindTheImports ((@PySem.W.OpenRow.toRowW (@PySem.W.OpenLaw.row @PySem.Challenge.rw_ja0003_01))).1) env_41) (@PySem.Pos.mk 317 0 343 107)))))))) := by
  try rw [PySem.W.Fast.te10110043849684766642]
  try rw [PySem.W.Fast.te14364793385576792824]
  try rw [PySem.W.Fast.te2368527892694137696]
  exact q504
theorem q507 : (∀ (v0 : @PySem.World), (@Eq (∀ (v1 : @PySem.OsState), (@Option @PySem.Shared)) (fun (v1 : @PySem.OsState) => (@PySem.W.topRun @PySem.treeTable ((@PySem.W.OpenRow.toRowW (@PySem.W.OpenLaw.row @PySem.Challenge.rw_ja0003_01))).1 v0 (nat_lit 11) (@Option.some @PySem.Value (@PySem.Value.ref 6)) (nat_lit 2) (@PySem.W.SharedT.abs (@PySem.W.SharedT.mk (tree_504 (@PySem.World.params v0)) (nat_lit 446) (@PySem.Life.mk [] [] [] 0 [] [] @Bool.false #[] [] 0 @Bool.false @Bool.false @Bool.false 0 [2000, 10, 10] @Bool.false 0 @Bool.true [] [] 0 @Bool.false) (@Array.mk @PySem.GenState []) (@PySem.Drawn.mk 0 0 0 0) (nat_lit 893) v1)) (@PySem.Thread.mk (@PySem.W.doneF @PySem.Flow.next) (@PySem.Code.body (@PySem.W.behindTheImports ((@PySem.W.OpenRow.toRowW (@PySem.W.OpenLaw.row @PySem.Challenge.rw_ja0003_01))).1) env_41) (@PySem.Pos.mk 317 0 343 107) [(@PySem.W.topFrame (@PySem.Pos.mk 0 0 0 0))]))) (fun (v1 : @PySem.OsState) => (@Option.some @PySem.Shared (@PySem.Shared.mk (heap_505 (@PySem.World.params v0)) (@Array.mk @PySem.GenState []) (@PySem.Drawn.mk 0 0 0 0) (nat_lit 893) v1))))) := by
  try rw [PySem.W.Fast.te14082659384304107361]
  try rw [PySem.W.Fast.te14364793385576792824]
  try rw [PySem.W.Fast.te2368527892694137696]
  exact q506
theorem q510 : (∀ (v0 : @PySem.World), (@Eq (@Prod @Bool (@Prod @Nat (@Option @PySem.Value))) (@Prod.mk @Bool (@Prod @Nat (@Option @PySem.Value)) (@Bool.and (@PySem.Heap.isNs (@PySem.W.boot_heap (@PySem.World.params v0)) @PySem.mainGlobals) (@BEq.beq @Nat (@instBEqOfDecidableEq @Nat @instDecidableEqNat) (@Array.size @PySem.GenState (@Array.mk @PySem.GenState [])) 0)) (@Prod.mk @Nat (@Option @PySem.Value) (@Array.size @PySem.Obj (@PySem.Heap.objs (@PySem.W.boot_heap (@PySem.World.params v0)))) (@PySem.Heap.nsMap (@PySem.W.boot_heap (@PySem.World.params v0)) @PySem.mainGlobals (@PySem.Str.ofString "__annotations__")))) (@Prod.mk @Bool (@Prod @Nat (@Option @PySem.Value)) @Bool.true (@Prod.mk @Nat (@Option @PySem.Value) (nat_lit 11) (@Option.some @PySem.Value (@PySem.Value.ref 6)))))) := by
  try rw [show (PySem.Str.ofString "__annotations__" : Str) = z39 from by kernel_rfl]
  try rw [PySem.W.Fast.te8920871248978507458]
  exact q509
theorem q512 : (∀ (v0 : @PySem.World), (@Eq (∀ (v1 : @PySem.OsState), @Bool) (fun (v1 : @PySem.OsState) => (@Bool.and (@Bool.and (@Bool.and (@PySem.W.staticsOk (@PySem.importedModules (@PySem.Module.body (@PySem.Program.main ((@PySem.W.OpenRow.toRowW (@PySem.W.OpenLaw.row @PySem.Challenge.rw_ja0003_01))).1))) (@PySem.W.boot_heap (@PySem.World.params v0)) (heap_505 (@PySem.World.params v0))) (@PySem.W.namesBound ((@PySem.W.OpenRow.toRowW (@PySem.W.OpenLaw.row @PySem.Challenge.rw_ja0003_01))).1 (heap_505 (@PySem.World.params v0)))) (@PySem.W.gensDone (@PySem.Shared.mk (heap_505 (@PySem.World.params v0)) (@Array.mk @PySem.GenState []) (@PySem.Drawn.mk 0 0 0 0) (nat_lit 893) v1))) (@PySem.W.laidKept (@PySem.W.boot_heap (@PySem.World.params v0)) (heap_505 (@PySem.World.params v0))))) (fun (v1 : @PySem.OsState) => @Bool.true))) := by
  try rw [PySem.W.Fast.te5923862056798008813]
  try rw [PySem.W.Fast.te2368527892694137696]
  exact q511
theorem q514 : (∀ (v0 : @PySem.World), (@Eq (∀ (v1 : @PySem.OsState), @PyProof.Rows.Seen) (fun (v1 : @PySem.OsState) => (@PyProof.Rows.seen (@List.map @PySem.DefRec @PySem.Str (fun (v2 : @PySem.DefRec) => (@PySem.DefRec.name v2)) (@PyProof.Rows.recsOf view_39)) (@PyProof.Rows.ownsOf view_39) [] (@PySem.Shared.mk (@PySem.Shared.heap (@PySem.Shared.mk (heap_505 (@PySem.World.params v0)) (@Array.mk @PySem.GenState []) (@PySem.Drawn.mk 0 0 0 0) (nat_lit 893) v1)) #[] (@PySem.Shared.drawn (@PySem.Shared.mk (heap_505 (@PySem.World.params v0)) (@Array.mk @PySem.GenState []) (@PySem.Drawn.mk 0 0 0 0) (nat_lit 893) v1)) (@PySem.Shared.toks (@PySem.Shared.mk (heap_505 (@PySem.World.params v0)) (@Array.mk @PySem.GenState []) (@PySem.Drawn.mk 0 0 0 0) (nat_lit 893) v1)) (@PySem.Shared.os (@PySem.Shared.mk (heap_505 (@PySem.World.params v0)) (@Array.mk @PySem.GenState []) (@PySem.Drawn.mk 0 0 0 0) (nat_lit 893) v1))))) (fun (v1 : @PySem.OsState) => (@PyProof.Rows.expectedOf view_39)))) := by
  try rw [PySem.W.Fast.te5160383126252970620]
  try rw [PySem.W.Fast.te3399658132070893891]
  try rw [PySem.W.Fast.te5991557255702980513]
  exact q513
theorem q516 : (∀ (v0 : @PySem.World), (@Eq (∀ (v1 : @PySem.OsState), (@Prod (@Option @PySem.Str) (@List (@Prod @PySem.Str @PySem.Value)))) (fun (v1 : @PySem.OsState) => (@PySem.Heap.bltView (@PySem.Shared.heap (@PySem.Shared.mk (heap_505 (@PySem.World.params v0)) (@Array.mk @PySem.GenState []) (@PySem.Drawn.mk 0 0 0 0) (nat_lit 893) v1)))) (fun (v1 : @PySem.OsState) => @PySem.bltViewBooted))) := by
  exact q515
theorem q518 : (∀ (v0 : @PySem.World), (@Eq (∀ (v1 : @PySem.OsState), @Bool) (fun (v1 : @PySem.OsState) => (@Bool.and (@Bool.and (@Bool.and (@Bool.and (@Bool.and (@Bool.and (@PySem.Heap.keysOk (@PySem.Shared.heap (@PySem.Shared.mk (heap_505 (@PySem.World.params v0)) (@Array.mk @PySem.GenState []) (@PySem.Drawn.mk 0 0 0 0) (nat_lit 893) v1)) (@PySem.W.looseW view_39 [(@PySem.Str.ofString "QuicProtocolVersion"), (@PySem.Str.ofString "CipherSuite"), (@PySem.Str.ofString "CIPHER_SUITES"), (@PySem.Str.ofString "CryptoContext"), (@PySem.Str.ofString "CryptoPair")]) (@List.map @PySem.DefRec @PySem.Str (fun (v2 : @PySem.DefRec) => (@PySem.DefRec.name v2)) (@PyProof.Rows.recsOf view_39)) (@List.map (@Prod @PySem.Str @PySem.PyData) @PySem.Str (fun (v2 : (@Prod @PySem.Str @PySem.PyData)) => (@Prod.fst @PySem.Str @PySem.PyData v2)) (@PyProof.Rows.litsOf view_39)) (@List.map @PySem.ClsRec @PySem.Str (fun (v2 : @PySem.ClsRec) => (@PySem.ClsRec.name v2)) (@PyProof.Rows.clssOf view_39 (@PySem.W.looseW view_39 [(@PySem.Str.ofString "QuicProtocolVersion"), (@PySem.Str.ofString "CipherSuite"), (@PySem.Str.ofString "CIPHER_SUITES"), (@PySem.Str.ofString "CryptoContext"), (@PySem.Str.ofString "CryptoPair")])))) (@PySem.Heap.accountedOkI (@PySem.Shared.heap (@PySem.Shared.mk (heap_505 (@PySem.World.params v0)) (@Array.mk @PySem.GenState []) (@PySem.Drawn.mk 0 0 0 0) (nat_lit 893) v1)) (@PySem.importedModules (@PySem.Module.body (@PySem.Program.main ((@PySem.W.OpenRow.toRowW (@PySem.W.OpenLaw.row @PySem.Challenge.rw_ja0003_01))).1))))) (@PySem.Heap.isNs (@PySem.Shared.heap (@PySem.Shared.mk (heap_505 (@PySem.World.params v0)) (@Array.mk @PySem.GenState []) (@PySem.Drawn.mk 0 0 0 0) (nat_lit 893) v1)) @PySem.mainGlobals)) (@PySem.Heap.isNs (@PySem.Shared.heap (@PySem.Shared.mk (heap_505 (@PySem.World.params v0)) (@Array.mk @PySem.GenState []) (@PySem.Drawn.mk 0 0 0 0) (nat_lit 893) v1)) @PySem.builtinsNs)) (@PyProof.Rows.tablesOk view_39 (@PySem.Shared.heap (@PySem.Shared.mk (heap_505 (@PySem.World.params v0)) (@Array.mk @PySem.GenState []) (@PySem.Drawn.mk 0 0 0 0) (nat_lit 893) v1)))) ((fun (v2 : @PySem.Shared) => (@Bool.and (@PySem.W.xlAt view_39 [] v2) (@PySem.W.recOk (@PySem.W.RowW.records (@PySem.W.OpenRow.toRowW (@PySem.W.OpenLaw.row @PySem.Challenge.rw_ja0003_01))) v2))) (@PySem.Shared.mk (heap_505 (@PySem.World.params v0)) (@Array.mk @PySem.GenState []) (@PySem.Drawn.mk 0 0 0 0) (nat_lit 893) v1))) (@ite @Bool (@Eq @Bool @Bool.true @Bool.true) (@instDecidableEqBool @Bool.true @Bool.true) (@BEq.beq @Nat (@instBEqOfDecidableEq @Nat @instDecidableEqNat) (@Array.size @PySem.GenState (@PySem.Shared.gens (@PySem.Shared.mk (heap_505 (@PySem.World.params v0)) (@Array.mk @PySem.GenState []) (@PySem.Drawn.mk 0 0 0 0) (nat_lit 893) v1))) 0) (@Bool.not (@PySem.leftWithCleanup (@PySem.Shared.gens (@PySem.Shared.mk (heap_505 (@PySem.World.params v0)) (@Array.mk @PySem.GenState []) (@PySem.Drawn.mk 0 0 0 0) (nat_lit 893) v1))))))) (fun (v1 : @PySem.OsState) => @Bool.true))) := by
  try rw [show (PySem.Str.ofString "QuicProtocolVersion" : Str) = z8 from by kernel_rfl]
  try rw [show (PySem.Str.ofString "CipherSuite" : Str) = z51 from by kernel_rfl]
  try rw [show (PySem.Str.ofString "CIPHER_SUITES" : Str) = z54 from by kernel_rfl]
  try rw [show (PySem.Str.ofString "CryptoContext" : Str) = z123 from by kernel_rfl]
  try rw [show (PySem.Str.ofString "CryptoPair" : Str) = z93 from by kernel_rfl]
  try rw [PySem.W.Fast.te10880121769531294198]
  try rw [PySem.W.Fast.te821141287760084731]
  try rw [PySem.W.Fast.te3399658132070893891]
  try rw [PySem.W.Fast.te7409074990110511671]
  try rw [PySem.W.Fast.te13664370479719496447]
  try rw [PySem.W.Fast.te14722251495701143533]
  try rw [PySem.W.Fast.te5923862056798008813]
  try rw [PySem.W.Fast.te2368527892694137696]
  try rw [PySem.W.Fast.te10994771534591457954]
  exact q517
theorem q520 : (∀ (v0 : @PySem.World), (@Eq (∀ (v1 : @PySem.OsState), @Bool) (fun (v1 : @PySem.OsState) => (@PyProof.Rows.tabsOk view_39 (@PySem.Shared.mk (heap_505 (@PySem.World.params v0)) (@Array.mk @PySem.GenState []) (@PySem.Drawn.mk 0 0 0 0) (nat_lit 893) v1))) (fun (v1 : @PySem.OsState) => @Bool.true))) := by
  try rw [PySem.W.Fast.te479339242167458305]
  exact q519
theorem q522 : (∀ (v0 : @PySem.World), (@Eq (∀ (v1 : @PySem.OsState), (@Prod (@List (@Option @PySem.FnShape)) @Bool)) (fun (v1 : @PySem.OsState) => (@PySem.pinSeenD view_39 (@PyProof.Rows.drecsOf view_39) (@PySem.Shared.mk (heap_505 (@PySem.World.params v0)) (@Array.mk @PySem.GenState []) (@PySem.Drawn.mk 0 0 0 0) (nat_lit 893) v1))) (fun (v1 : @PySem.OsState) => (@PySem.pinGoodD (@PyProof.Rows.drecsOf view_39))))) := by
  try rw [PySem.W.Fast.te16090120013241838585]
  try rw [PySem.W.Fast.te3247288618530077131]
  exact q521
theorem q524 : (∀ (v0 : @PySem.World), (@Eq (∀ (v1 : @PySem.OsState), (@List (@Option @PyProof.Rows.PlainShape))) (fun (v1 : @PySem.OsState) => (@PyProof.Rows.plainSeenE view_39 (@PySem.W.looseW view_39 [(@PySem.Str.ofString "QuicProtocolVersion"), (@PySem.Str.ofString "CipherSuite"), (@PySem.Str.ofString "CIPHER_SUITES"), (@PySem.Str.ofString "CryptoContext"), (@PySem.Str.ofString "CryptoPair")]) (@PySem.Shared.mk (heap_505 (@PySem.World.params v0)) (@Array.mk @PySem.GenState []) (@PySem.Drawn.mk 0 0 0 0) (nat_lit 893) v1))) (fun (v1 : @PySem.OsState) => (@PyProof.Rows.plainGoodE view_39 (@PySem.W.looseW view_39 [(@PySem.Str.ofString "QuicProtocolVersion"), (@PySem.Str.ofString "CipherSuite"), (@PySem.Str.ofString "CIPHER_SUITES"), (@PySem.Str.ofString "CryptoContext"), (@PySem.Str.ofString "CryptoPair")]))))) := by
  try rw [show (PySem.Str.ofString "QuicProtocolVersion" : Str) = z8 from by kernel_rfl]
  try rw [show (PySem.Str.ofString "CipherSuite" : Str) = z51 from by kernel_rfl]
  try rw [show (PySem.Str.ofString "CIPHER_SUITES" : Str) = z54 from by kernel_rfl]
  try rw [show (PySem.Str.ofString "CryptoContext" : Str) = z123 from by kernel_rfl]
  try rw [show (PySem.Str.ofString "CryptoPair" : Str) = z93 from by kernel_rfl]
  try rw [PySem.W.Fast.te2386780881361962483]
  try rw [PySem.W.Fast.te821141287760084731]
  exact q523
theorem q526 : (∀ (v0 : @PySem.World), (@Eq (∀ (v1 : @PySem.OsState), (@List (@Option (@Prod @PyProof.Rows.PlainShape @Bool)))) (fun (v1 : @PySem.OsState) => (@PyProof.Rows.plainSeenD view_39 [(@PySem.Str.ofString "QuicProtocolVersion"), (@PySem.Str.ofString "CipherSuite"), (@PySem.Str.ofString "CIPHER_SUITES"), (@PySem.Str.ofString "CryptoContext"), (@PySem.Str.ofString "CryptoPair")] (@PySem.Shared.mk (heap_505 (@PySem.World.params v0)) (@Array.mk @PySem.GenState []) (@PySem.Drawn.mk 0 0 0 0) (nat_lit 893) v1))) (fun (v1 : @PySem.OsState) => (@PyProof.Rows.plainGoodD view_39 [(@PySem.Str.ofString "QuicProtocolVersion"), (@PySem.Str.ofString "CipherSuite"), (@PySem.Str.ofString "CIPHER_SUITES"), (@PySem.Str.ofString "CryptoContext"), (@PySem.Str.ofString "CryptoPair")])))) := by
  try rw [show (PySem.Str.ofString "QuicProtocolVersion" : Str) = z8 from by kernel_rfl]
  try rw [show (PySem.Str.ofString "CipherSuite" : Str) = z51 from by kernel_rfl]
  try rw [show (PySem.Str.ofString "CIPHER_SUITES" : Str) = z54 from by kernel_rfl]
  try rw [show (PySem.Str.ofString "CryptoContext" : Str) = z123 from by kernel_rfl]
  try rw [show (PySem.Str.ofString "CryptoPair" : Str) = z93 from by kernel_rfl]
  try rw [PySem.W.Fast.te11698064438423848299]
  exact q525
theorem q528 : (∀ (v0 : @PySem.World), (@Eq (∀ (v1 : @PySem.OsState), (@Prod (@List (@Option @PySem.FnShape)) @Bool)) (fun (v1 : @PySem.OsState) => (@PySem.W.wideSeen view_39 (@PySem.Shared.mk (heap_505 (@PySem.World.params v0)) (@Array.mk @PySem.GenState []) (@PySem.Drawn.mk 0 0 0 0) (nat_lit 893) v1))) (fun (v1 : @PySem.OsState) => (@PySem.W.wideGood view_39)))) := by
  try rw [PySem.W.Fast.te7317090234206586261]
  exact q527
theorem q530 : (∀ (v0 : @PySem.World), (@Eq (∀ (v1 : @PySem.OsState), (@List (@Prod (@Option (@Prod (@List (@Option @PySem.FnShape)) @Bool)) (@Option (@Prod @PyProof.Rows.PlainShape @Bool))))) (fun (v1 : @PySem.OsState) => (@PySem.W.clsSeenW view_39 [(@PySem.Str.ofString "QuicProtocolVersion"), (@PySem.Str.ofString "CipherSuite"), (@PySem.Str.ofString "CIPHER_SUITES"), (@PySem.Str.ofString "CryptoContext"), (@PySem.Str.ofString "CryptoPair")] (@PySem.Shared.mk (heap_505 (@PySem.World.params v0)) (@Array.mk @PySem.GenState []) (@PySem.Drawn.mk 0 0 0 0) (nat_lit 893) v1))) (fun (v1 : @PySem.OsState) => (@PySem.W.clsGoodW view_39 [(@PySem.Str.ofString "QuicProtocolVersion"), (@PySem.Str.ofString "CipherSuite"), (@PySem.Str.ofString "CIPHER_SUITES"), (@PySem.Str.ofString "CryptoContext"), (@PySem.Str.ofString "CryptoPair")])))) := by
  try rw [show (PySem.Str.ofString "QuicProtocolVersion" : Str) = z8 from by kernel_rfl]
  try rw [show (PySem.Str.ofString "CipherSuite" : Str) = z51 from by kernel_rfl]
  try rw [show (PySem.Str.ofString "CIPHER_SUITES" : Str) = z54 from by kernel_rfl]
  try rw [show (PySem.Str.ofString "CryptoContext" : Str) = z123 from by kernel_rfl]
  try rw [show (PySem.Str.ofString "CryptoPair" : Str) = z93 from by kernel_rfl]
  try rw [PySem.W.Fast.te7369524293546568484]
  exact q529
end
section
theorem hsts : @PySem.W.behindTheImports ((@PySem.W.OpenRow.toRowW (@PySem.W.OpenLaw.row @PySem.Challenge.rw_ja0003_01))).1 = sts_49 ++ (sts_71 ++ (sts_115 ++ (sts_159 ++ (sts_189 ++ (sts_232 ++ (sts_254 ++ (sts_313 ++ (sts_329 ++ (sts_403 ++ (sts_482 ++ [])))))))))) := by
  rw [PySem.W.Fast.te2368527892694137696]
  kernel_rfl
theorem q233 : (∀ (v0 : @PySem.World), (@Eq (∀ (v1 : @PySem.OsState), (@Option (@Prod @PySem.Flow (@Prod @PySem.W.SharedT (@Prod @PySem.Code @PySem.Pos))))) (fun (v1 : @PySem.OsState) => (@PySem.W.segRunT @PySem.treeTable ((@PySem.W.OpenRow.toRowW (@PySem.W.OpenLaw.row @PySem.Challenge.rw_ja0003_01))).1 v0 (nat_lit 11) (@Option.some @PySem.Value (@PySem.Value.ref 6)) (nat_lit 1) (nat_lit 370) (@PySem.W.SharedT.mk (tree_188 (@PySem.World.params v0)) (nat_lit 147) (@PySem.Life.mk [] [] [] 0 [] [] @Bool.false #[] [] 0 @Bool.false @Bool.false @Bool.false 0 [2000, 10, 10] @Bool.false 0 @Bool.true [] [] 0 @Bool.false) (@Array.mk @PySem.GenState []) (@PySem.Drawn.mk 0 0 0 0) (nat_lit 406) v1) (@PySem.W.piecesOf sts_189 env_41 (@PySem.Code.body (@PySem.W.behindTheImports ((@PySem.W.OpenRow.toRowW (@PySem.W.OpenLaw.row @PySem.Challenge.rw_ja0003_01))).1) env_41) (@PySem.Pos.mk 93 0 93 8) [(@PySem.W.topFrame (@PySem.Pos.mk 0 0 0 0))]))) (fun (v1 : @PySem.OsState) => (@Option.some (@Prod @PySem.Flow (@Prod @PySem.W.SharedT (@Prod @PySem.Code @PySem.Pos))) (@Prod.mk @PySem.Flow (@Prod @PySem.W.SharedT (@Prod @PySem.Code @PySem.Pos)) @PySem.Flow.next (@Prod.mk @PySem.W.SharedT (@Prod @PySem.Code @PySem.Pos) (@PySem.W.SharedT.mk (tree_229 (@PySem.World.params v0)) (nat_lit 186) (@PySem.Life.mk [] [] [] 0 [] [] @Bool.false #[] [] 0 @Bool.false @Bool.false @Bool.false 0 [2000, 10, 10] @Bool.false 0 @Bool.true [] [] 0 @Bool.false) (@Array.mk @PySem.GenState []) (@PySem.Drawn.mk 0 0 0 0) (nat_lit 471) v1) (@Prod.mk @PySem.Code @PySem.Pos (@PySem.Code.body (@PySem.W.behindTheImports ((@PySem.W.OpenRow.toRowW (@PySem.W.OpenLaw.row @PySem.Challenge.rw_ja0003_01))).1) env_41) (@PySem.Pos.mk 105 0 106 8)))))))) := byRow2 "special-get-raises" (P := fun v0 => (@Eq (∀ (v1 : @PySem.OsState), (@Option (@Prod @PySem.Flow (@Prod @PySem.W.SharedT (@Prod @PySem.Code @PySem.Pos))))) (fun (v1 : @PySem.OsState) => (@PySem.W.segRunT @PySem.treeTable ((@PySem.W.OpenRow.toRowW (@PySem.W.OpenLaw.row @PySem.Challenge.rw_ja0003_01))).1 v0 (nat_lit 11) (@Option.some @PySem.Value (@PySem.Value.ref 6)) (nat_lit 1) (nat_lit 370) (@PySem.W.SharedT.mk (tree_188 (@PySem.World.params v0)) (nat_lit 147) (@PySem.Life.mk [] [] [] 0 [] [] @Bool.false #[] [] 0 @Bool.false @Bool.false @Bool.false 0 [2000, 10, 10] @Bool.false 0 @Bool.true [] [] 0 @Bool.false) (@Array.mk @PySem.GenState []) (@PySem.Drawn.mk 0 0 0 0) (nat_lit 406) v1) (@PySem.W.piecesOf sts_189 env_41 (@PySem.Code.body (@PySem.W.behindTheImports ((@PySem.W.OpenRow.toRowW (@PySem.W.OpenLaw.row @PySem.Challenge.rw_ja0003_01))).1) env_41) (@PySem.Pos.mk 93 0 93 8) [(@PySem.W.topFrame (@PySem.Pos.mk 0 0 0 0))]))) (fun (v1 : @PySem.OsState) => (@Option.some (@Prod @PySem.Flow (@Prod @PySem.W.SharedT (@Prod @PySem.Code @PySem.Pos))) (@Prod.mk @PySem.Flow (@Prod @PySem.W.SharedT (@Prod @PySem.Code @PySem.Pos)) @PySem.Flow.next (@Prod.mk @PySem.W.SharedT (@Prod @PySem.Code @PySem.Pos) (@PySem.W.SharedT.mk (tree_229 (@PySem.World.params v0)) (nat_lit 186) (@PySem.Life.mk [] [] [] 0 [] [] @Bool.false #[] [] 0 @Bool.false @Bool.false @Bool.false 0 [2000, 10, 10] @Bool.false 0 @Bool.true [] [] 0 @Bool.false) (@Array.mk @PySem.GenState []) (@PySem.Drawn.mk 0 0 0 0) (nat_lit 471) v1) (@Prod.mk @PySem.Code @PySem.Pos (@PySem.Code.body (@PySem.W.behindTheImports ((@PySem.W.OpenRow.toRowW (@PySem.W.OpenLaw.row @PySem.Challenge.rw_ja0003_01))).1) env_41) (@PySem.Pos.mk 105 0 106 8)))))))) q230 q232
theorem piece_cut {tb p w n0 ann N s r b l env c p' B} (e : b = l) (k : topRun tb p w n0 ann N s (restOf l env c p' B) = some r) : topRun tb p w n0 ann N s (restOf b env c p' B) = some r := e ▸ k
theorem q508 : (∀ (v0 : @PySem.World), (∀ (v1 : @PySem.OsState), (@Eq (@Option @PySem.Shared) (@PySem.W.topRun @PySem.treeTable ((@PySem.W.OpenRow.toRowW (@PySem.W.OpenLaw.row @PySem.Challenge.rw_ja0003_01))).1 v0 (nat_lit 11) (@Option.some @PySem.Value (@PySem.Value.ref 6)) (12 + (1 + (252 + (330 + (355 + (292 + (370 + (248 + (421 + (64 + (537 + (377 + (116 + (2)))))))))))))) (@PySem.Shared.mk (@PySem.W.boot_heap (@PySem.World.params v0)) (@Array.mk @PySem.GenState []) @PySem.W.boot_drawn @PySem.W.boot_toks v1) (@PySem.W.topStub ((@PySem.W.OpenRow.toRowW (@PySem.W.OpenLaw.row @PySem.Challenge.rw_ja0003_01))).1)) (@Option.some @PySem.Shared (@PySem.Shared.mk (heap_505 (@PySem.World.params v0)) (@Array.mk @PySem.GenState []) (@PySem.Drawn.mk 0 0 0 0) (nat_lit 893) v1))))) := by
  intro w os
  refine go_top (congrFun (q47 w) os) (piece_block (congrFun (q49 w) os) (piece_cut hsts ?_))
  refine piece_app (segRun_of (congrFun (q71 w) os)) ?_
  refine piece_app (segRun_of (congrFun (q115 w) os)) ?_
  refine piece_app (segRun_of (congrFun (q159 w) os)) ?_
  refine piece_app (segRun_of (congrFun (q189 w) os)) ?_
  refine piece_app (segRun_of (congrFun (q233 w) os)) ?_
  refine piece_app (segRun_of (congrFun (q254 w) os)) ?_
  refine piece_app (segRun_of (congrFun (q313 w) os)) ?_
  refine piece_app (segRun_of (congrFun (q329 w) os)) ?_
  refine piece_app (segRun_of (congrFun (q403 w) os)) ?_
  refine piece_app (segRun_of (congrFun (q482 w) os)) ?_
  refine piece_app (segRun_of (congrFun (q505 w) os)) ?_
  exact congrFun (q507 w) os
theorem q540 : (∀ (v0 : @PySem.World), (@Eq (∀ (v1 : @PySem.OsState), (@PySem.W.Hook.α HK)) (fun (v1 : @PySem.OsState) => (@PySem.W.Hook.obs HK (@PySem.Shared.mk (heap_505 (@PySem.World.params v0)) (@Array.mk @PySem.GenState []) (@PySem.Drawn.mk 0 0 0 0) (nat_lit 893) v1))) (fun (v1 : @PySem.OsState) => (@PySem.W.Hook.val HK v0)))) := by
  intro w
  kernel_rfl
end
section
noncomputable def dL : DefRec := ⟨z127, fA (sg PB 39), fB (sg PB 39), fC (sg PB 39), (@PySem.Pos.mk 317 0 343 107)⟩
abbrev RWW : RowW := OpenRow.toRowW (OpenLaw.row PySem.Challenge.rw_ja0003_01)
theorem said01 : sreFenced (OpenLaw.row PySem.Challenge.rw_ja0003_01).prog.main = true := by kernel_rfl
theorem said02 : namesResolve (OpenLaw.row PySem.Challenge.rw_ja0003_01).prog = true := by kernel_rfl
theorem said03 : lookedIntoSs (moduleNames (OpenLaw.row PySem.Challenge.rw_ja0003_01).prog.main.body) (OpenLaw.row PySem.Challenge.rw_ja0003_01).prog.main.body = true := by kernel_rfl
theorem said04 : namesMeet (OpenLaw.row PySem.Challenge.rw_ja0003_01).prog (OpenLaw.row PySem.Challenge.rw_ja0003_01).prog.main.body (fun _ n => attrL n) = true := by kernel_rfl
theorem said05 : ((OpenLaw.row PySem.Challenge.rw_ja0003_01).prog.boundNames.all fun n => !worldNames.contains n) = true := by kernel_rfl
theorem said1 : looksOpen (OpenLaw.row PySem.Challenge.rw_ja0003_01).prog = true := by
  delta looksOpen
  rw [said01, said02, said03, said04, said05, Bool.or_true]
  kernel_rfl
theorem said2 : (OpenLaw.row PySem.Challenge.rw_ja0003_01).partSaid = true := by
  delta OpenRow.partSaid
  rw [said1]
  kernel_rfl
theorem said3 : (OpenLaw.row PySem.Challenge.rw_ja0003_01).wellSaid = true := by
  delta OpenRow.wellSaid
  rw [said2]
  kernel_rfl
theorem said : OpenLaw.wellSaid PySem.Challenge.rw_ja0003_01 = true := by
  delta OpenLaw.wellSaid
  rw [said3]
  kernel_rfl
theorem left1 : LeftO RWW.prog view_39 [(@PySem.Str.ofString "QuicProtocolVersion"), (@PySem.Str.ofString "CipherSuite"), (@PySem.Str.ofString "CIPHER_SUITES"), (@PySem.Str.ofString "CryptoContext"), (@PySem.Str.ofString "CryptoPair")] (fun s => xlAt view_39 [] s && recOk (RowW.records RWW) s) (Hook.obs HK) (Hook.val HK) 6828 :=
  LeftO.of_pieces (boot_open (by rfl) (by rfl) (fun _ => by rfl)) q510 q508 (by rfl) (fun w => funext fun os =>
    looks_pair (congrFun (q512 w) os) (looks_pair (looks_pair (congrFun (q514 w) os) (looks_pair (congrFun (q516 w) os) (looks_pair (congrFun (q518 w) os) (looks_pair (congrFun (q520 w) os) (looks_pair (congrFun (q522 w) os) (looks_pair (congrFun (q524 w) os) (looks_pair (congrFun (q526 w) os) (looks_pair (congrFun (q528 w) os) (congrFun (q530 w) os))))))))) (congrFun (q540 w) os)))
theorem hd1 (walk : (@Mine.WalkP view_39 [(@PySem.Str.ofString "QuicProtocolVersion"), (@PySem.Str.ofString "CipherSuite"), (@PySem.Str.ofString "CIPHER_SUITES"), (@PySem.Str.ofString "CryptoContext"), (@PySem.Str.ofString "CryptoPair")] (@PySem.W.XL view_39 []) (Hook.says HK) (@PySem.W.OpenRow.toRowW (@PySem.W.OpenLaw.row @PySem.Challenge.rw_ja0003_01)) dL [])) : PySem.Challenge.rw_ja0003_01.Holds := by
  refine holds_law said fun _ => ?_
  refine Mine.PySem.W.holds_open (q := view_39) (loose := [(@PySem.Str.ofString "QuicProtocolVersion"), (@PySem.Str.ofString "CipherSuite"), (@PySem.Str.ofString "CIPHER_SUITES"), (@PySem.Str.ofString "CryptoContext"), (@PySem.Str.ofString "CryptoPair")]) (Xt := fun s => xlAt view_39 [] s && recOk (RowW.records RWW) s) (XP := XL view_39 []) (Yf := Hook.obs HK) (Ya := Hook.val HK) (YP := Hook.says HK) (N := 6828) left1 (Hook.of HK) (Hook.keeps HK) (fun s e => xl_of s (Bool.and_eq_true_iff.mp e).1) XL.keeps (by kernel_rfl) (by kernel_rfl) (by kernel_rfl) (fun s e => recFacts_of (Bool.and_eq_true_iff.mp e).2) (by rfl) (by assumption) (by decide +kernel) ⟨rfl, rfl, rfl, rfl, rfl, by decide +kernel⟩ ?hw walk
  case hw => w_witness2
end
theorem fillK_C1 (h : PySem.Challenge.rw_ja0003_01.wellSaid = true) : (KK = KK) ∧ PySem.Challenge.rw_ja0003_01 = PySem.Challenge.rw_ja0003_01 := by
  k_fill
  exact ⟨rfl, rfl⟩
section
variable {prog : Program} {w : World} {A : Around} {H0 h : Heap} {fs : List (Nat × Map)} {H : PH} {n : Nat} {L : Nat} {m : Map} {g : Array GenState} {d : Drawn} {tk : Nat} {os : OsState} {bb : Nat}
  {E : Value → Shared → Prop} {Q : Value → Shared → Prop}
theorem take_ct {st cl : Nat} {b : Int} {most : Int} {tm : Tok}
    (G : Gd (KK w.params) H0) (hz : H0.objs.size ≤ n) (O : Ok A 1)
    (R : RC w.params H0 fs H n h) (hs : StC H st cl b) (hm : 0 < most) (hb : b < 2 ^ 30)
    (k : ∀ v t x h' n' tk', 0 ≤ v → v < most → n ≤ n' → StC (H.set st x) st cl (b + 1) → RC w.params H0 fs (H.set st x) n' h' → Q (.int v t) ⟨h', g, d, tk', os⟩) :
    wpAny (model prog w) A (call (.ref 354) [.ref st, .int most tm]) Q E ⟨h, g, d, tk, os⟩ := by
  refine' StC.el hs ?_
  clear hs
  intro at_ t0 vs cells hs hc hi hne hl0 hl h0 h1
  have fin : ∀ t', StC (H.set st (.lst [.int (at_ + 1) t', .ref cl])) st cl (b + 1) := fun t' =>
    ⟨at_ + 1, t', vs, cells, PH.set_self _ _ _, PH.set_at hne hc, hi, hne, hl0, hl, by walk_at "om", by walk_at "om"⟩
  refine' r_def (binds := [("state", .ref st), ("most", .int most tm)]) R ?G hz O.room ?ho ?hcd ?hbind ?hloc ?_ ?hco ?hgen ?hk ?hcell
  walk_at "def"
  intro L' h₁ tk₁ hl R'
  have hvl := hi.length
  walk_at "36"
  split
  · rename_i hlt
    have hlt' := of_decide_eq_true hlt
    walk_at "9"
    rename RC _ _ _ _ _ _ => r0
    exact k _ _ _ _ _ _ ‹_› ‹_› (by walk_at "om") (fin _) r0.pop
  · walk_at "37"
    rename RC _ _ _ _ _ _ => r0
    exact k _ _ _ _ _ _ ‹_› ‹_› (by walk_at "om") (fin _) r0.pop
theorem octets_ct {st cl : Nat} {b : Int} {size : Int} {ts : Tok}
    (G : Gd (KK w.params) H0) (hz : H0.objs.size ≤ n) (O : Ok A 2)
    (R : RC w.params H0 fs H n h) (hs : StC H st cl b) (h0 : 0 ≤ size) (h1 : size ≤ 100) (hb : b < 2 ^ 30)
    (k : ∀ (y : List UInt8) t x h' n' tk', (y.length : Int) = size → n ≤ n' → StC (H.set st x) st cl (b + 1) → RC w.params H0 fs (H.set st x) n' h' → Q (.bytes y.toArray t) ⟨h', g, d, tk', os⟩) :
    wpAny (model prog w) A (call (.ref 368) [.ref st, .int size ts]) Q E ⟨h, g, d, tk, os⟩ := by
  refine' r_def (binds := [("state", .ref st), ("size", .int size ts)]) R ?G hz O.room ?ho ?hcd ?hbind ?hloc ?_ ?hco ?hgen ?hk ?hcell
  walk_at "def"
  intro L' h₁ tk₁ hl R'
  walk_at "8"
  split
  · rename_i hc; have hc' := of_decide_eq_true hc
    walk_at "13"
    rename RC _ _ _ _ _ _ => r0
    have hp : (0 : Int) < 256 ^ size.toNat := Int.pow_pos (by decide)
    refine' take_ct G (by walk_at "om") (O.deep (by decide)) r0 hs hp hb ?_
    intro v t x h' n' tk' v0 v1 hn hs' r1
    clear r0
    have hv : v.toNat < 256 ^ size.toNat := by
      have e : ((256 ^ size.toNat : Nat) : Int) = 256 ^ size.toNat := by rw [Int.natCast_pow]; rfl
      walk_at "om"
    walk_at "8"
    rename RC _ _ _ _ _ _ => r0
    exact k _ _ _ _ _ _ (by rw [toBE_length]; walk_at "om") (by walk_at "om") hs' r0.pop
  · rename_i hc
    have hc' := of_decide_eq_false (Bool.eq_false_iff.mpr hc)
    walk_at "1"
    rename RC _ _ _ _ _ _ => r0
    obtain ⟨at_, t0, vs, cells, e, r⟩ := id hs
    have e2 := PH.set_same e
    refine k [] _ (.lst [.int at_ t0, .ref cl]) _ (L' + 1) _ (by simp; walk_at "om") (by walk_at "om") (by rw [e2]; exact hs.mono (by walk_at "om")) (by rw [e2]; exact r0.pop)
theorem state_ct {l : Nat} {vs : List Value} {cells : List Int} {most : Int} {tm : Tok}
    (G : Gd (KK w.params) H0) (hz : H0.objs.size ≤ n) (O : Ok A 1)
    (R : RC w.params H0 fs H n h) (hi : H0.IsList l vs.toArray) (hv : IntsAre vs cells) (hs : cells.length < 2 ^ 19) (hm : 0 < most)
    (k : ∀ (st cl : Nat) H' h' n' tk', n ≤ n' → H.le H' → StC H' st cl 0 → RC w.params H0 fs H' n' h' → Q (.ref st) ⟨h', g, d, tk', os⟩) :
    wpAny (model prog w) A (call (.ref 361) [.ref l, .int most tm]) Q E ⟨h, g, d, tk, os⟩ := by
  refine' r_def (binds := [("script", .ref l), ("most", .int most tm)]) R ?G hz O.room ?ho ?hcd ?hbind ?hloc ?_ ?hco ?hgen ?hk ?hcell
  walk_at "def"
  intro L' h₁ tk₁ hl R'
  have hvl := hv.length
  have il : h₁.IsList l vs.toArray := by obtain ⟨o, ho, r⟩ := hi; exact ⟨o, R'.ext _ _ ho, r⟩
  walk_at "21"
  have hvt := ints_take most.toNat hv
  have hvl2 := hvt.length
  split
  · rename_i hc
    walk_at "3"
    rename RC _ _ _ _ _ _ => r0
    have hne : (List.take most.toNat cells).length ≠ 0 := by
      intro q
      rw [q] at hvl2
      rw [List.length_eq_zero_iff.mp hvl2] at hc
      exact absurd hc (by decide)
    have hle : (List.take most.toNat cells).length ≤ cells.length := by rw [List.length_take]; walk_at "om"
    exact k _ _ _ _ _ _ (by walk_at "om") (by walk_at "le") ⟨0, _, _, _, by walk_at "lk", by walk_at "lk", hvt, by walk_at "om", by walk_at "om", by walk_at "om", by walk_at "om", by walk_at "om"⟩ r0.pop
  · walk_at "7"
    rename RC _ _ _ _ _ _ => r0
    exact k _ _ _ _ _ _ (by walk_at "om") (by walk_at "le") ⟨0, _, _, _, by walk_at "lk", by walk_at "lk", .cons 0 _ .nil, by walk_at "om", by decide, by decide, by walk_at "om", by walk_at "om"⟩ r0.pop
end
section
variable {prog : Program} {w : World} {A : Around} {H0 h : Heap} {fs : List (Nat × Map)} {H : PH} {n : Nat} {L : Nat} {m : Map} {g : Array GenState} {d : Drawn} {tk : Nat} {os : OsState} {bb : Nat}
  {E : Value → Shared → Prop} {Q : Value → Shared → Prop}
theorem seal_ct {name key nonce data assoc : List UInt8} {t1 t2 t3 t4 t5 : Tok}
    (G : Gd (KK w.params) H0) (hz : H0.objs.size ≤ n) (O : Ok A 1) (R : RC w.params H0 fs H n h)
    (l1 : name.length < 256) (l2 : key.length < 256) (l3 : nonce.length < 256) (l4 : data.length < 256) (l5 : assoc.length < 256)
    (k : ∀ t h' n' tk', n ≤ n' → RC w.params H0 fs H n' h' → Q (.bytes (sealB name key nonce data assoc).toArray t) ⟨h', g, d, tk', os⟩) :
    wpAny (model prog w) A (call (.ref 375) [.bytes name.toArray t1, .bytes key.toArray t2, .bytes nonce.toArray t3, .bytes data.toArray t4, .bytes assoc.toArray t5]) Q E ⟨h, g, d, tk, os⟩ := by
  refine' r_def (binds := [("name", .bytes name.toArray t1), ("key", .bytes key.toArray t2), ("nonce", .bytes nonce.toArray t3), ("data", .bytes data.toArray t4), ("associated", .bytes assoc.toArray t5)]) R ?G hz O.room ?ho ?hcd ?hbind ?hloc ?_ ?hco ?hgen ?hk ?hcell
  walk_at "def"
  intro L' h₁ tk₁ hl R'
  walk_at "81"
  rename RC _ _ _ _ _ _ => r0
  exact k _ _ _ _ (by walk_at "om") (r0.pop.weak (by walk_at "le"))
theorem mask_ct {name key sample : List UInt8} {t1 t2 t3 : Tok}
    (G : Gd (KK w.params) H0) (hz : H0.objs.size ≤ n) (O : Ok A 1) (R : RC w.params H0 fs H n h)
    (l1 : 6 ≤ key.length) (l2 : key.length < 256)
    (k : ∀ t h' n' tk', n ≤ n' → RC w.params H0 fs H n' h' → Q (.bytes (maskB name key sample).toArray t) ⟨h', g, d, tk', os⟩) :
    wpAny (model prog w) A (call (.ref 389) [.bytes name.toArray t1, .bytes key.toArray t2, .bytes sample.toArray t3]) Q E ⟨h, g, d, tk, os⟩ := by
  refine' r_def (binds := [("name", .bytes name.toArray t1), ("key", .bytes key.toArray t2), ("sample", .bytes sample.toArray t3)]) R ?G hz O.room ?ho ?hcd ?hbind ?hloc ?_ ?hco ?hgen ?hk ?hcell
  walk_at "def"
  intro L' h₁ tk₁ hl R'
  have b5 := (key.getD 5 0).toNat_lt
  have b4 := (key.getD 4 0).toNat_lt
  have b3 := (key.getD 3 0).toNat_lt
  walk_at "30"
  rename RC _ _ _ _ _ _ => r0
  simp only [List.map_cons, List.map_nil, u8nat]
  exact k _ _ _ _ (by walk_at "om") (r0.pop.weak (by walk_at "le"))
theorem opened_ct {name key nonce data assoc : List UInt8} {t1 t2 t3 t4 t5 : Tok}
    (G : Gd (KK w.params) H0) (hz : H0.objs.size ≤ n) (O : Ok A 2) (R : RC w.params H0 fs H n h)
    (l1 : name.length < 256) (l2 : key.length < 256) (l3 : nonce.length < 256) (l4 : data.length < 10000) (l5 : assoc.length < 256)
    (k : ∀ v h' n' tk', OptB v (openB name key nonce data assoc) → n ≤ n' → RC w.params H0 fs H n' h' → Q v ⟨h', g, d, tk', os⟩) :
    wpAny (model prog w) A (call (.ref 382) [.bytes name.toArray t1, .bytes key.toArray t2, .bytes nonce.toArray t3, .bytes data.toArray t4, .bytes assoc.toArray t5]) Q E ⟨h, g, d, tk, os⟩ := by
  refine' r_def (binds := [("name", .bytes name.toArray t1), ("key", .bytes key.toArray t2), ("nonce", .bytes nonce.toArray t3), ("data", .bytes data.toArray t4), ("associated", .bytes assoc.toArray t5)]) R ?G hz O.room ?ho ?hcd ?hbind ?hloc ?_ ?hco ?hgen ?hk ?hcell
  walk_at "def"
  intro L' h₁ tk₁ hl R'
  walk_at "13"
  split
  · rename_i hc
    have hc' := of_decide_eq_true hc
    walk_at "3"
    rename RC _ _ _ _ _ _ => r0
    refine k _ _ _ _ ?_ (by walk_at "om") (r0.pop.weak (by walk_at "le"))
    unfold openB
    rw [if_pos (by walk_at "om")]
    rfl
  · rename_i hc
    have hc' := of_decide_eq_false (Bool.eq_false_iff.mpr hc)
    walk_at "43"
    rename RC _ _ _ _ _ _ => r0
    refine' seal_ct G (by walk_at "om") (O.deep (by decide)) r0 l1 l2 l3 (cutB_length data) l5 ?_
    intro t h' n' tk' hn r1
    clear r0
    walk_at "3"
    split
    · rename_i he
      walk_at "1"
      rename RC _ _ _ _ _ _ => r0
      refine k _ _ _ _ ?_ (by walk_at "om") (r0.pop.weak (by walk_at "le"))
      have he' : sealB name key nonce (cutB data) assoc = data := (beq_iff_eq (α := List UInt8)).mp he
      unfold openB
      rw [if_neg (by walk_at "om"), if_pos he']
      exact ⟨_, rfl⟩
    · rename_i he
      walk_at "1"
      rename RC _ _ _ _ _ _ => r0
      refine k _ _ _ _ ?_ (by walk_at "om") (r0.pop.weak (by walk_at "le"))
      have he' : ¬ sealB name key nonce (cutB data) assoc = data := fun q => he ((beq_iff_eq (α := List UInt8)).mpr q)
      unfold openB
      rw [if_neg (by walk_at "om"), if_neg he']
      rfl
theorem expand_ct {size length : Int} {secret label hv : List UInt8} {t1 t2 t3 t4 t5 : Tok}
    (G : Gd (KK w.params) H0) (hz : H0.objs.size ≤ n) (O : Ok A 1) (R : RC w.params H0 fs H n h)
    (l1 : secret.length ≤ 100) (l2 : label.length ≤ 100) (l4 : 0 ≤ length) (l5 : length ≤ 100) (l6 : ExpandPre secret label)
    (k : ∀ t h' n' tk', n ≤ n' → RC w.params H0 fs H n' h' → Q (.bytes (expandB size.toNat secret label length.toNat).toArray t) ⟨h', g, d, tk', os⟩) :
    wpAny (model prog w) A (call (.ref 396) [.int size t1, .bytes secret.toArray t2, .bytes label.toArray t3, .bytes hv.toArray t4, .int length t5]) Q E ⟨h, g, d, tk, os⟩ := by
  obtain ⟨l6, l3⟩ := l6
  refine' r_def (binds := [("size", .int size t1), ("secret", .bytes secret.toArray t2), ("label", .bytes label.toArray t3), ("hash_value", .bytes hv.toArray t4), ("length", .int length t5)]) R ?G hz O.room ?ho ?hcd ?hbind ?hloc ?_ ?hco ?hgen ?hk ?hcell
  walk_at "def"
  intro L' h₁ tk₁ hl R'
  walk_at "34"
  have any : ([kuL, kuL2].any (· == label)) = decide (label = kuL ∨ label = kuL2) := by
    simp only [List.any_cons, List.any_nil, Bool.or_false]
    by_cases q1 : label = kuL
    · subst q1; simp
    · by_cases q2 : label = kuL2
      · subst q2; simp
      · have e1 : (kuL == label) = false := by simpa using Ne.symm q1
        have e2 : (kuL2 == label) = false := by simpa using Ne.symm q2
        simp [q1, q2, e1, e2]
  split
  · rename_i hc
    have hc' : label = kuL ∨ label = kuL2 := by
      have : ([kuL, kuL2].any (· == label)) = true := hc
      rw [any] at this; exact of_decide_eq_true this
    walk_at "52"
    rename RC _ _ _ _ _ _ => r0
    refine Qb ?_ (k _ _ _ _ (by walk_at "om") (r0.pop.weak (by walk_at "le")))
    have a1 : (((beI (secret.take 6) : Nat) : Int) + 1).toNat = beI (secret.take 6) + 1 := by walk_at "om"
    have a2 : (max 0 (length - (secret.length : Int))).toNat = length.toNat - secret.length := by walk_at "om"
    show _ = toBE 6 (((beI (secret.take 6) : Nat) : Int) + 1).toNat ++ (List.take length.toNat secret).drop 6 ++ List.replicate (max 0 (length - (secret.length : Int))).toNat 0
    rw [a1, a2]
    unfold expandB
    rw [if_pos hc']
  · rename_i hc
    have hc' : ¬ (label = kuL ∨ label = kuL2) := fun q => hc (by
      show ([kuL, kuL2].any (· == label)) = true
      rw [any]; exact decide_eq_true q)
    walk_at "48"
    rename RC _ _ _ _ _ _ => r0
    refine Qb ?_ (k _ _ _ _ (by walk_at "om") (r0.pop.weak (by walk_at "le")))
    show _ = List.take length.toNat (toBE 6 (((beI (secret.take 6) : Nat) : Int)).toNat ++ label.drop ((label.length : Int) - 3).toNat ++ List.replicate length.toNat 0)
    have a1 : ((label.length : Int) - 3).toNat = label.length - 3 := by walk_at "om"
    rw [a1, Int.toNat_natCast]
    unfold expandB
    rw [if_neg hc']
end
section
variable {prog : Program} {w : World} {A : Around} {H0 h : Heap} {fs : List (Nat × Map)} {H : PH} {n : Nat} {L : Nat} {m : Map} {g : Array GenState} {d : Drawn} {tk : Nat} {os : OsState} {bb : Nat}
  {E : Value → Shared → Prop} {Q : Value → Shared → Prop}
abbrev PR : Nat := 410
theorem prim_seal_ct {name key nonce data assoc : List UInt8} {t0 t1 t2 t3 t4 t5 : Tok}
    (G : Gd (KK w.params) H0) (hz : H0.objs.size ≤ n) (O : Ok A 2) (R : RC w.params H0 fs H n h)
    (l1 : name.length < 256) (l2 : key.length < 256) (l3 : nonce.length < 256) (l4 : data.length < 256) (l5 : assoc.length < 256)
    (k : ∀ t h' n' tk', n ≤ n' → RC w.params H0 fs H n' h' → Q (.bytes (sealB name key nonce data assoc).toArray t) ⟨h', g, d, tk', os⟩) :
    wpAny (model prog w) A (call (.ref 410) [.str (PySem.Str.ofString "seal") t0, .bytes name.toArray t1, .bytes key.toArray t2, .bytes nonce.toArray t3, .bytes data.toArray t4, .bytes assoc.toArray t5]) Q E ⟨h, g, d, tk, os⟩ := by
  refine' r_def (binds := [("word", .str (PySem.Str.ofString "seal") t0), ("name", .bytes name.toArray t1), ("key", .bytes key.toArray t2), ("first", .bytes nonce.toArray t3), ("second", .bytes data.toArray t4), ("third", .bytes assoc.toArray t5)]) R ?G hz O.room ?ho ?hcd ?hbind ?hloc ?_ ?hco ?hgen ?hk ?hcell
  walk_at "def"
  intro L' h₁ tk₁ hl R'
  walk_at "25"
  rename RC _ _ _ _ _ _ => r0
  refine' seal_ct G (by walk_at "om") (O.deep (by decide)) r0 l1 l2 l3 l4 l5 ?_
  intro t h' n' tk' hn r1
  exact k _ _ _ _ (by walk_at "om") (r1.pop.weak (by walk_at "le"))
theorem prim_open_ct {name key nonce data assoc : List UInt8} {t0 t1 t2 t3 t4 t5 : Tok}
    (G : Gd (KK w.params) H0) (hz : H0.objs.size ≤ n) (O : Ok A 3) (R : RC w.params H0 fs H n h)
    (l1 : name.length < 256) (l2 : key.length < 256) (l3 : nonce.length < 256) (l4 : data.length < 10000) (l5 : assoc.length < 256)
    (k : ∀ v h' n' tk', OptB v (openB name key nonce data assoc) → n ≤ n' → RC w.params H0 fs H n' h' → Q v ⟨h', g, d, tk', os⟩) :
    wpAny (model prog w) A (call (.ref 410) [.str (PySem.Str.ofString "open") t0, .bytes name.toArray t1, .bytes key.toArray t2, .bytes nonce.toArray t3, .bytes data.toArray t4, .bytes assoc.toArray t5]) Q E ⟨h, g, d, tk, os⟩ := by
  refine' r_def (binds := [("word", .str (PySem.Str.ofString "open") t0), ("name", .bytes name.toArray t1), ("key", .bytes key.toArray t2), ("first", .bytes nonce.toArray t3), ("second", .bytes data.toArray t4), ("third", .bytes assoc.toArray t5)]) R ?G hz O.room ?ho ?hcd ?hbind ?hloc ?_ ?hco ?hgen ?hk ?hcell
  walk_at "def"
  intro L' h₁ tk₁ hl R'
  walk_at "34"
  rename RC _ _ _ _ _ _ => r0
  refine' opened_ct G (by walk_at "om") (O.deep (by decide)) r0 l1 l2 l3 l4 l5 ?_
  intro v h' n' tk' ho hn r1
  exact k _ _ _ _ ho (by walk_at "om") (r1.pop.weak (by walk_at "le"))
theorem prim_mask_ct {name key sample : List UInt8} {t0 t1 t2 t3 : Tok} {v1 v2 : Value}
    (G : Gd (KK w.params) H0) (hz : H0.objs.size ≤ n) (O : Ok A 2) (R : RC w.params H0 fs H n h)
    (l0 : name.length < 256) (l1 : 6 ≤ key.length) (l2 : key.length < 256) (l3 : sample.length < 256)
    (k : ∀ t h' n' tk', n ≤ n' → RC w.params H0 fs H n' h' → Q (.bytes (maskB name key sample).toArray t) ⟨h', g, d, tk', os⟩) :
    wpAny (model prog w) A (call (.ref 410) [.str (PySem.Str.ofString "mask") t0, .bytes name.toArray t1, .bytes key.toArray t2, .bytes sample.toArray t3, v1, v2]) Q E ⟨h, g, d, tk, os⟩ := by
  refine' r_def (binds := [("word", .str (PySem.Str.ofString "mask") t0), ("name", .bytes name.toArray t1), ("key", .bytes key.toArray t2), ("first", .bytes sample.toArray t3), ("second", v1), ("third", v2)]) R ?G hz O.room ?ho ?hcd ?hbind ?hloc ?_ ?hco ?hgen ?hk ?hcell
  walk_at "def"
  intro L' h₁ tk₁ hl R'
  walk_at "39"
  rename RC _ _ _ _ _ _ => r0
  refine' mask_ct G (by walk_at "om") (O.deep (by decide)) r0 l1 l2 ?_
  intro t h' n' tk' hn r1
  exact k _ _ _ _ (by walk_at "om") (r1.pop.weak (by walk_at "le"))
theorem prim_expand_ct {size length : Int} {secret label hv : List UInt8} {t0 t1 t2 t3 t4 t5 : Tok}
    (G : Gd (KK w.params) H0) (hz : H0.objs.size ≤ n) (O : Ok A 2) (R : RC w.params H0 fs H n h)
    (l1 : secret.length ≤ 100) (l2 : label.length ≤ 100) (l4 : 0 ≤ length) (l5 : length ≤ 100) (l6 : ExpandPre secret label)
    (k : ∀ t h' n' tk', n ≤ n' → RC w.params H0 fs H n' h' → Q (.bytes (expandB size.toNat secret label length.toNat).toArray t) ⟨h', g, d, tk', os⟩) :
    wpAny (model prog w) A (call (.ref 410) [.str (PySem.Str.ofString "expand") t0, .int size t1, .bytes secret.toArray t2, .bytes label.toArray t3, .bytes hv.toArray t4, .int length t5]) Q E ⟨h, g, d, tk, os⟩ := by
  refine' r_def (binds := [("word", .str (PySem.Str.ofString "expand") t0), ("name", .int size t1), ("key", .bytes secret.toArray t2), ("first", .bytes label.toArray t3), ("second", .bytes hv.toArray t4), ("third", .int length t5)]) R ?G hz O.room ?ho ?hcd ?hbind ?hloc ?_ ?hco ?hgen ?hk ?hcell
  walk_at "def"
  intro L' h₁ tk₁ hl R'
  walk_at "52"
  rename RC _ _ _ _ _ _ => r0
  refine' expand_ct G (by walk_at "om") (O.deep (by decide)) r0 l1 l2 l4 l5 l6 ?_
  intro t h' n' tk' hn r1
  exact k _ _ _ _ (by walk_at "om") (r1.pop.weak (by walk_at "le"))
theorem hkdf_ct {size length : Int} {secret label hv : List UInt8} {t1 t2 t3 t4 t5 : Tok}
    (G : Gd (KK w.params) H0) (hz : H0.objs.size ≤ n) (O : Ok A 3) (R : RC w.params H0 fs H n h)
    (l1 : secret.length ≤ 100) (l2 : label.length ≤ 100) (l4 : 0 ≤ length) (l5 : length ≤ 100) (l6 : ExpandPre secret label)
    (k : ∀ t h' n' tk', n ≤ n' → RC w.params H0 fs H n' h' → Q (.bytes (expandB size.toNat secret label length.toNat).toArray t) ⟨h', g, d, tk', os⟩) :
    wpAny (model prog w) A (call (.ref 174) [.ref 410, .int size t1, .bytes secret.toArray t2, .bytes label.toArray t3, .bytes hv.toArray t4, .int length t5]) Q E ⟨h, g, d, tk, os⟩ := by
  refine' r_def (binds := [("primitives", .ref 410), ("algorithm", .int size t1), ("secret", .bytes secret.toArray t2), ("label", .bytes label.toArray t3), ("hash_value", .bytes hv.toArray t4), ("length", .int length t5)]) R ?G hz O.room ?ho ?hcd ?hbind ?hloc ?_ ?hco ?hgen ?hk ?hcell
  walk_at "def"
  intro L' h₁ tk₁ hl R'
  walk_at "19"
  rename RC _ _ _ _ _ _ => r0
  refine' prim_expand_ct G (by walk_at "om") (O.deep (by decide)) r0 l1 l2 l4 l5 l6 ?_
  intro t h' n' tk' hn r1
  exact k _ _ _ _ (by walk_at "om") (r1.pop.weak (by walk_at "le"))
theorem suitehash_ct {suite : Int} {t1 : Tok}
    (G : Gd (KK w.params) H0) (hz : H0.objs.size ≤ n) (O : Ok A 1) (R : RC w.params H0 fs H n h)
    (k : ∀ t h' n' tk', n ≤ n' → RC w.params H0 fs H n' h' → Q (.int (if suite = 4866 then 48 else 32) t) ⟨h', g, d, tk', os⟩) :
    wpAny (model prog w) A (call (.ref 167) [.int suite t1]) Q E ⟨h, g, d, tk, os⟩ := by
  refine' r_def (binds := [("cipher_suite", .int suite t1)]) R ?G hz O.room ?ho ?hcd ?hbind ?hloc ?_ ?hco ?hgen ?hk ?hcell
  walk_at "def"
  intro L' h₁ tk₁ hl R'
  walk_at "9"
  split
  · rename_i hc
    have hc' := of_decide_eq_true hc
    walk_at "3"
    rename RC _ _ _ _ _ _ => r0
    have := k
    simp only [if_pos hc'] at this
    exact this _ _ _ _ (by walk_at "om") (r0.pop.weak (by walk_at "le"))
  · rename_i hc
    have hc' := of_decide_eq_false (Bool.eq_false_iff.mpr hc)
    walk_at "4"
    rename RC _ _ _ _ _ _ => r0
    have := k
    simp only [if_neg hc'] at this
    exact this _ _ _ _ (by walk_at "om") (r0.pop.weak (by walk_at "le"))
end
section
variable {prog : Program} {w : World} {A : Around} {H0 h : Heap} {fs : List (Nat × Map)} {H : PH} {n : Nat} {L : Nat} {m : Map} {g : Array GenState} {d : Drawn} {tk : Nat} {os : OsState} {bb : Nat}
  {E : Value → Shared → Prop} {Q : Value → Shared → Prop}
theorem derive_ct {suite version : Int} {secret : List UInt8} {t1 t2 t3 : Tok}
    (G : Gd (KK w.params) H0) (hz : H0.objs.size ≤ n) (O : Ok A 4) (R : RC w.params H0 fs H n h) (l1 : SecOk (bb + 1) secret)
    (k : ∀ (a : Nat) u1 u2 u3 h' n' tk', n ≤ a → RC w.params H0 fs (H.set a (.tup [.bytes (keyB suite version secret).toArray u1, .bytes (ivB suite version secret).toArray u2, .bytes (hpB suite version secret).toArray u3])) n' h' → Q (.ref a) ⟨h', g, d, tk', os⟩) :
    wpAny (model prog w) A (call (.ref 204) [] [("primitives", .ref 410), ("cipher_suite", .int suite t1), ("secret", .bytes secret.toArray t2), ("version", .int version t3)]) Q E ⟨h, g, d, tk, os⟩ := by
  refine' r_def (binds := [("primitives", .ref 410), ("cipher_suite", .int suite t1), ("secret", .bytes secret.toArray t2), ("version", .int version t3)]) R ?G hz O.room ?ho ?hcd ?hbind ?hloc ?_ ?hco ?hgen ?hk ?hcell
  walk_at "def"
  intro L' h₁ tk₁ hl R'
  walk_at "9"
  rename RC _ _ _ _ _ _ => r0
  refine' suitehash_ct G (by walk_at "om") (O.deep (by decide)) r0 ?_
  intro t h' n' tk' hn r1
  clear r0
  walk_at "18"
  have any : ([4866, 4867].any (· == suite)) = decide (suite = 4866 ∨ suite = 4867) := by
    simp only [List.any_cons, List.any_nil, Bool.or_false]
    by_cases q1 : suite = 4866
    · subst q1; rfl
    · by_cases q2 : suite = 4867
      · subst q2; rfl
      · have e1 : ((4866 : Int) == suite) = false := by simpa using Ne.symm q1
        have e2 : ((4867 : Int) == suite) = false := by simpa using Ne.symm q2
        simp [q1, q2, e1, e2]
  rw [any]
  split
  · rename_i hc
    have hks : keySize suite = 32 := if_pos (of_decide_eq_true hc)
    walk_at "14"
    split
    · rename_i hv'
      have hv' : isV2 version = true := hv'
      have ek : keyB suite version secret = expandB (if suite = 4866 then 48 else 32 : Int).toNat secret (keyL (isV2 version)) (Int.toNat (keySize suite)) := rfl
      have ei : ivB suite version secret = expandB (if suite = 4866 then 48 else 32 : Int).toNat secret (ivL (isV2 version)) (Int.toNat 12) := rfl
      have eh : hpB suite version secret = expandB (if suite = 4866 then 48 else 32 : Int).toNat secret (hpL (isV2 version)) (Int.toNat (keySize suite)) := rfl
      simp only [ek, ei, eh, hv', hks] at k
      walk_at "21"
      rename RC _ _ _ _ _ _ => r0
      refine' hkdf_ct G (by walk_at "om") (O.deep (by decide)) r0 l1.le (by decide) (by decide) (by decide) (l1.pre (by decide)) ?_
      intro u1 h' n' tk' hn r1
      clear r0
      walk_at "18"
      rename RC _ _ _ _ _ _ => r0
      refine' hkdf_ct G (by walk_at "om") (O.deep (by decide)) r0 l1.le (by decide) (by decide) (by decide) (l1.pre (by decide)) ?_
      intro u2 h' n' tk' hn r1
      clear r0
      walk_at "18"
      rename RC _ _ _ _ _ _ => r0
      refine' hkdf_ct G (by walk_at "om") (O.deep (by decide)) r0 l1.le (by decide) (by decide) (by decide) (l1.pre (by decide)) ?_
      intro u3 h' n' tk' hn r1
      clear r0
      walk_at "2"
      rename RC _ _ _ _ _ _ => r0
      exact k _ u1 u2 u3 _ _ _ (by walk_at "om") (r0.pop.weak (by walk_at "le"))
    · rename_i hv'
      have hv' : isV2 version = false := Bool.eq_false_iff.mpr hv'
      have ek : keyB suite version secret = expandB (if suite = 4866 then 48 else 32 : Int).toNat secret (keyL (isV2 version)) (Int.toNat (keySize suite)) := rfl
      have ei : ivB suite version secret = expandB (if suite = 4866 then 48 else 32 : Int).toNat secret (ivL (isV2 version)) (Int.toNat 12) := rfl
      have eh : hpB suite version secret = expandB (if suite = 4866 then 48 else 32 : Int).toNat secret (hpL (isV2 version)) (Int.toNat (keySize suite)) := rfl
      simp only [ek, ei, eh, hv', hks] at k
      walk_at "21"
      rename RC _ _ _ _ _ _ => r0
      refine' hkdf_ct G (by walk_at "om") (O.deep (by decide)) r0 l1.le (by decide) (by decide) (by decide) (l1.pre (by decide)) ?_
      intro u1 h' n' tk' hn r1
      clear r0
      walk_at "18"
      rename RC _ _ _ _ _ _ => r0
      refine' hkdf_ct G (by walk_at "om") (O.deep (by decide)) r0 l1.le (by decide) (by decide) (by decide) (l1.pre (by decide)) ?_
      intro u2 h' n' tk' hn r1
      clear r0
      walk_at "18"
      rename RC _ _ _ _ _ _ => r0
      refine' hkdf_ct G (by walk_at "om") (O.deep (by decide)) r0 l1.le (by decide) (by decide) (by decide) (l1.pre (by decide)) ?_
      intro u3 h' n' tk' hn r1
      clear r0
      walk_at "2"
      rename RC _ _ _ _ _ _ => r0
      exact k _ u1 u2 u3 _ _ _ (by walk_at "om") (r0.pop.weak (by walk_at "le"))
  · rename_i hc
    have hks : keySize suite = 16 := if_neg (of_decide_eq_false (Bool.eq_false_iff.mpr hc))
    walk_at "14"
    split
    · rename_i hv'
      have hv' : isV2 version = true := hv'
      have ek : keyB suite version secret = expandB (if suite = 4866 then 48 else 32 : Int).toNat secret (keyL (isV2 version)) (Int.toNat (keySize suite)) := rfl
      have ei : ivB suite version secret = expandB (if suite = 4866 then 48 else 32 : Int).toNat secret (ivL (isV2 version)) (Int.toNat 12) := rfl
      have eh : hpB suite version secret = expandB (if suite = 4866 then 48 else 32 : Int).toNat secret (hpL (isV2 version)) (Int.toNat (keySize suite)) := rfl
      simp only [ek, ei, eh, hv', hks] at k
      walk_at "21"
      rename RC _ _ _ _ _ _ => r0
      refine' hkdf_ct G (by walk_at "om") (O.deep (by decide)) r0 l1.le (by decide) (by decide) (by decide) (l1.pre (by decide)) ?_
      intro u1 h' n' tk' hn r1
      clear r0
      walk_at "18"
      rename RC _ _ _ _ _ _ => r0
      refine' hkdf_ct G (by walk_at "om") (O.deep (by decide)) r0 l1.le (by decide) (by decide) (by decide) (l1.pre (by decide)) ?_
      intro u2 h' n' tk' hn r1
      clear r0
      walk_at "18"
      rename RC _ _ _ _ _ _ => r0
      refine' hkdf_ct G (by walk_at "om") (O.deep (by decide)) r0 l1.le (by decide) (by decide) (by decide) (l1.pre (by decide)) ?_
      intro u3 h' n' tk' hn r1
      clear r0
      walk_at "2"
      rename RC _ _ _ _ _ _ => r0
      exact k _ u1 u2 u3 _ _ _ (by walk_at "om") (r0.pop.weak (by walk_at "le"))
    · rename_i hv'
      have hv' : isV2 version = false := Bool.eq_false_iff.mpr hv'
      have ek : keyB suite version secret = expandB (if suite = 4866 then 48 else 32 : Int).toNat secret (keyL (isV2 version)) (Int.toNat (keySize suite)) := rfl
      have ei : ivB suite version secret = expandB (if suite = 4866 then 48 else 32 : Int).toNat secret (ivL (isV2 version)) (Int.toNat 12) := rfl
      have eh : hpB suite version secret = expandB (if suite = 4866 then 48 else 32 : Int).toNat secret (hpL (isV2 version)) (Int.toNat (keySize suite)) := rfl
      simp only [ek, ei, eh, hv', hks] at k
      walk_at "21"
      rename RC _ _ _ _ _ _ => r0
      refine' hkdf_ct G (by walk_at "om") (O.deep (by decide)) r0 l1.le (by decide) (by decide) (by decide) (l1.pre (by decide)) ?_
      intro u1 h' n' tk' hn r1
      clear r0
      walk_at "18"
      rename RC _ _ _ _ _ _ => r0
      refine' hkdf_ct G (by walk_at "om") (O.deep (by decide)) r0 l1.le (by decide) (by decide) (by decide) (l1.pre (by decide)) ?_
      intro u2 h' n' tk' hn r1
      clear r0
      walk_at "18"
      rename RC _ _ _ _ _ _ => r0
      refine' hkdf_ct G (by walk_at "om") (O.deep (by decide)) r0 l1.le (by decide) (by decide) (by decide) (l1.pre (by decide)) ?_
      intro u3 h' n' tk' hn r1
      clear r0
      walk_at "2"
      rename RC _ _ _ _ _ _ => r0
      exact k _ u1 u2 u3 _ _ _ (by walk_at "om") (r0.pop.weak (by walk_at "le"))
end
section
variable {prog : Program} {w : World} {A : Around} {H0 h : Heap} {fs : List (Nat × Map)} {H : PH} {n : Nat} {L : Nat} {m : Map} {g : Array GenState} {d : Drawn} {tk : Nat} {os : OsState} {bb : Nat}
  {E : Value → Shared → Prop} {Q : Value → Shared → Prop}
theorem join_if {α : Type} {M : Model} {A : Around} {c : Prop} [Decidable c] {t1 t2 : Sem α} {Q : α → Shared → Prop} {E : Value → Shared → Prop} {s : Shared} (R : α → Shared → Prop) (h1 : c → wpAny M A t1 R E s) (h2 : ¬ c → wpAny M A t2 R E s) (k : ∀ a s', R a s' → Q a s') :
    if c then wpAny M A t1 Q E s else wpAny M A t2 Q E s := by
  by_cases q : c
  · rw [if_pos q]; exact wpAny_mono (h1 q) k (fun _ _ x => x)
  · rw [if_neg q]; exact wpAny_mono (h2 q) k (fun _ _ x => x)
theorem RC.nameAll {P : Params} {X : Prop} (r : RC P H0 fs H n h) (k : ∀ fs' H' n', fs' = fs → H' = H → n' = n → RC P H0 fs' H' n' h → X) : X := k _ _ _ rfl rfl rfl r
noncomputable def AeadAt (H : PH) (x : Nat) (name key iv : List UInt8) : Prop :=
  ∃ (dx : Nat) (t1 t2 t3 : Tok), H x = some (.inst 72 dx) ∧ H dx = some (.dic [("_cipher_name", .bytes name.toArray t1), ("_key", .bytes key.toArray t2), ("_primitives", .ref 410), ("_iv", .int (beI iv : Nat) t3)])
noncomputable def HpAt (H : PH) (x : Nat) (name key : List UInt8) : Prop :=
  ∃ (dx : Nat) (t1 t2 : Tok), H x = some (.inst 114 dx) ∧ H dx = some (.dic [("_cipher_name", .bytes name.toArray t1), ("_key", .bytes key.toArray t2), ("_primitives", .ref 410)])
theorem AeadAt.el {X : Prop} {H : PH} {x : Nat} {name key iv : List UInt8} (h : AeadAt H x name key iv) (k : ∀ (dx : Nat) (t1 t2 t3 : Tok), H x = some (.inst 72 dx) → H dx = some (.dic [("_cipher_name", .bytes name.toArray t1), ("_key", .bytes key.toArray t2), ("_primitives", .ref 410), ("_iv", .int (beI iv : Nat) t3)]) → X) : X :=
  let ⟨_, _, _, _, e1, e2⟩ := h; k _ _ _ _ e1 e2
theorem HpAt.el {X : Prop} {H : PH} {x : Nat} {name key : List UInt8} (h : HpAt H x name key) (k : ∀ (dx : Nat) (t1 t2 : Tok), H x = some (.inst 114 dx) → H dx = some (.dic [("_cipher_name", .bytes name.toArray t1), ("_key", .bytes key.toArray t2), ("_primitives", .ref 410)]) → X) : X :=
  let ⟨_, _, _, e1, e2⟩ := h; k _ _ _ e1 e2
theorem AeadAt.keep {H H' : PH} {x : Nat} {name key iv : List UInt8} (h : AeadAt H x name key iv) (k : KeepI H H') : AeadAt H' x name key iv := by
  obtain ⟨dx, t1, t2, t3, e1, e2⟩ := h
  exact ⟨dx, t1, t2, t3, k _ _ trivial e1, k _ _ rfl e2⟩
theorem HpAt.keep {H H' : PH} {x : Nat} {name key : List UInt8} (h : HpAt H x name key) (k : KeepI H H') : HpAt H' x name key := by
  obtain ⟨dx, t1, t2, e1, e2⟩ := h
  exact ⟨dx, t1, t2, k _ _ trivial e1, k _ _ rfl e2⟩
theorem aead_new_ct {name key iv : List UInt8} {t1 t2 t3 : Tok}
    (G : Gd (KK w.params) H0) (hz : H0.objs.size ≤ n) (O : Ok A 4) (R : RC w.params H0 fs H n h) (hn : (aeadNames.any (· == name)) = true) (l1 : iv.length = 12)
    (k : ∀ (x : Nat) H' h' n' tk', n ≤ n' → H.le H' → AeadAt H' x name key iv → RC w.params H0 fs H' n' h' → Q (.ref x) ⟨h', g, d, tk', os⟩) :
    wpAny (model prog w) A (call (.ref 72) [.bytes name.toArray t1, .bytes key.toArray t2, .bytes iv.toArray t3, .ref 410]) Q E ⟨h, g, d, tk, os⟩ := by
  refine' r_new (binds := fun x => [("self", .ref x), ("cipher_name", .bytes name.toArray t1), ("key", .bytes key.toArray t2), ("iv", .bytes iv.toArray t3), ("primitives", .ref 410)]) R ?G hz O ?hkk ?hm ?hi ?hf ?ho ?hcd ?hbind ?hloc ?_ ?hco ?hgen ?hk ?hcell
  walk_at "new"
  intro dx L' h₁ tk₁ hd hl R' O'
  walk_at "15"
  split
  · rename_i hc
    have hn' : (!aeadNames.any (· == name)) = true := hc
    rw [hn] at hn'; exact absurd hn' (by decide)
  · walk_at "14"
    split
    · rename_i hc
      exact absurd (of_decide_eq_true hc) (by walk_at "om")
    · walk_at "33"
      rename RC _ _ _ _ _ _ => r0
      exact k _ _ _ _ _ (by walk_at "om") (by walk_at "le") ⟨_, _, _, _, by walk_at "lk", by walk_at "lk"⟩ r0.pop
theorem hp_new_ct {name key : List UInt8} {t1 t2 : Tok}
    (G : Gd (KK w.params) H0) (hz : H0.objs.size ≤ n) (O : Ok A 4) (R : RC w.params H0 fs H n h) (hn : (hpNames.any (· == name)) = true)
    (k : ∀ (x : Nat) H' h' n' tk', n ≤ n' → H.le H' → HpAt H' x name key → RC w.params H0 fs H' n' h' → Q (.ref x) ⟨h', g, d, tk', os⟩) :
    wpAny (model prog w) A (call (.ref 114) [.bytes name.toArray t1, .bytes key.toArray t2, .ref 410]) Q E ⟨h, g, d, tk, os⟩ := by
  refine' r_new (binds := fun x => [("self", .ref x), ("cipher_name", .bytes name.toArray t1), ("key", .bytes key.toArray t2), ("primitives", .ref 410)]) R ?G hz O ?hkk ?hm ?hi ?hf ?ho ?hcd ?hbind ?hloc ?_ ?hco ?hgen ?hk ?hcell
  walk_at "new"
  intro dx L' h₁ tk₁ hd hl R' O'
  walk_at "15"
  split
  · rename_i hc
    have hn' : (!hpNames.any (· == name)) = true := hc
    rw [hn] at hn'; exact absurd hn' (by decide)
  · walk_at "18"
    rename RC _ _ _ _ _ _ => r0
    exact k _ _ _ _ _ (by walk_at "om") (by walk_at "le") ⟨_, _, _, by walk_at "lk", by walk_at "lk"⟩ r0.pop
theorem nonce_ct {x : Nat} {name key iv : List UInt8} {pn : Int} {t1 : Tok}
    (G : Gd (KK w.params) H0) (hz : H0.objs.size ≤ n) (O : Ok A 1) (R : RC w.params H0 fs H n h) (ha : AeadAt H x name key iv) (l1 : 0 ≤ Builtin.bitXor (beI iv : Nat) pn) (l2 : (Builtin.bitXor (beI iv : Nat) pn).toNat < 256 ^ 12)
    (k : ∀ t h' n' tk', n ≤ n' → RC w.params H0 fs H n' h' → Q (.bytes (toBE 12 (Builtin.bitXor (beI iv : Nat) pn).toNat).toArray t) ⟨h', g, d, tk', os⟩) :
    wpAny (model prog w) A (call (.ref 69) [.ref x, .int pn t1]) Q E ⟨h, g, d, tk, os⟩ := by
  refine' AeadAt.el ha ?_
  intro dx u1 u2 u3 e1 e2
  refine' r_def (binds := [("self", .ref x), ("packet_number", .int pn t1)]) R ?G hz O.room ?ho ?hcd ?hbind ?hloc ?_ ?hco ?hgen ?hk ?hcell
  walk_at "def"
  intro L' h₁ tk₁ hl R'
  walk_at "17"
  rename RC _ _ _ _ _ _ => r0
  exact k _ _ _ _ (by walk_at "om") (r0.pop.weak (by walk_at "le"))
noncomputable def nonceB (iv : List UInt8) (pn : Int) : List UInt8 := toBE 12 (Builtin.bitXor (beI iv : Nat) pn).toNat
noncomputable def NonceOk (iv : List UInt8) (pn : Int) : Prop := 0 ≤ Builtin.bitXor (beI iv : Nat) pn ∧ (Builtin.bitXor (beI iv : Nat) pn).toNat < 256 ^ 12
theorem aead_enc_ct {x : Nat} {name key iv data assoc : List UInt8} {pn : Int} {t1 t2 t3 : Tok}
    (G : Gd (KK w.params) H0) (hz : H0.objs.size ≤ n) (O : Ok A 3) (R : RC w.params H0 fs H n h) (ha : AeadAt H x name key iv) (hno : NonceOk iv pn)
    (l1 : name.length < 256) (l2 : key.length < 256) (l4 : data.length < 256) (l5 : assoc.length < 256)
    (k : ∀ t h' n' tk', n ≤ n' → RC w.params H0 fs H n' h' → Q (.bytes (sealB name key (nonceB iv pn) data assoc).toArray t) ⟨h', g, d, tk', os⟩) :
    wpAny (model prog w) A (call (.ref 62) [.ref x, .bytes data.toArray t1, .bytes assoc.toArray t2, .int pn t3]) Q E ⟨h, g, d, tk, os⟩ := by
  have ha' := ha
  refine' AeadAt.el ha ?_
  intro dx u1 u2 u3 e1 e2
  refine' r_def (binds := [("self", .ref x), ("data", .bytes data.toArray t1), ("associated_data", .bytes assoc.toArray t2), ("packet_number", .int pn t3)]) R ?G hz O.room ?ho ?hcd ?hbind ?hloc ?_ ?hco ?hgen ?hk ?hcell
  walk_at "def"
  intro L' h₁ tk₁ hl R'
  walk_at "25"
  rename RC _ _ _ _ _ _ => r0
  refine' nonce_ct G (by walk_at "om") (O.deep (by decide)) r0 ha' hno.1 hno.2 ?_
  intro t h' n' tk' hn r1
  clear r0
  walk_at "6"
  rename RC _ _ _ _ _ _ => r0
  refine' prim_seal_ct G (by walk_at "om") (O.deep (by decide)) r0 l1 l2 (by rw [toBE_length]; decide) l4 l5 ?_
  intro t h' n' tk' hn r1
  exact k _ _ _ _ (by walk_at "om") (r1.pop.weak (by walk_at "le"))
theorem hp_mask_ct {x : Nat} {name key sample : List UInt8} {t1 : Tok}
    (G : Gd (KK w.params) H0) (hz : H0.objs.size ≤ n) (O : Ok A 3) (R : RC w.params H0 fs H n h) (ha : HpAt H x name key)
    (l0 : name.length < 256) (l1 : 6 ≤ key.length) (l2 : key.length < 256) (l3 : sample.length < 256)
    (k : ∀ t h' n' tk', n ≤ n' → RC w.params H0 fs H n' h' → Q (.bytes (maskB name key sample).toArray t) ⟨h', g, d, tk', os⟩) :
    wpAny (model prog w) A (call (.ref 111) [.ref x, .bytes sample.toArray t1]) Q E ⟨h, g, d, tk, os⟩ := by
  refine' HpAt.el ha ?_
  intro dx u1 u2 e1 e2
  refine' r_def (binds := [("self", .ref x), ("sample", .bytes sample.toArray t1)]) R ?G hz O.room ?ho ?hcd ?hbind ?hloc ?_ ?hco ?hgen ?hk ?hcell
  walk_at "def"
  intro L' h₁ tk₁ hl R'
  walk_at "24"
  rename RC _ _ _ _ _ _ => r0
  refine' prim_mask_ct G (by walk_at "om") (O.deep (by decide)) r0 l0 l1 l2 l3 ?_
  intro t h' n' tk' hn r1
  exact k _ _ _ _ (by walk_at "om") (r1.pop.weak (by walk_at "le"))
end
section
variable {prog : Program} {w : World} {A : Around} {H0 h : Heap} {fs : List (Nat × Map)} {H : PH} {n : Nat} {L : Nat} {m : Map} {g : Array GenState} {d : Drawn} {tk : Nat} {os : OsState} {bb : Nat}
  {E : Value → Shared → Prop} {Q : Value → Shared → Prop}
noncomputable def decC (t b e : Int) : Int := Builtin.bitOr (Builtin.bitAnd e (Builtin.bitNot (1 * 2 ^ b.toNat - 1))) t
noncomputable def decodeI (t b e : Int) : Int :=
  if decC t b e ≤ e - (1 * 2 ^ b.toNat : Int).fdiv 2 ∧ decC t b e < 1 * 2 ^ (62 : Int).toNat - 1 * 2 ^ b.toNat
  then decC t b e + 1 * 2 ^ b.toNat
  else if e + (1 * 2 ^ b.toNat : Int).fdiv 2 < decC t b e ∧ 1 * 2 ^ b.toNat ≤ decC t b e
  then decC t b e - 1 * 2 ^ b.toNat
  else decC t b e
theorem dec1 {t b e : Int} (h1 : decC t b e ≤ e - (1 * 2 ^ b.toNat : Int).fdiv 2) (h2 : decC t b e < 1 * 2 ^ (62 : Int).toNat - 1 * 2 ^ b.toNat) : decodeI t b e = decC t b e + 1 * 2 ^ b.toNat := if_pos ⟨h1, h2⟩
theorem dec2 {t b e : Int} (h : ¬ (decC t b e ≤ e - (1 * 2 ^ b.toNat : Int).fdiv 2 ∧ decC t b e < 1 * 2 ^ (62 : Int).toNat - 1 * 2 ^ b.toNat)) (h1 : e + (1 * 2 ^ b.toNat : Int).fdiv 2 < decC t b e) (h2 : 1 * 2 ^ b.toNat ≤ decC t b e) : decodeI t b e = decC t b e - 1 * 2 ^ b.toNat := by
  unfold decodeI; rw [if_neg h, if_pos ⟨h1, h2⟩]
theorem dec3 {t b e : Int} (h : ¬ (decC t b e ≤ e - (1 * 2 ^ b.toNat : Int).fdiv 2 ∧ decC t b e < 1 * 2 ^ (62 : Int).toNat - 1 * 2 ^ b.toNat)) (h1 : ¬ (e + (1 * 2 ^ b.toNat : Int).fdiv 2 < decC t b e ∧ 1 * 2 ^ b.toNat ≤ decC t b e)) : decodeI t b e = decC t b e := by
  unfold decodeI; rw [if_neg h, if_neg h1]
theorem decode_ct {t b e : Int} {t1 t2 t3 : Tok}
    (G : Gd (KK w.params) H0) (hz : H0.objs.size ≤ n) (O : Ok A 1) (R : RC w.params H0 fs H n h) (b0 : 0 ≤ b) (b1 : b ≤ 64)
    (k : ∀ u h' n' tk', n ≤ n' → RC w.params H0 fs H n' h' → Q (.int (decodeI t b e) u) ⟨h', g, d, tk', os⟩) :
    wpAny (model prog w) A (call (.ref 139) [.int t t1, .int b t2, .int e t3]) Q E ⟨h, g, d, tk, os⟩ := by
  refine' r_def (binds := [("truncated", .int t t1), ("num_bits", .int b t2), ("expected", .int e t3)]) R ?G hz O.room ?ho ?hcd ?hbind ?hloc ?_ ?hco ?hgen ?hk ?hcell
  walk_at "def"
  intro L' h₁ tk₁ hl R'
  walk_at "40"
  split
  · rename_i p1
    have p1' : decC t b e ≤ e - (1 * 2 ^ b.toNat : Int).fdiv 2 := of_decide_eq_true p1
    walk_at "12"
    split
    · rename_i p2
      have p2' : decC t b e < 1 * 2 ^ (62 : Int).toNat - 1 * 2 ^ b.toNat := of_decide_eq_true p2
      walk_at "8"
      rename RC _ _ _ _ _ _ => r0
      have e1 := dec1 p1' p2'
      exact (e1 ▸ k) _ _ _ _ (by walk_at "om") (r0.pop.weak (by walk_at "le"))
    · rename_i p2
      have p3 : ¬ (decC t b e ≤ e - (1 * 2 ^ b.toNat : Int).fdiv 2 ∧ decC t b e < 1 * 2 ^ (62 : Int).toNat - 1 * 2 ^ b.toNat) := fun h => p2 (decide_eq_true h.2)
      walk_at "12"
      split
      · rename_i q1
        have q1' := of_decide_eq_true q1
        walk_at "6"
        split
        · rename_i q2
          have q2' := of_decide_eq_true q2
          walk_at "8"
          rename RC _ _ _ _ _ _ => r0
          have e1 := dec2 p3 q1' q2'
          exact (e1 ▸ k) _ _ _ _ (by walk_at "om") (r0.pop.weak (by walk_at "le"))
        · rename_i q2
          have q2' := of_decide_eq_false (Bool.eq_false_iff.mpr q2)
          walk_at "4"
          rename RC _ _ _ _ _ _ => r0
          have e1 := dec3 p3 (fun h => q2' h.2)
          exact (e1 ▸ k) _ _ _ _ (by walk_at "om") (r0.pop.weak (by walk_at "le"))
      · rename_i q1
        have q1' := of_decide_eq_false (Bool.eq_false_iff.mpr q1)
        walk_at "4"
        rename RC _ _ _ _ _ _ => r0
        have e1 := dec3 p3 (fun h => q1' h.1)
        exact (e1 ▸ k) _ _ _ _ (by walk_at "om") (r0.pop.weak (by walk_at "le"))
  · rename_i p1
    have p3 : ¬ (decC t b e ≤ e - (1 * 2 ^ b.toNat : Int).fdiv 2 ∧ decC t b e < 1 * 2 ^ (62 : Int).toNat - 1 * 2 ^ b.toNat) := fun h => p1 (decide_eq_true h.1)
    walk_at "12"
    split
    · rename_i q1
      have q1' := of_decide_eq_true q1
      walk_at "6"
      split
      · rename_i q2
        have q2' := of_decide_eq_true q2
        walk_at "8"
        rename RC _ _ _ _ _ _ => r0
        have e1 := dec2 p3 q1' q2'
        exact (e1 ▸ k) _ _ _ _ (by walk_at "om") (r0.pop.weak (by walk_at "le"))
      · rename_i q2
        have q2' := of_decide_eq_false (Bool.eq_false_iff.mpr q2)
        walk_at "4"
        rename RC _ _ _ _ _ _ => r0
        have e1 := dec3 p3 (fun h => q2' h.2)
        exact (e1 ▸ k) _ _ _ _ (by walk_at "om") (r0.pop.weak (by walk_at "le"))
    · rename_i q1
      have q1' := of_decide_eq_false (Bool.eq_false_iff.mpr q1)
      walk_at "4"
      rename RC _ _ _ _ _ _ => r0
      have e1 := dec3 p3 (fun h => q1' h.1)
      exact (e1 ▸ k) _ _ _ _ (by walk_at "om") (r0.pop.weak (by walk_at "le"))
theorem islong_ct {f : UInt8} {t1 : Tok}
    (G : Gd (KK w.params) H0) (hz : H0.objs.size ≤ n) (O : Ok A 1) (R : RC w.params H0 fs H n h)
    (k : ∀ h' n' tk', n ≤ n' → RC w.params H0 fs H n' h' → Q (.bool (decide (128 ≤ f.toNat))) ⟨h', g, d, tk', os⟩) :
    wpAny (model prog w) A (call (.ref 146) [.int (f.toNat : Nat) t1]) Q E ⟨h, g, d, tk, os⟩ := by
  refine' r_def (binds := [("first_byte", .int (f.toNat : Nat) t1)]) R ?G hz O.room ?ho ?hcd ?hbind ?hloc ?_ ?hco ?hgen ?hk ?hcell
  walk_at "def"
  intro L' h₁ tk₁ hl R'
  walk_at "12"
  rename RC _ _ _ _ _ _ => r0
  rw [and128U]
  exact k _ _ _ (by walk_at "om") (r0.pop.weak (by walk_at "le"))
theorem nocb_ct {v : Value}
    (G : Gd (KK w.params) H0) (hz : H0.objs.size ≤ n) (O : Ok A 1) (R : RC w.params H0 fs H n h)
    (k : ∀ h' n' tk', n ≤ n' → RC w.params H0 fs H n' h' → Q .none ⟨h', g, d, tk', os⟩) :
    wpAny (model prog w) A (call (.ref 185) [v]) Q E ⟨h, g, d, tk, os⟩ := by
  refine' r_def (binds := [("trigger", v)]) R ?G hz O.room ?ho ?hcd ?hbind ?hloc ?_ ?hco ?hgen ?hk ?hcell
  walk_at "def"
  intro L' h₁ tk₁ hl R'
  walk_at "3"
  rename RC _ _ _ _ _ _ => r0
  exact k _ _ _ (by walk_at "om") (r0.pop.weak (by walk_at "le"))
end
section
variable {prog : Program} {w : World} {A : Around} {H0 h : Heap} {fs : List (Nat × Map)} {H : PH} {n : Nat} {L : Nat} {m : Map} {g : Array GenState} {d : Drawn} {tk : Nat} {os : OsState} {bb : Nat}
  {E : Value → Shared → Prop} {Q : Value → Shared → Prop}
theorem apply_ct {x : Nat} {name key ph pp : List UInt8} {t1 t2 : Tok}
    (G : Gd (KK w.params) H0) (hz : H0.objs.size ≤ n) (O : Ok A 4) (R : RC w.params H0 fs H n h) (ha : HpAt H x name key)
    (l0 : name.length < 256) (l1 : 6 ≤ key.length) (l2 : key.length < 256) (l3 : ph.length < 256) (l4 : pp.length < 10000) (l5 : (ph.getD 0 0).toNat % 4 + 1 ≤ ph.length)
    (k : ∀ t h' n' tk', n ≤ n' → RC w.params H0 fs H n' h' → Q (.bytes (applyB name key ph pp).toArray t) ⟨h', g, d, tk', os⟩) :
    wpP (model prog w) A (call (.ref 97) [.ref x, .bytes ph.toArray t1, .bytes pp.toArray t2]) Q E ⟨h, g, d, tk, os⟩ := by
  have ha' := ha
  refine' HpAt.el ha ?_
  intro dx u1 u2 e1 e2
  refine' P_def (binds := [("self", .ref x), ("plain_header", .bytes ph.toArray t1), ("protected_payload", .bytes pp.toArray t2)]) R ?G hz O.room ?ho ?hcd ?hbind ?hloc ?_ ?hco ?hgen ?hk ?hcell
  walk_at "def"
  intro L' h₁ tk₁ hl R'
  refine' P_execs_consA ?_
  walk_at "12"
  refine' P_execs_consA ?_
  walk_at "12"
  refine' P_execs_consA ?_
  walk_at "6"
  refine' P_execs_consA ?_
  walk_at "20"
  rename RC _ _ _ _ _ _ => r0
  have N4 : (ph.getD 0 0).toNat % 4 < 4 := Nat.mod_lt _ (by decide)
  refine' hp_mask_ct G (by walk_at "om") (O.deep (by decide)) r0 ha' l0 l1 l2 (by rw [List.length_drop, List.length_take]; walk_at "om") ?_
  intro t h' n' tk' hn r1
  clear r0
  generalize hM : maskB name key _ = M at r1 ⊢
  have hM' : maskB name key ((pp.take (4 - ((ph.getD 0 0).toNat % 4 + 1) + 16)).drop (4 - ((ph.getD 0 0).toNat % 4 + 1))) = M := by
    rw [← hM]
    have e1 : ((4 : Int) - ((((ph.getD 0 0).toNat % 4 : Nat) : Int) + 1)).toNat = 4 - ((ph.getD 0 0).toNat % 4 + 1) := by walk_at "om"
    have e2 : ((4 : Int) - ((((ph.getD 0 0).toNat % 4 : Nat) : Int) + 1) + 16).toNat = 4 - ((ph.getD 0 0).toNat % 4 + 1) + 16 := by walk_at "om"
    show _ = maskB name key ((pp.take ((4 : Int) - ((((ph.getD 0 0).toNat % 4 : Nat) : Int) + 1) + 16).toNat).drop ((4 : Int) - ((((ph.getD 0 0).toNat % 4 : Nat) : Int) + 1)).toNat)
    rw [e1, e2]
  have lM : M.length = 5 := by rw [← hM]; rfl
  walk_at "1"
  refine' P_execs_cons ?_
  refine' P_Assign_Name ?_ ?hs
  case hs => exact rfl
  refine' P_Call_ofName ?_
  walk_at "1"
  refine' P_callT ?_ ?he ?hp
  case he => exact rfl
  case hp => exact rfl
  walk_at "6"
  rename RC _ _ _ _ _ _ => r0
  refine' r_bytearray r0 (by walk_at "om") (by rw [List.length_append]; walk_at "om") ?_
  intro a h'' ha'' r1
  clear r0
  walk_at "1"
  refine' P_any ?_
  walk_at "11"
  have ph0 : (ph ++ pp).getD 0 0 = ph.getD 0 0 := by
    cases ph with
    | nil => simp at l5
    | cons x r => rfl
  have c1 : 0 < (ph ++ pp).length := by rw [List.length_append]; walk_at "om"
  rename RC _ _ _ _ _ _ => r0
  refine' RC.nameAll r0 ?_
  clear r0
  intro FS HC NC eFS eHC eNC rc
  refine' join_if (R := fun f s' => ∃ hX tkX, f = Flow.next ∧ s' = (⟨hX, g, d, tkX, os⟩ : Shared) ∧ RC w.params H0 FS (HC.set a (.ba (maskFirst (ph ++ pp) M))) NC hX) ?_ ?_ ?_
  · intro hc
    have hc2 : decide (Builtin.bitAnd ((((ph ++ pp).getD 0 0).toNat : Nat) : Int) 128 ≠ 0) = true := hc
    rw [and128U] at hc2
    have eB : maskFirst (ph ++ pp) M = (ph ++ pp).set (Int.toNat 0) ((ph ++ pp).getD (Int.toNat 0) 0 ^^^ (M.getD (Int.toNat 0) 0 &&& 15)) := by
      unfold maskFirst; rw [if_pos (of_decide_eq_true hc2)]; rfl
    subst eFS eHC eNC
    walk_at "15"
    rename RC _ _ _ _ _ _ => r0
    exact ⟨_, _, rfl, rfl, by rw [eB]; exact r0⟩
  · intro hc
    have hc2 : decide (Builtin.bitAnd ((((ph ++ pp).getD 0 0).toNat : Nat) : Int) 128 ≠ 0) = false := Bool.eq_false_iff.mpr hc
    rw [and128U] at hc2
    have eB : maskFirst (ph ++ pp) M = (ph ++ pp).set (Int.toNat 0) ((ph ++ pp).getD (Int.toNat 0) 0 ^^^ (M.getD (Int.toNat 0) 0 &&& 31)) := by
      unfold maskFirst; rw [if_neg (of_decide_eq_false hc2)]; rfl
    subst eFS eHC eNC
    walk_at "15"
    rename RC _ _ _ _ _ _ => r0
    exact ⟨_, _, rfl, rfl, by rw [eB]; exact r0⟩
  rintro f s' ⟨hX, tkX, rfl, rfl, rX⟩
  clear rc
  subst eFS eHC eNC
  walk_at "10"
  rename RC _ _ _ _ _ _ => r0
  have eN : (((ph.getD 0 0).toNat % 4 : Nat) : Int) + 1 = (((ph.getD 0 0).toNat % 4 + 1 : Nat) : Int) := by walk_at "om"
  refine' range_turns (N := (ph.getD 0 0).toNat % 4 + 1) ?hh r0 ?e (fun i H' m' => H' a = some (.ba (maskRun (maskFirst (ph ++ pp) M) (ph.length - ((ph.getD 0 0).toNat % 4 + 1)) M i)) ∧ m' "buffer" = some (.ref a) ∧ (∃ t, m' "pn_offset" = some (.int ((ph.length : Int) - ((((ph.getD 0 0).toNat % 4 : Nat) : Int) + 1)) t)) ∧ (∃ t, m' "mask" = some (.bytes M.toArray t)) ∧ H.le H') ?i0 ?turn ?fin ?hinv ?hk ?hl
  case hk => exact rfl
  case hl => exact rfl
  case hh => exact Ok.hd (by walk_at "ok2")
  case e => rw [← eN]; exact PH.set_self _ _ _
  case i0 =>
    refine ⟨?_, rfl, ⟨_, rfl⟩, ⟨_, rfl⟩, by walk_at "le"⟩
    show _ = some (AO.ba (maskFirst (ph ++ pp) M))
    walk_at "lk"
  case hinv =>
    rintro i H' H'' m' oo ⟨i1, i2, i3, i4, i5⟩
    exact ⟨by walk_at "lk", i2, i3, i4, PH.le_only i5 oo (R.none_new (by walk_at "om"))⟩
  case turn =>
    rintro i H' m' n' h' tk' tk'' hi ⟨i1, i2, ⟨_, i3⟩, ⟨_, i4⟩, i5⟩ hn hit r1
    refine' q_abs ?_
    intro TQ hTQ
    have ml := maskRun_length (maskFirst (ph ++ pp) M) (ph.length - ((ph.getD 0 0).toNat % 4 + 1)) M i
    rw [maskFirst_length, List.length_append] at ml
    clear r0
    walk_at "18"
    rename RC _ _ _ _ _ _ => r0
    have ei : ((ph.length : Int) - ((((ph.getD 0 0).toNat % 4 : Nat) : Int) + 1) + (i : Nat)).toNat = ph.length - ((ph.getD 0 0).toNat % 4 + 1) + i := by walk_at "om"
    have ej : ((1 : Int) + (i : Nat)).toNat = 1 + i := by walk_at "om"
    refine hTQ _ _ (turn_next r0 hn (by walk_at "lk") ⟨?_, i2, ⟨_, i3⟩, ⟨_, i4⟩, PH.le_new i5 (R.none_new (by walk_at "om"))⟩)
    rw [PH.set_self, ei, ej]
    rfl
  case fin =>
    rintro H' m' n' h' tk' ⟨i1, i2, ⟨_, i3⟩, ⟨_, i4⟩, i5⟩ hn r1
    have ml := maskRun_length (maskFirst (ph ++ pp) M) (ph.length - ((ph.getD 0 0).toNat % 4 + 1)) M ((ph.getD 0 0).toNat % 4 + 1)
    rw [maskFirst_length, List.length_append] at ml
    clear r0
    walk_at "9"
    rename RC _ _ _ _ _ _ => r0
    refine Qb ?_ (k _ _ _ _ (by walk_at "om") (r0.pop.weak ?_))
    · rw [← hM']; rfl
    · exact i5
end
section
variable {prog : Program} {w : World} {A : Around} {H0 h : Heap} {fs : List (Nat × Map)} {H : PH} {n : Nat} {L : Nat} {m : Map} {g : Array GenState} {d : Drawn} {tk : Nat} {os : OsState} {bb : Nat}
  {E : Value → Shared → Prop} {Q : Value → Shared → Prop}
theorem remove_ct {x : Nat} {name key packet : List UInt8} {off : Nat} {t1 t2 : Tok}
    (G : Gd (KK w.params) H0) (hz : H0.objs.size ≤ n) (O : Ok A 4) (R : RC w.params H0 fs H n h) (ha : HpAt H x name key)
    (l0 : name.length < 256) (l1 : 6 ≤ key.length) (l2 : key.length < 256) (l4 : packet.length < 10000) (l5 : off + 20 ≤ packet.length)
    (k : ∀ (a : Nat) u1 u2 H' h' n' tk', n ≤ n' → H.le H' → H' a = some (.tup [.bytes (unHdr name key packet off).toArray u1, .int (unTrunc name key packet off : Nat) u2]) → RC w.params H0 fs H' n' h' → Q (.ref a) ⟨h', g, d, tk', os⟩) :
    wpP (model prog w) A (call (.ref 104) [.ref x, .bytes packet.toArray t1, .int (off : Nat) t2]) Q E ⟨h, g, d, tk, os⟩ := by
  have ha' := ha
  refine' HpAt.el ha ?_
  intro dx u1 u2 e1 e2
  refine' P_def (binds := [("self", .ref x), ("packet", .bytes packet.toArray t1), ("pn_offset", .int (off : Nat) t2)]) R ?G hz O.room ?ho ?hcd ?hbind ?hloc ?_ ?hco ?hgen ?hk ?hcell
  walk_at "def"
  intro L' h₁ tk₁ hl R'
  refine' P_execs_consA ?_
  walk_at "6"
  refine' P_execs_consA ?_
  walk_at "15"
  split
  · rename_i hc
    exact absurd (of_decide_eq_true hc) (by walk_at "om")
  walk_at "1"
  refine' P_execs_consA ?_
  walk_at "20"
  rename RC _ _ _ _ _ _ => r0
  refine' hp_mask_ct G (by walk_at "om") (O.deep (by decide)) r0 ha' l0 l1 l2 (by rw [List.length_drop, List.length_take]; walk_at "om") ?_
  intro t h' n' tk' hn r1
  clear r0
  generalize hM : maskB name key _ = M at r1 ⊢
  have hM' : unMask name key packet off = M := by
    rw [← hM]
    show _ = maskB name key ((packet.take ((off : Int) + 4 + 16).toNat).drop ((off : Int) + 4).toNat)
    have q1 : ((off : Int) + 4).toNat = off + 4 := by walk_at "om"
    have q2 : ((off : Int) + 4 + 16).toNat = off + 4 + 16 := by walk_at "om"
    rw [q1, q2]; rfl
  have lM : M.length = 5 := by rw [← hM]; rfl
  have lF : (unFirst name key packet off).length = packet.length := maskFirst_length _ _
  have l6 : unLen name key packet off ≤ 4 := by unfold unLen; walk_at "om"
  walk_at "1"
  refine' P_execs_cons ?_
  refine' P_Assign_Name ?_ ?hs
  case hs => exact rfl
  refine' P_Call_ofName ?_
  walk_at "1"
  refine' P_callT ?_ ?he ?hp
  case he => exact rfl
  case hp => exact rfl
  walk_at "3"
  rename RC _ _ _ _ _ _ => r0
  refine' r_bytearray r0 (by walk_at "om") (by walk_at "om") ?_
  intro a h'' ha'' r1
  clear r0
  walk_at "1"
  refine' P_any ?_
  walk_at "11"
  split
  · rename_i hc
    have hc2 : decide (Builtin.bitAnd (((packet.getD 0 0).toNat : Nat) : Int) 128 ≠ 0) = true := hc
    rw [and128U] at hc2
    have eB : unFirst name key packet off = packet.set (Int.toNat 0) (packet.getD (Int.toNat 0) 0 ^^^ (M.getD (Int.toNat 0) 0 &&& 15)) := by
      rw [← hM']; show maskFirst _ _ = _; unfold maskFirst; rw [if_pos (of_decide_eq_true hc2)]; rfl
    walk_at "42"
    rename RC _ _ _ _ _ _ => r0
    have eN : ((((unFirst name key packet off).getD (Int.toNat 0) 0).toNat % 4 : Nat) : Int) + 1 = ((unLen name key packet off : Nat) : Int) := by
      show ((((unFirst name key packet off).getD 0 0).toNat % 4 : Nat) : Int) + 1 = _
      unfold unLen; walk_at "om"
    rw [← eB, eN] at r0
    refine' range_turns (N := unLen name key packet off) ?hh r0 ?e (fun i H' m' => H' a = some (.ba (maskRun (unFirst name key packet off) off M i)) ∧ m' "buffer" = some (.ref a) ∧ (∃ t, m' "pn_offset" = some (.int (off : Nat) t)) ∧ (∃ t, m' "mask" = some (.bytes M.toArray t)) ∧ (∃ t, m' "pn_length" = some (.int (unLen name key packet off : Nat) t)) ∧ (∃ t, m' "pn_truncated" = some (.int (truncRun (unFirst name key packet off) off M i : Nat) t)) ∧ H.le H') ?i0 ?turn ?fin ?hinv ?hk ?hl
    case hk => exact rfl
    case hl => exact rfl
    case hh => exact Ok.hd (by walk_at "ok2")
    case e => exact PH.set_self _ _ _
    case i0 =>
      refine ⟨?_, rfl, ⟨_, rfl⟩, ⟨_, rfl⟩, ⟨_, rfl⟩, ⟨_, rfl⟩, by walk_at "le"⟩
      show _ = some (AO.ba (unFirst name key packet off))
      walk_at "lk"
    case hinv =>
      rintro i H' H'' m' oo ⟨i1, i2, i3, i4, i5, i6, i7⟩
      exact ⟨by walk_at "lk", i2, i3, i4, i5, i6, PH.le_only i7 oo (R.none_new (by walk_at "om"))⟩
    case turn =>
      rintro i H' m' n' h' tk' tk'' hi ⟨i1, i2, ⟨_, i3⟩, ⟨_, i4⟩, ⟨_, i5⟩, ⟨_, i6⟩, i7⟩ hn hit r1
      refine' q_abs ?_
      intro TQ hTQ
      have ml := maskRun_length (unFirst name key packet off) off M i
      have tl := truncRun_lt (unFirst name key packet off) off M i
      have tl2 : 256 ^ i ≤ 256 ^ 4 := Nat.pow_le_pow_right (by decide) (by walk_at "om")
      have tl3 : truncRun (unFirst name key packet off) off M i < 2 ^ 64 := by
        have : (256 : Nat) ^ 4 < 2 ^ 64 := by decide
        walk_at "om"
      clear r0
      walk_at "34"
      rename RC _ _ _ _ _ _ => r0
      have ei : ((off : Int) + (i : Nat)).toNat = off + i := by walk_at "om"
      have ej : ((1 : Int) + (i : Nat)).toNat = 1 + i := by walk_at "om"
      have eR : maskRun (unFirst name key packet off) off M (i + 1) = (maskRun (unFirst name key packet off) off M i).set ((off : Int) + (i : Nat)).toNat ((maskRun (unFirst name key packet off) off M i).getD ((off : Int) + (i : Nat)).toNat 0 ^^^ M.getD ((1 : Int) + (i : Nat)).toNat 0) := by
        rw [ei, ej]; rfl
      refine hTQ _ _ (turn_next r0 hn (by walk_at "lk") ⟨?_, i2, ⟨_, i3⟩, ⟨_, i4⟩, ⟨_, i5⟩, ?_, PH.le_new i7 (R.none_new (by walk_at "om"))⟩)
      · rw [PH.set_self, eR]
      · have e8 : truncRun (unFirst name key packet off) off M (i + 1) = truncRun (unFirst name key packet off) off M i * 256 + (((maskRun (unFirst name key packet off) off M i).set ((off : Int) + (i : Nat)).toNat ((maskRun (unFirst name key packet off) off M i).getD ((off : Int) + (i : Nat)).toNat 0 ^^^ M.getD ((1 : Int) + (i : Nat)).toNat 0)).getD ((off : Int) + (i : Nat)).toNat 0).toNat := by
          rw [truncRun, eR, ei]
        rw [e8]
        exact ⟨_, rfl⟩
    case fin =>
      rintro H' m' n' h' tk' ⟨i1, i2, ⟨_, i3⟩, ⟨_, i4⟩, ⟨_, i5⟩, ⟨_, i6⟩, i7⟩ hn r1
      have ml := maskRun_length (unFirst name key packet off) off M (unLen name key packet off)
      clear r0
      walk_at "25"
      rename RC _ _ _ _ _ _ => r0
      have eo : ((off : Int) + (unLen name key packet off : Nat)).toNat = off + unLen name key packet off := by walk_at "om"
      rw [eo] at r0
      subst hM'
      exact k _ _ _ _ _ _ _ (by walk_at "om") (by walk_at "le") (PH.set_self _ _ _) r0.pop
  · rename_i hc
    have hc2 : decide (Builtin.bitAnd (((packet.getD 0 0).toNat : Nat) : Int) 128 ≠ 0) = false := Bool.eq_false_iff.mpr hc
    rw [and128U] at hc2
    have eB : unFirst name key packet off = packet.set (Int.toNat 0) (packet.getD (Int.toNat 0) 0 ^^^ (M.getD (Int.toNat 0) 0 &&& 31)) := by
      rw [← hM']; show maskFirst _ _ = _; unfold maskFirst; rw [if_neg (of_decide_eq_false hc2)]; rfl
    walk_at "42"
    rename RC _ _ _ _ _ _ => r0
    have eN : ((((unFirst name key packet off).getD (Int.toNat 0) 0).toNat % 4 : Nat) : Int) + 1 = ((unLen name key packet off : Nat) : Int) := by
      show ((((unFirst name key packet off).getD 0 0).toNat % 4 : Nat) : Int) + 1 = _
      unfold unLen; walk_at "om"
    rw [← eB, eN] at r0
    refine' range_turns (N := unLen name key packet off) ?hh r0 ?e (fun i H' m' => H' a = some (.ba (maskRun (unFirst name key packet off) off M i)) ∧ m' "buffer" = some (.ref a) ∧ (∃ t, m' "pn_offset" = some (.int (off : Nat) t)) ∧ (∃ t, m' "mask" = some (.bytes M.toArray t)) ∧ (∃ t, m' "pn_length" = some (.int (unLen name key packet off : Nat) t)) ∧ (∃ t, m' "pn_truncated" = some (.int (truncRun (unFirst name key packet off) off M i : Nat) t)) ∧ H.le H') ?i0 ?turn ?fin ?hinv ?hk ?hl
    case hk => exact rfl
    case hl => exact rfl
    case hh => exact Ok.hd (by walk_at "ok2")
    case e => exact PH.set_self _ _ _
    case i0 =>
      refine ⟨?_, rfl, ⟨_, rfl⟩, ⟨_, rfl⟩, ⟨_, rfl⟩, ⟨_, rfl⟩, by walk_at "le"⟩
      show _ = some (AO.ba (unFirst name key packet off))
      walk_at "lk"
    case hinv =>
      rintro i H' H'' m' oo ⟨i1, i2, i3, i4, i5, i6, i7⟩
      exact ⟨by walk_at "lk", i2, i3, i4, i5, i6, PH.le_only i7 oo (R.none_new (by walk_at "om"))⟩
    case turn =>
      rintro i H' m' n' h' tk' tk'' hi ⟨i1, i2, ⟨_, i3⟩, ⟨_, i4⟩, ⟨_, i5⟩, ⟨_, i6⟩, i7⟩ hn hit r1
      refine' q_abs ?_
      intro TQ hTQ
      have ml := maskRun_length (unFirst name key packet off) off M i
      have tl := truncRun_lt (unFirst name key packet off) off M i
      have tl2 : 256 ^ i ≤ 256 ^ 4 := Nat.pow_le_pow_right (by decide) (by walk_at "om")
      have tl3 : truncRun (unFirst name key packet off) off M i < 2 ^ 64 := by
        have : (256 : Nat) ^ 4 < 2 ^ 64 := by decide
        walk_at "om"
      clear r0
      walk_at "34"
      rename RC _ _ _ _ _ _ => r0
      have ei : ((off : Int) + (i : Nat)).toNat = off + i := by walk_at "om"
      have ej : ((1 : Int) + (i : Nat)).toNat = 1 + i := by walk_at "om"
      have eR : maskRun (unFirst name key packet off) off M (i + 1) = (maskRun (unFirst name key packet off) off M i).set ((off : Int) + (i : Nat)).toNat ((maskRun (unFirst name key packet off) off M i).getD ((off : Int) + (i : Nat)).toNat 0 ^^^ M.getD ((1 : Int) + (i : Nat)).toNat 0) := by
        rw [ei, ej]; rfl
      refine hTQ _ _ (turn_next r0 hn (by walk_at "lk") ⟨?_, i2, ⟨_, i3⟩, ⟨_, i4⟩, ⟨_, i5⟩, ?_, PH.le_new i7 (R.none_new (by walk_at "om"))⟩)
      · rw [PH.set_self, eR]
      · have e8 : truncRun (unFirst name key packet off) off M (i + 1) = truncRun (unFirst name key packet off) off M i * 256 + (((maskRun (unFirst name key packet off) off M i).set ((off : Int) + (i : Nat)).toNat ((maskRun (unFirst name key packet off) off M i).getD ((off : Int) + (i : Nat)).toNat 0 ^^^ M.getD ((1 : Int) + (i : Nat)).toNat 0)).getD ((off : Int) + (i : Nat)).toNat 0).toNat := by
          rw [truncRun, eR, ei]
        rw [e8]
        exact ⟨_, rfl⟩
    case fin =>
      rintro H' m' n' h' tk' ⟨i1, i2, ⟨_, i3⟩, ⟨_, i4⟩, ⟨_, i5⟩, ⟨_, i6⟩, i7⟩ hn r1
      have ml := maskRun_length (unFirst name key packet off) off M (unLen name key packet off)
      clear r0
      walk_at "25"
      rename RC _ _ _ _ _ _ => r0
      have eo : ((off : Int) + (unLen name key packet off : Nat)).toNat = off + unLen name key packet off := by walk_at "om"
      rw [eo] at r0
      subst hM'
      exact k _ _ _ _ _ _ _ (by walk_at "om") (by walk_at "le") (PH.set_self _ _ _) r0.pop
end
section
variable {prog : Program} {w : World} {A : Around} {H0 h : Heap} {fs : List (Nat × Map)} {H : PH} {n : Nat} {L : Nat} {m : Map} {g : Array GenState} {d : Drawn} {tk : Nat} {os : OsState} {bb : Nat}
  {E : Value → Shared → Prop} {Q : Value → Shared → Prop}
abbrev ctxL (av sv hv kv secv vv : Value) : List (Str × Value) :=
  [("aead", av), ("cipher_suite", sv), ("hp", hv), ("key_phase", kv), ("secret", secv), ("version", vv), ("_setup_cb", .ref 185), ("_teardown_cb", .ref 185), ("primitives", .ref 410)]
noncomputable def CtxV (H : PH) (c cd : Nat) (av sv hv kv secv vv : Value) : Prop :=
  H c = some (.inst 257 cd) ∧ H cd = some (.dic (ctxL av sv hv kv secv vv))
structure CtxAt (H : PH) (c cd : Nat) (suite version kp : Int) (secret hpk : List UInt8) : Prop where
  ex : ∃ (a hp : Nat) (t1 t2 t3 t4 : Tok), CtxV H c cd (.ref a) (.int suite t1) (.ref hp) (.int kp t2) (.bytes secret.toArray t3) (.int version t4) ∧ AeadAt H a (aname suite) (keyB suite version secret) (ivB suite version secret) ∧ HpAt H hp (hname suite) hpk
theorem CtxAt.el {X : Prop} {H : PH} {c cd : Nat} {suite version kp : Int} {secret hpk : List UInt8} (h : CtxAt H c cd suite version kp secret hpk)
    (k : ∀ (a hp : Nat) (t1 t2 t3 t4 : Tok), H c = some (.inst 257 cd) → H cd = some (.dic (ctxL (.ref a) (.int suite t1) (.ref hp) (.int kp t2) (.bytes secret.toArray t3) (.int version t4))) → AeadAt H a (aname suite) (keyB suite version secret) (ivB suite version secret) → HpAt H hp (hname suite) hpk → X) : X :=
  let ⟨_, _, _, _, _, _, ⟨e1, e2⟩, hA, hB⟩ := h.ex; k _ _ _ _ _ _ e1 e2 hA hB
theorem ctx_new_kp_ct {kp : Int} {t1 : Tok}
    (G : Gd (KK w.params) H0) (hz : H0.objs.size ≤ n) (O : Ok A 4) (R : RC w.params H0 fs H n h)
    (k : ∀ (c cd : Nat) H' h' n' tk', n ≤ c → n ≤ cd → n ≤ n' → H.le H' → CtxV H' c cd .none .none .none (.int kp t1) .none .none → RC w.params H0 fs H' n' h' → Q (.ref c) ⟨h', g, d, tk', os⟩) :
    wpAny (model prog w) A (call (.ref 257) [.ref 410] [("key_phase", .int kp t1)]) Q E ⟨h, g, d, tk, os⟩ := by
  refine' r_new (binds := fun x => [("self", .ref x), ("primitives", .ref 410), ("key_phase", .int kp t1), ("setup_cb", .ref 185), ("teardown_cb", .ref 185)]) R ?G hz O ?hkk ?hm ?hi ?hf ?ho ?hcd ?hbind ?hloc ?_ ?hco ?hgen ?hk ?hcell
  walk_at "new"
  intro dx L' h₁ tk₁ hd hl R' O'
  walk_at "47"
  rename RC _ _ _ _ _ _ => r0
  refine' k _ _ _ _ _ _ ?x1 ?x2 ?x3 ?x4 ⟨?x5, ?x6⟩ r0.pop
  case x5 => walk_at "lk"
  case x6 => walk_at "lk"
  case x4 => walk_at "le"
  all_goals walk_at "om"
theorem ctx_new_cb_ct
    (G : Gd (KK w.params) H0) (hz : H0.objs.size ≤ n) (O : Ok A 4) (R : RC w.params H0 fs H n h)
    (k : ∀ (c cd : Nat) H' h' n' tk' u, n ≤ c → n ≤ cd → n ≤ n' → H.le H' → CtxV H' c cd .none .none .none (.int 0 u) .none .none → RC w.params H0 fs H' n' h' → Q (.ref c) ⟨h', g, d, tk', os⟩) :
    wpAny (model prog w) A (call (.ref 257) [.ref 410] [("setup_cb", .ref 185), ("teardown_cb", .ref 185)]) Q E ⟨h, g, d, tk, os⟩ := by
  refine' r_new (binds := fun x => [("self", .ref x), ("primitives", .ref 410), ("key_phase", .int 0 511), ("setup_cb", .ref 185), ("teardown_cb", .ref 185)]) R ?G hz O ?hkk ?hm ?hi ?hf ?ho ?hcd ?hbind ?hloc ?_ ?hco ?hgen ?hk ?hcell
  walk_at "new"
  intro dx L' h₁ tk₁ hd hl R' O'
  walk_at "47"
  rename RC _ _ _ _ _ _ => r0
  refine' k _ _ _ _ _ _ _ ?x1 ?x2 ?x3 ?x4 ⟨?x5, ?x6⟩ r0.pop
  case x5 => walk_at "lk"
  case x6 => walk_at "lk"
  case x4 => walk_at "le"
  all_goals walk_at "om"
theorem ctx_setup_ct {c cd : Nat} {suite version kp : Int} {secret : List UInt8} {av sv hv secv vv : Value} {t1 t2 t3 t4 : Tok}
    (G : Gd (KK w.params) H0) (hz : H0.objs.size ≤ n) (O : Ok A 6) (R : RC w.params H0 fs H n h) (hc : CtxV H c cd av sv hv (.int kp t4) secv vv) (hs : Suite suite) (l1 : SecOk (bb + 1) secret)
    (k : ∀ H' h' n' tk', n ≤ n' → Only [cd] H H' → CtxAt H' c cd suite version kp secret (hpB suite version secret) → RC w.params H0 fs H' n' h' → Q .none ⟨h', g, d, tk', os⟩) :
    wpAny (model prog w) A (call (.ref 247) [.ref c] [("cipher_suite", .int suite t1), ("secret", .bytes secret.toArray t2), ("version", .int version t3)]) Q E ⟨h, g, d, tk, os⟩ := by
  obtain ⟨e1, e2⟩ := hc
  have lc := R.lt e1
  have lcd := R.lt e2
  have ncd : c ≠ cd := ne_of e1 e2 (fun q => nomatch q)
  have hd : H0.DictOf (intKind prog w) 175 [(4865, .ref 176), (4866, .ref 177), (4867, .ref 178)] := by
    refine idict_K G.X (es := [_, _, _]) (by k_is) (.cons rfl (.cons rfl (.cons rfl .nil))) (by decide)
  have hv : ∃ (tp : Nat) (u1 u2 : Tok), valueAt [((4865 : Int), Value.ref 176), (4866, .ref 177), (4867, .ref 178)] suite = some (.ref tp) ∧ IsTup H0 tp (List.toArray [.bytes (hname suite).toArray u1, .bytes (aname suite).toArray u2]) := by
    rcases hs with rfl | rfl | rfl
    · exact ⟨176, _, _, rfl, tupK G.X (by k_is)⟩
    · exact ⟨177, _, _, rfl, tupK G.X (by k_is)⟩
    · exact ⟨178, _, _, rfl, tupK G.X (by k_is)⟩
  obtain ⟨tp, u1, u2, hv, ht⟩ := hv
  refine' r_def (binds := [("self", .ref c), ("cipher_suite", .int suite t1), ("secret", .bytes secret.toArray t2), ("version", .int version t3)]) R ?G hz O.room ?ho ?hcd ?hbind ?hloc ?_ ?hco ?hgen ?hk ?hcell
  walk_at "def"
  intro L' h₁ tk₁ hl R'
  walk_at "31"
  rename RC _ _ _ _ _ _ => r0
  refine' derive_ct G (by walk_at "om") (O.deep (by decide)) r0 l1 ?_
  intro a v1 v2 v3 h' n' tk' ha r1
  clear r0
  have a1 := r1.lt (PH.set_self _ _ _)
  walk_at "28"
  rename RC _ _ _ _ _ _ => r0
  refine' aead_new_ct G (by walk_at "om") (O.deep (by decide)) r0 hs.ana (ivB_length l1) ?_
  intro x H1 h' n' tk' hn le1 hA r1
  clear r0
  have f1 := le1 _ _ (PH.set_at (by walk_at "om") e1)
  have f2 := le1 _ _ (PH.set_at (by walk_at "om") e2)
  walk_at "22"
  rename RC _ _ _ _ _ _ => r0
  refine' hp_new_ct G (by walk_at "om") (O.deep (by decide)) r0 hs.hna ?_
  intro y H2 h' n' tk' hn2 le2 hB r1
  clear r0
  have g1 := le2 _ _ (PH.set_at ncd (PH.set_at ncd f1))
  have g2 := le2 _ _ (PH.set_self _ _ _)
  walk_at "22"
  rename RC _ _ _ _ _ _ => r0
  refine' nocb_ct G (by walk_at "om") (O.deep (by decide)) r0 ?_
  intro h' n' tk' hn3 r1
  clear r0
  walk_at "1"
  rename RC _ _ _ _ _ _ => r0
  have ha0 : H a = none := R.none_new (by walk_at "om")
  refine k _ _ _ _ (by walk_at "om") ?_ ⟨x, y, _, _, _, _, ⟨by walk_at "lk", by walk_at "lk"⟩, hA.keep ?_, hB.keep ?_⟩ r0.pop
  · walk_at "only"
  · walk_at "keepi"
  · walk_at "keepi"
end
section
variable {prog : Program} {w : World} {A : Around} {H0 h : Heap} {fs : List (Nat × Map)} {H : PH} {n : Nat} {L : Nat} {m : Map} {g : Array GenState} {d : Drawn} {tk : Nat} {os : OsState} {bb : Nat}
  {E : Value → Shared → Prop} {Q : Value → Shared → Prop}
theorem isvalid_ct {c cd : Nat} {av sv hv kv secv vv : Value}
    (G : Gd (KK w.params) H0) (hz : H0.objs.size ≤ n) (O : Ok A 1) (R : RC w.params H0 fs H n h) (hc : CtxV H c cd av sv hv kv secv vv) (hv : handedIn av = true)
    (k : ∀ h' n' tk', n ≤ n' → RC w.params H0 fs H n' h' → Q (.bool (!(av == .none))) ⟨h', g, d, tk', os⟩) :
    wpAny (model prog w) A (call (.ref 240) [.ref c]) Q E ⟨h, g, d, tk, os⟩ := by
  obtain ⟨e1, e2⟩ := hc
  refine' r_def (binds := [("self", .ref c)]) R ?G hz O.room ?ho ?hcd ?hbind ?hloc ?_ ?hco ?hgen ?hk ?hcell
  walk_at "def"
  intro L' h₁ tk₁ hl R'
  walk_at "8"
  rename RC _ _ _ _ _ _ => r0
  exact k _ _ _ (by walk_at "om") r0.pop
theorem next_ct {c cd : Nat} {suite version kp : Int} {secret hpk : List UInt8}
    (G : Gd (KK w.params) H0) (hz : H0.objs.size ≤ n) (O : Ok A 8) (R : RC w.params H0 fs H n h) (hc : CtxAt H c cd suite version kp secret hpk) (hs : Suite suite) (l1 : SecOk (bb + 2) secret)
    (k : ∀ (c' cd' : Nat) H' h' n' tk', n ≤ c' → n ≤ cd' → n ≤ n' → H.le H' → CtxAt H' c' cd' suite version (flipI kp) (nextB suite version secret) (hpB suite version (nextB suite version secret)) → RC w.params H0 fs H' n' h' → Q (.ref c') ⟨h', g, d, tk', os⟩) :
    wpAny (model prog w) A (call (.ref 275) [.ref c]) Q E ⟨h, g, d, tk, os⟩ := by
  refine' CtxAt.el hc ?_
  intro a hp t1 t2 t3 t4 e1 e2 hA hB
  refine' r_def (binds := [("self", .ref c)]) R ?G hz O.room ?ho ?hcd ?hbind ?hloc ?_ ?hco ?hgen ?hk ?hcell
  walk_at "def"
  intro L' h₁ tk₁ hl R'
  walk_at "11"
  rename RC _ _ _ _ _ _ => r0
  refine' suitehash_ct G (by walk_at "om") (O.deep (by decide)) r0 ?_
  intro t h' n' tk' hn r1
  clear r0
  walk_at "12"
  split
  · rename_i hv'
    have hv' : isV2 version = true := hv'
    walk_at "30"
    rename RC _ _ _ _ _ _ => r0
    refine' ctx_new_kp_ct G (by walk_at "om") (O.deep (by decide)) r0 ?_
    intro c1 cd1 H1 h' n' tk' hc1 hcd1 hn le1 hV r1
    clear r0
    have e1' := le1 _ _ e1
    have e2' := le1 _ _ e2
    obtain ⟨v1, v2⟩ := hV
    have b1 := r1.lt v1
    have b2 := r1.lt v2
    walk_at "33"
    rename RC _ _ _ _ _ _ => r0
    refine' hkdf_ct G (by walk_at "om") (O.deep (by decide)) r0 l1.le (by decide) (by have := algI_in suite; unfold algI at this; walk_at "om") (by have := algI_in suite; unfold algI at this; walk_at "om") (l1.pre (by decide)) ?_
    intro u1 h' n' tk' hn2 r1
    clear r0
    walk_at "6"
    rename RC _ _ _ _ _ _ => r0
    have eS : expandB (if suite = 4866 then 48 else 32 : Int).toNat secret (kuLb (isV2 version)) (if suite = 4866 then 48 else 32 : Int).toNat = nextB suite version secret := rfl
    have l2 : SecOk (bb + 1) (expandB (if suite = 4866 then 48 else 32 : Int).toNat secret (kuLb (isV2 version)) (if suite = 4866 then 48 else 32 : Int).toNat) := l1.next
    rw [hv'] at eS l2
    refine' ctx_setup_ct (bb := bb) (kp := flipI kp) G (by walk_at "om") (O.deep (by decide)) r0 ⟨v1, v2⟩ hs l2 ?_
    intro H2 h' n' tk' hn3 o2 hC r1
    have hC2 : CtxAt H2 c1 cd1 suite version (flipI kp) (nextB suite version secret) (hpB suite version (nextB suite version secret)) := by rw [← eS]; exact hC
    clear r0
    walk_at "3"
    rename RC _ _ _ _ _ _ => r0
    exact k _ _ _ _ _ _ (by walk_at "om") (by walk_at "om") (by walk_at "om") (PH.le_only le1 o2 (R.none_new (by walk_at "om"))) hC2 r0.pop
  · rename_i hv'
    have hv' : isV2 version = false := Bool.eq_false_iff.mpr hv'
    walk_at "30"
    rename RC _ _ _ _ _ _ => r0
    refine' ctx_new_kp_ct G (by walk_at "om") (O.deep (by decide)) r0 ?_
    intro c1 cd1 H1 h' n' tk' hc1 hcd1 hn le1 hV r1
    clear r0
    have e1' := le1 _ _ e1
    have e2' := le1 _ _ e2
    obtain ⟨v1, v2⟩ := hV
    have b1 := r1.lt v1
    have b2 := r1.lt v2
    walk_at "33"
    rename RC _ _ _ _ _ _ => r0
    refine' hkdf_ct G (by walk_at "om") (O.deep (by decide)) r0 l1.le (by decide) (by have := algI_in suite; unfold algI at this; walk_at "om") (by have := algI_in suite; unfold algI at this; walk_at "om") (l1.pre (by decide)) ?_
    intro u1 h' n' tk' hn2 r1
    clear r0
    walk_at "6"
    rename RC _ _ _ _ _ _ => r0
    have eS : expandB (if suite = 4866 then 48 else 32 : Int).toNat secret (kuLb (isV2 version)) (if suite = 4866 then 48 else 32 : Int).toNat = nextB suite version secret := rfl
    have l2 : SecOk (bb + 1) (expandB (if suite = 4866 then 48 else 32 : Int).toNat secret (kuLb (isV2 version)) (if suite = 4866 then 48 else 32 : Int).toNat) := l1.next
    rw [hv'] at eS l2
    refine' ctx_setup_ct (bb := bb) (kp := flipI kp) G (by walk_at "om") (O.deep (by decide)) r0 ⟨v1, v2⟩ hs l2 ?_
    intro H2 h' n' tk' hn3 o2 hC r1
    have hC2 : CtxAt H2 c1 cd1 suite version (flipI kp) (nextB suite version secret) (hpB suite version (nextB suite version secret)) := by rw [← eS]; exact hC
    clear r0
    walk_at "3"
    rename RC _ _ _ _ _ _ => r0
    exact k _ _ _ _ _ _ (by walk_at "om") (by walk_at "om") (by walk_at "om") (PH.le_only le1 o2 (R.none_new (by walk_at "om"))) hC2 r0.pop
theorem apply_kp_ct {c cd c2 cd2 : Nat} {suite version kp kp2 : Int} {secret secret2 hpk hpk2 : List UInt8} {v : Value}
    (G : Gd (KK w.params) H0) (hz : H0.objs.size ≤ n) (O : Ok A 8) (R : RC w.params H0 fs H n h) (hc : CtxAt H c cd suite version kp secret hpk) (hc2 : CtxAt H c2 cd2 suite version kp2 secret2 hpk2) (hne : cd2 ≠ cd)
    (k : ∀ H' h' n' tk', n ≤ n' → Only [cd] H H' → CtxAt H' c cd suite version kp2 secret2 hpk → RC w.params H0 fs H' n' h' → Q .none ⟨h', g, d, tk', os⟩) :
    wpAny (model prog w) A (call (.ref 268) [.ref c, .ref c2] [("trigger", v)]) Q E ⟨h, g, d, tk, os⟩ := by
  refine' CtxAt.el hc ?_
  intro a hp t1 t2 t3 t4 e1 e2 hA hB
  refine' CtxAt.el hc2 ?_
  intro a' hp' t1' t2' t3' t4' f1 f2 hA' hB'
  have ncd : c ≠ cd := ne_of e1 e2 (fun q => nomatch q)
  have ncd2 : c2 ≠ cd := ne_of f1 e2 (fun q => nomatch q)
  refine' r_def (binds := [("self", .ref c), ("crypto", .ref c2), ("trigger", v)]) R ?G hz O.room ?ho ?hcd ?hbind ?hloc ?_ ?hco ?hgen ?hk ?hcell
  walk_at "def"
  intro L' h₁ tk₁ hl R'
  walk_at "31"
  rename RC _ _ _ _ _ _ => r0
  refine' nocb_ct G (by walk_at "om") (O.deep (by decide)) r0 ?_
  intro h' n' tk' hn3 r1
  clear r0
  walk_at "1"
  rename RC _ _ _ _ _ _ => r0
  refine k _ _ _ _ (by walk_at "om") ?_ ⟨a', hp, _, _, _, _, ⟨by walk_at "lk", by walk_at "lk"⟩, hA'.keep ?_, hB.keep ?_⟩ r0.pop
  · walk_at "only"
  · walk_at "keepi"
  · walk_at "keepi"
end
section
variable {prog : Program} {w : World} {A : Around} {H0 h : Heap} {fs : List (Nat × Map)} {H : PH} {n : Nat} {L : Nat} {m : Map} {g : Array GenState} {d : Drawn} {tk : Nat} {os : OsState} {bb : Nat}
  {E : Value → Shared → Prop} {Q : Value → Shared → Prop}
noncomputable def encB (suite version : Int) (secret hpk ph pp : List UInt8) (pn : Int) : List UInt8 :=
  applyB (hname suite) hpk ph (sealB (aname suite) (keyB suite version secret) (nonceB (ivB suite version secret) pn) pp ph)
theorem ctx_enc_ct {c cd : Nat} {suite version kp pn : Int} {secret hpk ph pp : List UInt8} {t1 t2 t3 : Tok}
    (G : Gd (KK w.params) H0) (hz : H0.objs.size ≤ n) (O : Ok A 6) (R : RC w.params H0 fs H n h) (hc : CtxAt H c cd suite version kp secret hpk) (hs : Suite suite) (l1 : SecOk bb secret) (l2 : 6 ≤ hpk.length) (l3 : hpk.length < 256)
    (hno : NonceOk (ivB suite version secret) pn) (l4 : ph.length < 256) (l5 : (ph.getD 0 0).toNat % 4 + 1 ≤ ph.length) (l6 : pp.length < 256)
    (k : ∀ t h' n' tk', n ≤ n' → RC w.params H0 fs H n' h' → Q (.bytes (encB suite version secret hpk ph pp pn).toArray t) ⟨h', g, d, tk', os⟩) :
    wpP (model prog w) A (call (.ref 233) [.ref c, .bytes ph.toArray t1, .bytes pp.toArray t2, .int pn t3]) Q E ⟨h, g, d, tk, os⟩ := by
  refine' CtxAt.el hc ?_
  intro a hp u1 u2 u3 u4 e1 e2 hA hB
  refine' AeadAt.el hA ?_
  intro dA w1 w2 w3 a1 a2
  refine' HpAt.el hB ?_
  intro dB w4 w5 b1 b2
  have lk1 := keyB_length (suite := suite) (version := version) l1
  have lk2 := keySize_in suite
  have lk3 : (keyB suite version secret).length < 256 := by walk_at "om"
  have lk4 : (nonceB (ivB suite version secret) pn).length < 256 := by unfold nonceB; rw [toBE_length]; decide
  refine' P_def (binds := [("self", .ref c), ("plain_header", .bytes ph.toArray t1), ("plain_payload", .bytes pp.toArray t2), ("packet_number", .int pn t3)]) R ?G hz O.room ?ho ?hcd ?hbind ?hloc ?_ ?hco ?hgen ?hk ?hcell
  walk_at "def"
  intro L' h₁ tk₁ hl R'
  refine' P_execs_consA ?_
  walk_at "6"
  rename RC _ _ _ _ _ _ => r0
  refine' isvalid_ct G (by walk_at "om") (O.deep (by decide)) r0 ⟨e1, e2⟩ rfl ?_
  intro h' n' tk' hn r1
  clear r0
  walk_at "2"
  · rfl
  refine' P_execs_consA ?_
  walk_at "15"
  rename RC _ _ _ _ _ _ => r0
  refine' aead_enc_ct G (by walk_at "om") (O.deep (by decide)) r0 hA hno hs.anl lk3 l6 l4 ?_
  intro t h' n' tk' hn r1
  clear r0
  walk_at "1"
  refine' P_execs_cons ?_
  refine' P_Return_some ?_
  refine' P_methodCall ?_ ?he
  case he => exact rfl
  walk_at "4"
  refine' P_callK (K := (KK w.params)) ?hk ?_ ?he ?hp
  case he => exact rfl
  case hp => exact rfl
  case hk => k_is
  walk_at "6"
  rename RC _ _ _ _ _ _ => r0
  refine' apply_ct G (by walk_at "om") (O.deep (by decide)) r0 hB hs.hnl l2 l3 l4 (sealB_lt hs.anl lk3 lk4 l6 l4) l5 ?_
  intro t h' n' tk' hn r1
  exact k _ _ _ _ (by walk_at "om") r1.pop
end
section
variable {prog : Program} {w : World} {A : Around} {H0 h : Heap} {fs : List (Nat × Map)} {H : PH} {n : Nat} {L : Nat} {m : Map} {g : Array GenState} {d : Drawn} {tk : Nat} {os : OsState} {bb : Nat}
  {E : Value → Shared → Prop} {Q : Value → Shared → Prop}
noncomputable def PairV (H : PH) (p pd rc sc : Nat) (ask : Bool) : Prop :=
  ∃ t, H p = some (.inst 343 pd) ∧ H pd = some (.dic [("aead_tag_size", .int 16 t), ("primitives", .ref 410), ("recv", .ref rc), ("send", .ref sc), ("_update_key_requested", .bool ask)])
theorem PairV.el {X : Prop} {H : PH} {p pd rc sc : Nat} {ask : Bool} (h : PairV H p pd rc sc ask) (k : ∀ t, H p = some (.inst 343 pd) → H pd = some (.dic [("aead_tag_size", .int 16 t), ("primitives", .ref 410), ("recv", .ref rc), ("send", .ref sc), ("_update_key_requested", .bool ask)]) → X) : X :=
  let ⟨_, e1, e2⟩ := h; k _ e1 e2
theorem pair_new_ct
    (G : Gd (KK w.params) H0) (hz : H0.objs.size ≤ n) (O : Ok A 8) (R : RC w.params H0 fs H n h)
    (k : ∀ (p pd rc rcd sc scd : Nat) H' h' n' tk' u1 u2, n ≤ p → n ≤ pd → n ≤ rc → n ≤ rcd → n ≤ sc → n ≤ scd → rcd ≠ scd → n ≤ n' → H.le H' → PairV H' p pd rc sc false →
      CtxV H' rc rcd .none .none .none (.int 0 u1) .none .none → CtxV H' sc scd .none .none .none (.int 0 u2) .none .none → RC w.params H0 fs H' n' h' → Q (.ref p) ⟨h', g, d, tk', os⟩) :
    wpAny (model prog w) A (call (.ref 343) [.ref 410]) Q E ⟨h, g, d, tk, os⟩ := by
  refine' r_new (binds := fun x => [("self", .ref x), ("primitives", .ref 410), ("recv_setup_cb", .ref 185), ("recv_teardown_cb", .ref 185), ("send_setup_cb", .ref 185), ("send_teardown_cb", .ref 185)]) R ?G hz O ?hkk ?hm ?hi ?hf ?ho ?hcd ?hbind ?hloc ?_ ?hco ?hgen ?hk ?hcell
  walk_at "new"
  intro dx L' h₁ tk₁ hd hl R' O'
  walk_at "24"
  rename RC _ _ _ _ _ _ => r0
  refine' ctx_new_cb_ct G (by walk_at "om") (O'.le (by decide)) r0 ?_
  intro rc rcd H1 h' n' tk' u1 hc1 hcd1 hn le1 hV1 r1
  clear r0
  have f1 := le1 _ _ (PH.set_at (by walk_at "om") (PH.set_at (by walk_at "om") (PH.set_self _ _ _)))
  have f2 := le1 _ _ (PH.set_self _ _ _)
  have L1 : H.le H1 := PH.le_trans (by walk_at "le") le1
  obtain ⟨v1, v2⟩ := hV1
  have b1 := r1.lt v1
  have b2 := r1.lt v2
  walk_at "16"
  rename RC _ _ _ _ _ _ => r0
  refine' ctx_new_cb_ct G (by walk_at "om") (O'.le (by decide)) r0 ?_
  intro sc scd H2 h' n' tk' u2 hc2 hcd2 hn2 le2 hV2 r1
  clear r0
  have g1 := le2 _ _ (PH.set_at (by walk_at "om") f1)
  have g2 := le2 _ _ (PH.set_self _ _ _)
  have L2 : H.le H2 := PH.le_trans (PH.le_new L1 (R.none_new (by walk_at "om"))) le2
  have g3 := le2 _ _ (PH.set_at (by walk_at "om") v1)
  have g4 := le2 _ _ (PH.set_at (by walk_at "om") v2)
  obtain ⟨v3, v4⟩ := hV2
  have b3 := r1.lt v3
  have b4 := r1.lt v4
  walk_at "9"
  rename RC _ _ _ _ _ _ => r0
  refine k (dx + 1) dx rc rcd sc scd _ _ _ _ u1 u2 (by walk_at "om") (by walk_at "om") (by walk_at "om") (by walk_at "om") (by walk_at "om") (by walk_at "om") (by walk_at "om") (by walk_at "om") ?_ ⟨_, by walk_at "lk", by walk_at "lk"⟩ ⟨by walk_at "lk", by walk_at "lk"⟩ ⟨by walk_at "lk", by walk_at "lk"⟩ r0.pop
  walk_at "le"
theorem update_key_ct {p pd rc sc : Nat} {ask : Bool}
    (G : Gd (KK w.params) H0) (hz : H0.objs.size ≤ n) (O : Ok A 1) (R : RC w.params H0 fs H n h) (hp : PairV H p pd rc sc ask)
    (k : ∀ H' h' n' tk', n ≤ n' → Only [pd] H H' → PairV H' p pd rc sc true → RC w.params H0 fs H' n' h' → Q .none ⟨h', g, d, tk', os⟩) :
    wpAny (model prog w) A (call (.ref 325) [.ref p]) Q E ⟨h, g, d, tk, os⟩ := by
  refine' PairV.el hp ?_
  intro t e1 e2
  have np : p ≠ pd := ne_of e1 e2 (fun q => nomatch q)
  refine' r_def (binds := [("self", .ref p)]) R ?G hz O.room ?ho ?hcd ?hbind ?hloc ?_ ?hco ?hgen ?hk ?hcell
  walk_at "def"
  intro L' h₁ tk₁ hl R'
  walk_at "6"
  rename RC _ _ _ _ _ _ => r0
  exact k _ _ _ _ (by walk_at "om") (by walk_at "only") ⟨_, by walk_at "lk", by walk_at "lk"⟩ r0.pop
end
section
variable {prog : Program} {w : World} {A : Around} {H0 h : Heap} {fs : List (Nat × Map)} {H : PH} {n : Nat} {L : Nat} {m : Map} {g : Array GenState} {d : Drawn} {tk : Nat} {os : OsState} {bb : Nat}
  {E : Value → Shared → Prop} {Q : Value → Shared → Prop}
theorem CtxAt.only {S : List Nat} {H H' : PH} {c cd : Nat} {suite version kp : Int} {secret hpk : List UInt8} (h : CtxAt H c cd suite version kp secret hpk) (o : Only S H H') (k : KeepI H H') (h2 : cd ∉ S) : CtxAt H' c cd suite version kp secret hpk := by
  refine' CtxAt.el h ?_
  intro a hp t1 t2 t3 t4 e1 e2 hA hB
  exact ⟨a, hp, t1, t2, t3, t4, ⟨k _ _ trivial e1, o _ _ h2 e2⟩, hA.keep k, hB.keep k⟩
theorem CtxAt.le {H H' : PH} {c cd : Nat} {suite version kp : Int} {secret hpk : List UInt8} (h : CtxAt H c cd suite version kp secret hpk) (o : H.le H') : CtxAt H' c cd suite version kp secret hpk :=
  h.only (S := []) (fun a x _ e => o a x e) (fun a x _ e => o a x e) (List.not_mem_nil)
theorem CtxAt.nimm {H : PH} {c cd : Nat} {suite version kp : Int} {secret hpk : List UInt8} (h : CtxAt H c cd suite version kp secret hpk) : ∀ b ∈ [cd], ∀ z, H b = some z → ¬ Imm z := by
  refine' CtxAt.el h ?_
  intro a hp t1 t2 t3 t4 e1 e2 hA hB
  intro b hb z e
  rw [List.mem_singleton.mp hb, e2] at e
  cases e; exact nimm_ctx
theorem PairV.keep {S : List Nat} {H H' : PH} {p pd rc sc : Nat} {ask : Bool} (h : PairV H p pd rc sc ask) (o : Only S H H') (k : KeepI H H') (h2 : pd ∉ S) : PairV H' p pd rc sc ask := by
  obtain ⟨t, e1, e2⟩ := h
  exact ⟨t, k _ _ trivial e1, o _ _ h2 e2⟩
theorem PairV.ne {H : PH} {p pd rc sc c cd : Nat} {ask : Bool} {suite version kp : Int} {secret hpk : List UInt8} (h : PairV H p pd rc sc ask) (h' : CtxAt H c cd suite version kp secret hpk) : pd ≠ cd := by
  obtain ⟨t, e1, e2⟩ := h
  refine' CtxAt.el h' ?_
  intro a hp t1 t2 t3 t4 f1 f2 hA hB
  refine ne_of e2 f2 (fun q => ?_)
  injection q with q
  injection q with q1 q2
  exact absurd (show Str.ofString "aead_tag_size" = Str.ofString "aead" from congrArg Prod.fst q1) (by decide)
theorem update_ct {p pd rc rcd sc scd : Nat} {ask : Bool} {suite version kpR kpS : Int} {secR hpR secS hpS : List UInt8} {v : Value}
    (G : Gd (KK w.params) H0) (hz : H0.objs.size ≤ n) (O : Ok A 10) (R : RC w.params H0 fs H n h) (hp : PairV H p pd rc sc ask) (hr : CtxAt H rc rcd suite version kpR secR hpR) (hsd : CtxAt H sc scd suite version kpS secS hpS) (hne : rcd ≠ scd)
    (hs : Suite suite) (l1 : SecOk (bb + 2) secR) (l2 : SecOk (bb + 2) secS)
    (k : ∀ H' h' n' tk', n ≤ n' → Only [pd, rcd, scd] H H' → KeepI H H' → PairV H' p pd rc sc false → CtxAt H' rc rcd suite version (flipI kpR) (nextB suite version secR) hpR → CtxAt H' sc scd suite version (flipI kpS) (nextB suite version secS) hpS → RC w.params H0 fs H' n' h' → Q .none ⟨h', g, d, tk', os⟩) :
    wpAny (model prog w) A (call (.ref 340) [.ref p, v]) Q E ⟨h, g, d, tk, os⟩ := by
  refine' PairV.el hp ?_
  intro t e1 e2
  have ne1 := hp.ne hr
  have ne2 := hp.ne hsd
  have np : p ≠ pd := ne_of e1 e2 (fun q => nomatch q)
  refine' r_def (binds := [("self", .ref p), ("trigger", v)]) R ?G hz O.room ?ho ?hcd ?hbind ?hloc ?_ ?hco ?hgen ?hk ?hcell
  walk_at "def"
  intro L' h₁ tk₁ hl R'
  walk_at "19"
  rename RC _ _ _ _ _ _ => r0
  refine' next_ct (bb := bb) G (by walk_at "om") (O.deep (by decide)) r0 hr hs l1 ?_
  intro c1 cd1 H1 h' n' tk' hc1 hcd1 hn le1 hC1 r1
  clear r0
  have e1a := le1 _ _ e1
  have e2a := le1 _ _ e2
  have hr1 := hr.le le1
  have hs1 := hsd.le le1
  have bcd := R.lt e2
  walk_at "5"
  rename RC _ _ _ _ _ _ => r0
  have x1 : cd1 ≠ rcd := by
    refine' CtxAt.el hr ?_
    intro a hp t1 t2 t3 t4 f1 f2 hA hB
    have := R.lt f2
    walk_at "om"
  refine' apply_kp_ct G (by walk_at "om") (O.deep (by decide)) r0 hr1 hC1 x1 ?_
  intro H2 h' n' tk' hn2 o2 hC2 r1
  clear r0
  have k2 : KeepI H1 H2 := KeepI.only (KeepI.refl _) o2 hr1.nimm
  have e1b := k2 _ _ (show Imm (.inst _ _) from trivial) e1a
  have e2b := o2 _ _ (by simpa using ne1) e2a
  have hs2 := hs1.only o2 k2 (by simpa using Ne.symm hne)
  walk_at "19"
  rename RC _ _ _ _ _ _ => r0
  refine' next_ct (bb := bb) G (by walk_at "om") (O.deep (by decide)) r0 hs2 hs l2 ?_
  intro c2 cd2 H3 h' n' tk' hc2 hcd2 hn3 le3 hC3 r1
  clear r0
  have e1c := le3 _ _ e1b
  have e2c := le3 _ _ e2b
  have hs3 := hs2.le le3
  have hC2' := hC2.le le3
  walk_at "5"
  rename RC _ _ _ _ _ _ => r0
  have x2 : cd2 ≠ scd := by
    refine' CtxAt.el hsd ?_
    intro a hp t1 t2 t3 t4 f1 f2 hA hB
    have := R.lt f2
    walk_at "om"
  refine' apply_kp_ct G (by walk_at "om") (O.deep (by decide)) r0 hs3 hC3 x2 ?_
  intro H4 h' n' tk' hn4 o4 hC4 r1
  clear r0
  have k4 : KeepI H3 H4 := KeepI.only (KeepI.refl _) o4 hs3.nimm
  have e1d := k4 _ _ (show Imm (.inst _ _) from trivial) e1c
  have e2d := o4 _ _ (by simpa using ne2) e2c
  have hr4 := hC2'.only o4 k4 (by simpa using hne)
  walk_at "6"
  rename RC _ _ _ _ _ _ => r0
  have o : Only [pd, rcd, scd] H H4 := fun a x na e => by
    simp only [List.mem_cons, List.not_mem_nil, or_false, not_or] at na
    exact o4 a x (by simpa using na.2.2) (le3 _ _ (o2 a x (by simpa using na.2.1) (le1 _ _ e)))
  have kk : KeepI H H4 := ((((KeepI.refl H).le le1).trans k2).le le3).trans k4
  have oS : ∀ z, Only [pd] H4 (H4.set pd z) := fun z => Only.set _ (Only.refl _ _) (List.mem_singleton.mpr rfl)
  have kS : ∀ z, KeepI H4 (H4.set pd z) := fun z => KeepI.set (KeepI.refl _) e2d nimm_pair
  exact k _ _ _ _ (by walk_at "om") (Only.set _ o (by simp)) (KeepI.set kk e2 nimm_pair) ⟨_, by walk_at "lk", by walk_at "lk"⟩ (hr4.only (oS _) (kS _) (by simpa using Ne.symm ne1)) (hC4.only (oS _) (kS _) (by simpa using Ne.symm ne2)) r0.pop
end
section
variable {prog : Program} {w : World} {A : Around} {H0 h : Heap} {fs : List (Nat × Map)} {H : PH} {n : Nat} {L : Nat} {m : Map} {g : Array GenState} {d : Drawn} {tk : Nat} {os : OsState} {bb : Nat}
  {E : Value → Shared → Prop} {Q : Value → Shared → Prop}
theorem key_phase_ct {expr : Bool} {p pd rc rcd sc : Nat} {ask : Bool} {suite version kp : Int} {sec hpk : List UInt8}
    (G : Gd (KK w.params) H0) (hz : H0.objs.size ≤ n) (O : Ok A 3) (R : RC w.params H0 ((L, m) :: fs) H n h) (hp : PairV H p pd rc sc ask) (hr : CtxAt H rc rcd suite version kp sec hpk)
    (k : ∀ t h' n' tk', n ≤ n' → RC w.params H0 ((L, m) :: fs) H n' h' → Q (.int (if ask then flipI kp else kp) t) ⟨h', g, d, tk', os⟩) :
    wpAny (model prog w) A (getAttr (.ref p) "key_phase" expr) Q E ⟨h, g, d, tk, os⟩ := by
  refine' PairV.el hp ?_
  intro t e1 e2
  refine' CtxAt.el hr ?_
  intro a hp' t1 t2 t3 t4 f1 f2 hA hB
  refine' r_prop R G e1 e2 ?hg ?hh ?hf ?hs ?ht ?hr ?_
  case hg => k_is
  case hh => k_is
  case hf => k_is
  case hs => k_is
  case ht => k_is
  case hr => k_is
  intro tk'
  have O1 : Ok A.in1 2 := O.in1 (by decide)
  refine' r_enter (binds := [("self", .ref p)]) R ?G hz O1.room ?ho ?hcd ?hbind ?hloc ?_ ?hco ?hgen ?hk ?hcell
  walk_at "def"
  intro L' h₁ tk₁ hl R'
  refine wpAny_mono (E := fun _ _ => False) (Q := fun fl s' => handedIn (match fl with | .ret v => v | _ => .none) = true ∧ Q (match fl with | .ret v => v | _ => .none) s') ?_ (fun _ _ q => q) (fun _ _ q => q.elim)
  walk_at "7"
  cases ask with
  | true =>
    walk_at "18"
    · rfl
    · rename RC _ _ _ _ _ _ => r0
      exact k _ _ _ _ (by walk_at "om") r0.pop
  | false =>
    walk_at "9"
    · rfl
    · rename RC _ _ _ _ _ _ => r0
      exact k _ _ _ _ (by walk_at "om") r0.pop
theorem pair_enc_ct {p pd rc rcd sc scd : Nat} {ask : Bool} {suite version kpR kpS pn : Int} {secR hpR secS hpS ph pp : List UInt8} {t1 t2 t3 : Tok}
    (G : Gd (KK w.params) H0) (hz : H0.objs.size ≤ n) (O : Ok A 12) (R : RC w.params H0 fs H n h) (hp : PairV H p pd rc sc ask) (hr : CtxAt H rc rcd suite version kpR secR hpR) (hsd : CtxAt H sc scd suite version kpS secS hpS) (hne : rcd ≠ scd)
    (hs : Suite suite) (l1 : SecOk (bb + 2) secR) (l2 : SecOk (bb + 2) secS) (l3 : 6 ≤ hpS.length) (l4 : hpS.length < 256)
    (hno : ∀ s, NonceOk (ivB suite version s) pn) (l5 : ph.length < 256) (l6 : (ph.getD 0 0).toNat % 4 + 1 ≤ ph.length) (l7 : pp.length < 256)
    (k : ∀ t H' h' n' tk', n ≤ n' → Only [pd, rcd, scd] H H' → KeepI H H' → PairV H' p pd rc sc false → CtxAt H' rc rcd suite version (if ask then flipI kpR else kpR) (if ask then nextB suite version secR else secR) hpR →
      CtxAt H' sc scd suite version (if ask then flipI kpS else kpS) (if ask then nextB suite version secS else secS) hpS → RC w.params H0 fs H' n' h' → Q (.bytes (encB suite version (if ask then nextB suite version secS else secS) hpS ph pp pn).toArray t) ⟨h', g, d, tk', os⟩) :
    wpP (model prog w) A (call (.ref 304) [.ref p, .bytes ph.toArray t1, .bytes pp.toArray t2, .int pn t3]) Q E ⟨h, g, d, tk, os⟩ := by
  refine' PairV.el hp ?_
  intro t e1 e2
  refine' P_def (binds := [("self", .ref p), ("plain_header", .bytes ph.toArray t1), ("plain_payload", .bytes pp.toArray t2), ("packet_number", .int pn t3)]) R ?G hz O.room ?ho ?hcd ?hbind ?hloc ?_ ?hco ?hgen ?hk ?hcell
  walk_at "def"
  intro L' h₁ tk₁ hl R'
  refine' P_execs_consA ?_
  walk_at "6"
  cases ask with
  | true =>
    walk_at "11"
    rename RC _ _ _ _ _ _ => r0
    refine' update_ct (bb := bb) G (by walk_at "om") (O.deep (by decide)) r0 hp hr hsd hne hs l1 l2 ?_
    intro H1 h' n' tk' hn o1 k1 hp1 hr1 hs1 r1
    clear r0
    refine' PairV.el hp1 ?_
    intro t' e3 e4
    walk_at "1"
    refine' P_execs_cons ?_
    refine' P_Return_some ?_
    refine' P_methodCall ?_ ?he
    case he => exact rfl
    refine' CtxAt.el hs1 ?_
    intro a hp' v1 v2 v3 v4 f1 f2 hA hB
    walk_at "4"
    refine' P_callK (K := (KK w.params)) ?hk ?_ ?he ?hp
    case he => exact rfl
    case hp => exact rfl
    case hk => k_is
    walk_at "8"
    rename RC _ _ _ _ _ _ => r0
    refine' ctx_enc_ct (bb := bb + 1) G (by walk_at "om") (O.deep (by decide)) r0 hs1 hs l2.next l3 l4 (hno _) l5 l6 l7 ?_
    intro t h' n' tk' hn r1
    exact k _ _ _ _ _ (by walk_at "om") o1 k1 hp1 hr1 hs1 r1.pop
  | false =>
    walk_at "2"
    refine' P_execs_cons ?_
    refine' P_Return_some ?_
    refine' P_methodCall ?_ ?he
    case he => exact rfl
    refine' CtxAt.el hsd ?_
    intro a hp' v1 v2 v3 v4 f1 f2 hA hB
    walk_at "4"
    refine' P_callK (K := (KK w.params)) ?hk ?_ ?he ?hp
    case he => exact rfl
    case hp => exact rfl
    case hk => k_is
    walk_at "8"
    rename RC _ _ _ _ _ _ => r0
    refine' ctx_enc_ct (bb := bb + 2) G (by walk_at "om") (O.deep (by decide)) r0 hsd hs l2 l3 l4 (hno _) l5 l6 l7 ?_
    intro t h' n' tk' hn r1
    exact k _ _ _ _ _ (by walk_at "om") (Only.refl _ _) (KeepI.refl _) hp hr hsd r1.pop
end
section
variable {prog : Program} {w : World} {A : Around} {H0 h : Heap} {fs : List (Nat × Map)} {H : PH} {n : Nat} {L : Nat} {m : Map} {g : Array GenState} {d : Drawn} {tk : Nat} {os : OsState} {bb : Nat}
  {E : Value → Shared → Prop} {Q : Value → Shared → Prop}
theorem aead_dec_ok_ct {x : Nat} {name key iv data assoc y : List UInt8} {pn : Int} {t1 t2 t3 : Tok}
    (G : Gd (KK w.params) H0) (hz : H0.objs.size ≤ n) (O : Ok A 4) (R : RC w.params H0 fs H n h) (ha : AeadAt H x name key iv) (hno : NonceOk iv pn)
    (l1 : name.length < 256) (l2 : key.length < 256) (l4 : data.length < 10000) (l5 : assoc.length < 256) (ho : openB name key (nonceB iv pn) data assoc = some y)
    (k : ∀ t h' n' tk', n ≤ n' → RC w.params H0 fs H n' h' → Q (.bytes y.toArray t) ⟨h', g, d, tk', os⟩) :
    wpAny (model prog w) A (call (.ref 55) [.ref x, .bytes data.toArray t1, .bytes assoc.toArray t2, .int pn t3]) Q E ⟨h, g, d, tk, os⟩ := by
  have ha' := ha
  refine' AeadAt.el ha ?_
  intro dx u1 u2 u3 e1 e2
  refine' r_def (binds := [("self", .ref x), ("data", .bytes data.toArray t1), ("associated_data", .bytes assoc.toArray t2), ("packet_number", .int pn t3)]) R ?G hz O.room ?ho ?hcd ?hbind ?hloc ?_ ?hco ?hgen ?hk ?hcell
  walk_at "def"
  intro L' h₁ tk₁ hl R'
  walk_at "25"
  rename RC _ _ _ _ _ _ => r0
  refine' nonce_ct G (by walk_at "om") (O.deep (by decide)) r0 ha' hno.1 hno.2 ?_
  intro t h' n' tk' hn r1
  clear r0
  walk_at "6"
  rename RC _ _ _ _ _ _ => r0
  refine' prim_open_ct G (by walk_at "om") (O.deep (by decide)) r0 l1 l2 (by rw [toBE_length]; decide) l4 l5 ?_
  intro v h' n' tk' hv hn r1
  clear r0
  have hv' : OptB v (some y) := by rw [← ho]; exact hv
  obtain ⟨tv, rfl⟩ := hv'
  walk_at "13"
  rename RC _ _ _ _ _ _ => r0
  exact k _ _ _ _ (by walk_at "om") (r0.pop.weak (by walk_at "le"))
theorem bnt {b : Bool} (h : (!b) = true) : b = false := by cases b <;> simp_all
theorem bnf {b : Bool} (h : ¬ (!b) = true) : b = true := by cases b <;> simp_all
noncomputable def dHdr (suite : Int) (hpk packet : List UInt8) (off : Nat) : List UInt8 := unHdr (hname suite) hpk packet off
noncomputable def dFb (suite : Int) (hpk packet : List UInt8) (off : Nat) : UInt8 := (dHdr suite hpk packet off).getD (Int.toNat 0) 0
noncomputable def dNum (suite : Int) (hpk packet : List UInt8) (off : Nat) (ex : Int) : Int := decodeI (unTrunc (hname suite) hpk packet off : Nat) (((((dFb suite hpk packet off).toNat % 4 : Nat) : Int) + 1) * 8) ex
noncomputable def phaseI (fb : UInt8) : Int := (Builtin.bitAnd ((fb.toNat : Nat) : Int) 4).fdiv (2 ^ Int.toNat 2)
noncomputable def dNext (suite : Int) (hpk packet : List UInt8) (off : Nat) (kp : Int) : Bool := !(decide (128 ≤ (dFb suite hpk packet off).toNat)) && decide (phaseI (dFb suite hpk packet off) ≠ kp)
noncomputable def dSec (suite version : Int) (hpk packet : List UInt8) (off : Nat) (kp : Int) (secret : List UInt8) : List UInt8 := if dNext suite hpk packet off kp then nextB suite version secret else secret
theorem ctx_dec_ok_ct {c cd : Nat} {suite version kp ex : Int} {secret hpk packet y : List UInt8} {off : Nat} {t1 t2 t3 : Tok}
    (G : Gd (KK w.params) H0) (hz : H0.objs.size ≤ n) (O : Ok A 10) (R : RC w.params H0 fs H n h) (hc : CtxAt H c cd suite version kp secret hpk) (hs : Suite suite) (l1 : SecOk (bb + 2) secret) (l2 : 6 ≤ hpk.length) (l3 : hpk.length < 256)
    (l4 : packet.length < 10000) (l5 : off + 20 ≤ packet.length) (l6 : (dHdr suite hpk packet off).length < 256) (hno : ∀ s, NonceOk (ivB suite version s) (dNum suite hpk packet off ex))
    (ho : openB (aname suite) (keyB suite version (dSec suite version hpk packet off kp secret)) (nonceB (ivB suite version (dSec suite version hpk packet off kp secret)) (dNum suite hpk packet off ex)) (packet.drop (dHdr suite hpk packet off).length) (dHdr suite hpk packet off) = some y)
    (k : ∀ (a : Nat) u1 u2 u3 H' h' n' tk', n ≤ n' → H.le H' → H' a = some (.tup [.bytes (dHdr suite hpk packet off).toArray u1, .bytes y.toArray u2, .int (dNum suite hpk packet off ex) u3, .bool (dNext suite hpk packet off kp)]) → RC w.params H0 fs H' n' h' → Q (.ref a) ⟨h', g, d, tk', os⟩) :
    wpP (model prog w) A (call (.ref 226) [.ref c, .bytes packet.toArray t1, .int (off : Nat) t2, .int ex t3]) Q E ⟨h, g, d, tk, os⟩ := by
  refine' CtxAt.el hc ?_
  intro a hp u1 u2 u3 u4 e1 e2 hA hB
  refine' HpAt.el hB ?_
  intro dB w4 w5 b1 b2
  refine' P_def (binds := [("self", .ref c), ("packet", .bytes packet.toArray t1), ("encrypted_offset", .int (off : Nat) t2), ("expected_packet_number", .int ex t3)]) R ?G hz O.room ?ho ?hcd ?hbind ?hloc ?_ ?hco ?hgen ?hk ?hcell
  walk_at "def"
  intro L' h₁ tk₁ hl R'
  refine' P_execs_consA ?_
  walk_at "10"
  refine' P_execs_cons ?_
  refine' P_Assign_Tuple ?_ ?hs ?hw
  case hs => exact rfl
  case hw => exact rfl
  refine' P_methodCall ?_ ?he
  case he => exact rfl
  walk_at "4"
  refine' P_callK (K := (KK w.params)) ?hk ?_ ?he ?hp
  case he => exact rfl
  case hp => exact rfl
  case hk => k_is
  walk_at "6"
  rename RC _ _ _ _ _ _ => r0
  refine' remove_ct G (by walk_at "om") (O.deep (by decide)) r0 hB hs.hnl l2 l3 l4 l5 ?_
  intro a' u1' u2' H1 h' n' tk' hn le1 hT r1
  clear r0
  refine' AeadAt.el hA ?_
  intro dA w1 w2 w3 a1 a2
  have e1a := le1 _ _ e1
  have e2a := le1 _ _ e2
  have hc1 := hc.le le1
  have hA1 := hA.keep (fun b z _ e => le1 b z e)
  have a1a := le1 _ _ a1
  have a2a := le1 _ _ a2
  have lh : (unHdr (hname suite) hpk packet off).length = off + unLen (hname suite) hpk packet off := by
    unfold unHdr
    rw [List.length_take, maskRun_length]
    have : (unFirst (hname suite) hpk packet off).length = packet.length := maskFirst_length _ _
    have : unLen (hname suite) hpk packet off ≤ 4 := by unfold unLen; walk_at "om"
    walk_at "om"
  have lL : 1 ≤ unLen (hname suite) hpk packet off ∧ unLen (hname suite) hpk packet off ≤ 4 := by unfold unLen; walk_at "om"
  have ll : (unHdr (hname suite) hpk packet off).length ≤ packet.length := by walk_at "om"
  walk_at "8"
  refine' P_any ?_
  walk_at "33"
  rename RC _ _ _ _ _ _ => r0
  refine' decode_ct G (by walk_at "om") (O.deep (by decide)) r0 (by walk_at "om") (by walk_at "om") ?_
  intro u5 h' n' tk' hn2 r1
  clear r0
  walk_at "16"
  rename RC _ _ _ _ _ _ => r0
  refine' islong_ct G (by walk_at "om") (O.deep (by decide)) r0 ?_
  intro h' n' tk' hn3 r1
  clear r0
  walk_at "1"
  split
  · rename_i q1
    have q1' : decide (128 ≤ (dFb suite hpk packet off).toNat) = false := bnt q1
    walk_at "19"
    split
    · rename_i q2
      have q2' : decide (phaseI (dFb suite hpk packet off) ≠ kp) = true := q2
      have eN : dNext suite hpk packet off kp = true := by unfold dNext; rw [q1', q2']; rfl
      walk_at "9"
      rename RC _ _ _ _ _ _ => r0
      refine' next_ct (bb := bb) G (by walk_at "om") (O.deep (by decide)) r0 hc1 hs l1 ?_
      intro c2 cd2 H2 h' n' tk' hc2 hcd2 hn4 le2 hC2 r1
      clear r0
      have cne : c ≠ c2 := by have := R.lt e1; walk_at "om"
      have LE : H.le H2 := PH.le_trans le1 le2
      have g1 := le2 _ _ e1a
      have hd2 : dSec suite version hpk packet off kp secret = nextB suite version secret := by unfold dSec; rw [eN]; rfl
      refine' CtxAt.el hC2 ?_
      intro a2 hp2 v1 v2 v3 v4 f1 f2 hAx hBx
      refine' AeadAt.el hAx ?_
      intro dA2 x1 x2 x3 y1 y2
      have lkx := keyB_length (suite := suite) (version := version) (SecOk.next (suite := suite) (version := version) l1)
      have ho' := ho
      rw [hd2] at ho'
      walk_at "32"
      rename RC _ _ _ _ _ _ => r0
      have lkz := keySize_in suite
      refine' aead_dec_ok_ct G (by walk_at "om") (O.deep (by decide)) r0 hAx (hno _) hs.anl (by walk_at "om") (by rw [List.length_drop]; walk_at "om") l6 ho' ?_
      intro u6 h' n' tk' hn6 r1
      clear r0
      walk_at "17"
      rename RC _ _ _ _ _ _ => r0
      rw [eN] at k
      exact k _ _ _ _ _ _ _ _ (by walk_at "om") (PH.le_new LE (R.none_new (by walk_at "om"))) (PH.set_self _ _ _) r0.pop
    · rename_i q2
      have q2' : decide (phaseI (dFb suite hpk packet off) ≠ kp) = false := Bool.eq_false_iff.mpr q2
      have eN : dNext suite hpk packet off kp = false := by unfold dNext; rw [q1', q2']; rfl
      have LE := le1
      have hAx := hA1
      have hd2 : dSec suite version hpk packet off kp secret = secret := by unfold dSec; rw [eN]; rfl
      have lkx := keyB_length (suite := suite) (version := version) l1
      have ho' := ho
      rw [hd2] at ho'
      walk_at "31"
      rename RC _ _ _ _ _ _ => r0
      have lkz := keySize_in suite
      refine' aead_dec_ok_ct G (by walk_at "om") (O.deep (by decide)) r0 hAx (hno _) hs.anl (by walk_at "om") (by rw [List.length_drop]; walk_at "om") l6 ho' ?_
      intro u6 h' n' tk' hn6 r1
      clear r0
      walk_at "17"
      rename RC _ _ _ _ _ _ => r0
      rw [eN] at k
      exact k _ _ _ _ _ _ _ _ (by walk_at "om") (PH.le_new LE (R.none_new (by walk_at "om"))) (PH.set_self _ _ _) r0.pop
  · rename_i q1
    have q1' : decide (128 ≤ (dFb suite hpk packet off).toNat) = true := bnf q1
    have eN : dNext suite hpk packet off kp = false := by unfold dNext; rw [q1']; rfl
    have LE := le1
    have hAx := hA1
    have hd2 : dSec suite version hpk packet off kp secret = secret := by unfold dSec; rw [eN]; rfl
    have lkx := keyB_length (suite := suite) (version := version) l1
    have ho' := ho
    rw [hd2] at ho'
    walk_at "30"
    rename RC _ _ _ _ _ _ => r0
    have lkz := keySize_in suite
    refine' aead_dec_ok_ct G (by walk_at "om") (O.deep (by decide)) r0 hAx (hno _) hs.anl (by walk_at "om") (by rw [List.length_drop]; walk_at "om") l6 ho' ?_
    intro u6 h' n' tk' hn6 r1
    clear r0
    walk_at "17"
    rename RC _ _ _ _ _ _ => r0
    rw [eN] at k
    exact k _ _ _ _ _ _ _ _ (by walk_at "om") (PH.le_new LE (R.none_new (by walk_at "om"))) (PH.set_self _ _ _) r0.pop
end
namespace Pl
theorem u8_128 (f m : UInt8) (h : m.toNat < 128) : (128 ≤ (f ^^^ m).toNat) ↔ (128 ≤ f.toNat) := by
  have t : ∀ n : Nat, n < 256 → (128 ≤ n ↔ n.testBit 7 = true) := by
    intro n hn
    rw [Nat.testBit_eq_decide_div_mod_eq, decide_eq_true_iff]
    walk_at "om"
  rw [t _ (UInt8.toNat_lt _), t _ (UInt8.toNat_lt _), UInt8.toNat_xor, Nat.testBit_xor]
  have : m.toNat.testBit 7 = false := Nat.testBit_lt_two_pow h
  rw [this, Bool.xor_false]
noncomputable def mk (M : List UInt8) (f : UInt8) : UInt8 := f ^^^ (M.getD 0 0 &&& (if 128 ≤ f.toNat then 15 else 31))
theorem and_lt (a b : UInt8) (h : b.toNat < 128) : (a &&& b).toNat < 128 := by
  rw [UInt8.toNat_and]; exact Nat.lt_of_le_of_lt Nat.and_le_right h
theorem mk_128 (M : List UInt8) (f : UInt8) : (128 ≤ (mk M f).toNat) ↔ (128 ≤ f.toNat) := by
  unfold mk
  refine u8_128 _ _ (and_lt _ _ ?_)
  split <;> decide
theorem mk_mk (M : List UInt8) (f : UInt8) : mk M (mk M f) = f := by
  have h := mk_128 M f
  by_cases c : 128 ≤ f.toNat
  · have c' := h.mpr c
    unfold mk at c' ⊢
    rw [if_pos c] at c' ⊢
    rw [if_pos c', UInt8.xor_assoc, UInt8.xor_self, UInt8.xor_zero]
  · have c' : ¬ 128 ≤ (mk M f).toNat := fun q => c (h.mp q)
    unfold mk at c' ⊢
    rw [if_neg c] at c' ⊢
    rw [if_neg c', UInt8.xor_assoc, UInt8.xor_self, UInt8.xor_zero]
theorem xx (a b : UInt8) : a ^^^ b ^^^ b = a := by rw [UInt8.xor_assoc, UInt8.xor_self, UInt8.xor_zero]
theorem getD_eq (l : List UInt8) (j : Nat) (h : j < l.length) : l[j]? = some (l.getD j 0) := by
  rw [List.getElem?_eq_getElem h, List.getD_eq_getElem?_getD, List.getElem?_eq_getElem h]; rfl
theorem maskFirst_get (b M : List UInt8) (j : Nat) (hb : 0 < b.length) : (maskFirst b M)[j]? = if j = 0 then some (mk M (b.getD 0 0)) else b[j]? := by
  unfold maskFirst mk
  rw [List.getElem?_set]
  by_cases q : j = 0
  · subst q; simp [hb]
  · rw [if_neg (Ne.symm q), if_neg q]
theorem maskRun_get (b : List UInt8) (off : Nat) (M : List UInt8) : ∀ (k j : Nat), off + k ≤ b.length → (maskRun b off M k)[j]? = if off ≤ j ∧ j < off + k then some (b.getD j 0 ^^^ M.getD (1 + (j - off)) 0) else b[j]?
  | 0, j, _ => by rw [maskRun, if_neg (by walk_at "om")]
  | k + 1, j, h => by
    rw [maskRun, List.getElem?_set, maskRun_length]
    have ih := fun j => maskRun_get b off M k j (by walk_at "om")
    by_cases q : off + k = j
    · subst q
      have : (maskRun b off M k).getD (off + k) 0 = b.getD (off + k) 0 := by
        rw [List.getD_eq_getElem?_getD, ih, if_neg (by walk_at "om"), ← List.getD_eq_getElem?_getD]
      rw [if_pos rfl, if_pos (by walk_at "om"), if_pos (by walk_at "om"), this]
      simp
    · rw [if_neg q, ih]
      by_cases c : off ≤ j ∧ j < off + k
      · rw [if_pos c, if_pos (by walk_at "om")]
      · rw [if_neg c, if_neg (by walk_at "om")]
theorem maskRun_get0 {b : List UInt8} {off : Nat} {M : List UInt8} (h : 0 < off) : ∀ {k : Nat}, (maskRun b off M k)[0]? = b[0]?
  | 0 => rfl
  | k + 1 => by rw [maskRun, List.getElem?_set, if_neg (by walk_at "om")]; exact maskRun_get0 h
noncomputable def both (M b : List UInt8) (off k : Nat) : List UInt8 := maskRun (maskFirst b M) off M k
theorem both_length (M b : List UInt8) (off k : Nat) : (both M b off k).length = b.length := by rw [both, maskRun_length, maskFirst_length]
theorem both_get (M b : List UInt8) (off k j : Nat) (h1 : 1 ≤ off) (h2 : off + k ≤ b.length) :
    (both M b off k)[j]? = if j = 0 then some (mk M (b.getD 0 0)) else if off ≤ j ∧ j < off + k then some (b.getD j 0 ^^^ M.getD (1 + (j - off)) 0) else b[j]? := by
  unfold both
  rw [maskRun_get _ _ _ _ _ (by rw [maskFirst_length]; exact h2)]
  by_cases q : j = 0
  · rw [if_neg (by walk_at "om"), if_pos q, maskFirst_get _ _ _ (by walk_at "om"), if_pos q]
  · rw [if_neg q]
    have e : (maskFirst b M)[j]? = b[j]? := by rw [maskFirst_get _ _ _ (by walk_at "om"), if_neg q]
    by_cases c : off ≤ j ∧ j < off + k
    · rw [if_pos c, if_pos c, List.getD_eq_getElem?_getD, e, ← List.getD_eq_getElem?_getD]
    · rw [if_neg c, if_neg c, e]
theorem both_both (M b : List UInt8) (off k : Nat) (h1 : 1 ≤ off) (h2 : off + k ≤ b.length) : both M (both M b off k) off k = b := by
  refine List.ext_getElem? fun j => ?_
  have hl := both_length M b off k
  rw [both_get _ _ _ _ _ h1 (by rw [hl]; exact h2)]
  have g0 : (both M b off k).getD 0 0 = mk M (b.getD 0 0) := by rw [List.getD_eq_getElem?_getD, both_get _ _ _ _ _ h1 h2, if_pos rfl]; rfl
  by_cases q : j = 0
  · subst q; rw [if_pos rfl, g0, mk_mk, getD_eq _ _ (by walk_at "om")]
  · rw [if_neg q]
    by_cases c : off ≤ j ∧ j < off + k
    · rw [if_pos c, getD_eq b j (by walk_at "om")]
      have : (both M b off k).getD j 0 = b.getD j 0 ^^^ M.getD (1 + (j - off)) 0 := by rw [List.getD_eq_getElem?_getD, both_get _ _ _ _ _ h1 h2, if_neg q, if_pos c]; rfl
      rw [this, xx]
    · rw [if_neg c, both_get _ _ _ _ _ h1 h2, if_neg q, if_neg c]
theorem both_take (M b c : List UInt8) (off k n : Nat) (h1 : 1 ≤ off) (h2 : off + k ≤ b.length) (h3 : off + k ≤ c.length) (e : b.take n = c.take n) : (both M b off k).take n = (both M c off k).take n := by
  have g : ∀ j, j < n → b[j]? = c[j]? := fun j hj => by rw [← List.getElem?_take_of_lt hj, e, List.getElem?_take_of_lt hj]
  refine List.ext_getElem? fun j => ?_
  by_cases hj : j < n
  · rw [List.getElem?_take_of_lt hj, List.getElem?_take_of_lt hj, both_get _ _ _ _ _ h1 h2, both_get _ _ _ _ _ h1 h3]
    have gj := g j hj
    have g0 := g 0 (by walk_at "om")
    simp only [List.getD_eq_getElem?_getD, gj, g0]
  · rw [List.getElem?_eq_none (by rw [List.length_take]; walk_at "om"), List.getElem?_eq_none (by rw [List.length_take]; walk_at "om")]
theorem truncRun_eq (b : List UInt8) (off : Nat) (M : List UInt8) : ∀ k, off + k ≤ b.length → truncRun b off M k = beI (((maskRun b off M k).drop off).take k)
  | 0, _ => rfl
  | k + 1, h => by
    have ih := truncRun_eq b off M k (by walk_at "om")
    have e : ((maskRun b off M (k + 1)).drop off).take (k + 1) = ((maskRun b off M k).drop off).take k ++ [(maskRun b off M (k + 1)).getD (off + k) 0] := by
      rw [List.take_add_one]
      congr 1
      · refine List.ext_getElem? fun j => ?_
        by_cases hj : j < k
        · rw [List.getElem?_take_of_lt hj, List.getElem?_take_of_lt hj, List.getElem?_drop, List.getElem?_drop, maskRun_get _ _ _ _ _ h, maskRun_get _ _ _ _ _ (by walk_at "om"), if_pos (by walk_at "om"), if_pos (by walk_at "om")]
        · rw [List.getElem?_eq_none (by rw [List.length_take]; walk_at "om"), List.getElem?_eq_none (by rw [List.length_take]; walk_at "om")]
      · rw [List.getElem?_drop, getD_eq _ _ (by rw [maskRun_length]; walk_at "om")]; rfl
    rw [truncRun, ih, e, beI_app]
    simp only [List.length_cons, List.length_nil, Nat.zero_add, Nat.pow_one]
    congr 1
    show _ = 0 * 256 + _
    walk_at "om"
section
variable {name key ph pp P' : List UInt8}
noncomputable def Mof (key : List UInt8) : List UInt8 := [key.getD 5 0, key.getD 4 0, key.getD 3 0, 255, 7]
theorem maskB_eq (name key s : List UInt8) : maskB name key s = Mof key := rfl
noncomputable def szOf (ph : List UInt8) : Nat := (ph.getD 0 0).toNat % 4 + 1
theorem apply_eq : applyB name key ph pp = both (Mof key) (ph ++ pp) (ph.length - szOf ph) (szOf ph) := rfl
theorem unLen_eq (off : Nat) (h : 0 < P'.length) : unLen name key P' off = (mk (Mof key) (P'.getD 0 0)).toNat % 4 + 1 := by
  unfold unLen unFirst
  rw [List.getD_eq_getElem?_getD, maskFirst_get _ _ _ h, if_pos rfl]; rfl
theorem unHdr_eq (off : Nat) : unHdr name key P' off = (both (Mof key) P' off (unLen name key P' off)).take (off + unLen name key P' off) := rfl
theorem unTrunc_eq (off : Nat) (h : off + unLen name key P' off ≤ P'.length) : unTrunc name key P' off = beI ((unHdr name key P' off).drop off) := by
  unfold unTrunc
  rw [truncRun_eq _ _ _ _ (by unfold unFirst; rw [maskFirst_length]; exact h)]
  rw [unHdr_eq, List.drop_take, Nat.add_sub_cancel_left]; rfl
theorem hdr_same (h1 : szOf ph < ph.length) (hl : ph.length ≤ P'.length) (e : P'.take ph.length = (applyB name key ph pp).take ph.length) :
    unLen name key P' (ph.length - szOf ph) = szOf ph ∧ unHdr name key P' (ph.length - szOf ph) = ph := by
  have hz : szOf ph ≤ 4 := by unfold szOf; walk_at "om"
  have hz1 : 1 ≤ szOf ph := by unfold szOf; walk_at "om"
  have f0 : P'.getD 0 0 = mk (Mof key) (ph.getD 0 0) := by
    have : P'[0]? = (applyB name key ph pp)[0]? := by rw [← List.getElem?_take_of_lt (show 0 < ph.length by walk_at "om"), e, List.getElem?_take_of_lt (by walk_at "om")]
    rw [List.getD_eq_getElem?_getD, this, apply_eq, both_get _ _ _ _ _ (by walk_at "om") (by rw [List.length_append]; walk_at "om"), if_pos rfl]
    show mk _ ((ph ++ pp).getD 0 0) = _
    rw [List.getD_eq_getElem?_getD, List.getElem?_append_left (by walk_at "om"), ← List.getD_eq_getElem?_getD]
  have hL : unLen name key P' (ph.length - szOf ph) = szOf ph := by rw [unLen_eq _ (by walk_at "om"), f0, mk_mk]; rfl
  refine ⟨hL, ?_⟩
  rw [unHdr_eq, hL, show ph.length - szOf ph + szOf ph = ph.length by walk_at "om"]
  rw [both_take (Mof key) P' (applyB name key ph pp) _ _ _ (by walk_at "om") (by walk_at "om") (by rw [apply_eq, both_length, List.length_append]; walk_at "om") e, apply_eq, both_both _ _ _ _ (by walk_at "om") (by rw [List.length_append]; walk_at "om")]
  exact List.take_left' rfl
theorem apply_length : (applyB name key ph pp).length = ph.length + pp.length := by rw [apply_eq, both_length, List.length_append]
theorem apply_drop (h1 : szOf ph < ph.length) : (applyB name key ph pp).drop ph.length = pp := by
  refine List.ext_getElem? fun j => ?_
  rw [List.getElem?_drop, apply_eq, both_get _ _ _ _ _ (by walk_at "om") (by rw [List.length_append]; walk_at "om"), if_neg (by walk_at "om"), if_neg (by walk_at "om"), List.getElem?_append_right (by walk_at "om"), Nat.add_sub_cancel_left]
theorem hdr_inj (h1 : szOf ph < ph.length) (hl : ph.length ≤ P'.length) (e : unHdr name key P' (ph.length - szOf ph) = ph) : P'.take ph.length = (applyB name key ph pp).take ph.length := by
  have hL : unLen name key P' (ph.length - szOf ph) = szOf ph := by
    have : (unHdr name key P' (ph.length - szOf ph)).length = (ph.length - szOf ph) + unLen name key P' (ph.length - szOf ph) ∨ P'.length < (ph.length - szOf ph) + unLen name key P' (ph.length - szOf ph) := by
      rw [unHdr_eq, List.length_take, both_length]; walk_at "om"
    have hz : (mk (Mof key) (P'.getD 0 0)) = ph.getD 0 0 := by
      have q : (unHdr name key P' (ph.length - szOf ph))[0]? = some (mk (Mof key) (P'.getD 0 0)) := by
        rw [unHdr_eq, List.getElem?_take_of_lt (by unfold unLen; walk_at "om")]
        unfold both
        rw [maskRun_get0 (by walk_at "om"), maskFirst_get _ _ _ (by walk_at "om"), if_pos rfl]
      rw [e, getD_eq _ _ (by walk_at "om")] at q
      exact (Option.some.inj q).symm
    rw [unLen_eq _ (by walk_at "om"), hz]; rfl
  rw [unHdr_eq, hL, show ph.length - szOf ph + szOf ph = ph.length by walk_at "om"] at e
  have : P' = both (Mof key) (both (Mof key) P' (ph.length - szOf ph) (szOf ph)) (ph.length - szOf ph) (szOf ph) := (both_both _ _ _ _ (by walk_at "om") (by walk_at "om")).symm
  rw [this, apply_eq]
  refine both_take _ _ _ _ _ _ (by walk_at "om") (by rw [both_length]; walk_at "om") (by rw [List.length_append]; walk_at "om") ?_
  rw [e, List.take_left' rfl]
end
end Pl
namespace Pl
theorem snoc_ind {p : List UInt8 → Prop} (h0 : p []) (h1 : ∀ l x, p l → p (l ++ [x])) : ∀ l, p l := by
  intro l
  rw [← List.reverse_reverse l]
  generalize l.reverse = r
  induction r with
  | nil => exact h0
  | cons x r ih => rw [List.reverse_cons]; exact h1 _ _ ih
theorem toBE_beI : ∀ (l : List UInt8), toBE l.length (beI l) = l := by
  refine snoc_ind rfl fun l x ih => ?_
  · skip
    rw [List.length_append, beI_app]
    show toBE (l.length + 1) (beI l * 256 ^ 1 + beI [x]) = _
    have e : beI [x] = x.toNat := by show 0 * 256 + x.toNat = _; lia
    have hx := x.toNat_lt
    rw [toBE, e, show (beI l * 256 ^ 1 + x.toNat) / 256 = beI l by omega, show (beI l * 256 ^ 1 + x.toNat) % 256 = x.toNat by omega, ih]
    congr 2
    exact UInt8.ofNat_toNat
theorem beI_lt : ∀ (l : List UInt8), beI l < 256 ^ l.length := by
  refine snoc_ind (by decide) fun l x ih => ?_
  · skip
    rw [List.length_append, beI_app]
    have e : beI [x] = x.toNat := by show 0 * 256 + x.toNat = _; lia
    have hx := x.toNat_lt
    rw [e, show [x].length = 1 from rfl, Nat.pow_add]
    omega
theorem beI_inj {a b : List UInt8} (hl : a.length = b.length) (h : beI a = beI b) : a = b := by
  rw [← toBE_beI a, ← toBE_beI b, hl, h]
theorem toBE_inj {n x y : Nat} (hx : x < 256 ^ n) (hy : y < 256 ^ n) (h : toBE n x = toBE n y) : x = y := by
  rw [← beI_toBE n x hx, ← beI_toBE n y hy, h]
theorem nonce_eq (iv : List UInt8) (pn : Nat) : nonceB iv (pn : Int) = toBE 12 (beI iv ^^^ pn) := by
  unfold nonceB; rw [bitXor_nat, Int.toNat_natCast]
theorem nonce_ok {iv : List UInt8} (hl : iv.length = 12) {pn : Nat} (h : pn < 2 ^ 96) : NonceOk iv (pn : Int) := by
  unfold NonceOk
  rw [bitXor_nat, Int.toNat_natCast]
  refine ⟨by lia, ?_⟩
  have h1 := beI_lt iv
  rw [hl] at h1
  have e : (256 : Nat) ^ 12 = 2 ^ 96 := by decide
  rw [e] at h1 ⊢
  exact Nat.xor_lt_two_pow h1 h
theorem nonce_inj {iv iv' : List UInt8} (hl : iv.length = 12) (hl' : iv'.length = 12) {pn : Nat} (h : pn < 2 ^ 96) (e : nonceB iv (pn : Int) = nonceB iv' (pn : Int)) : iv = iv' := by
  rw [nonce_eq, nonce_eq] at e
  have h1 := beI_lt iv
  have h2 := beI_lt iv'
  rw [hl] at h1
  rw [hl'] at h2
  have e12 : (256 : Nat) ^ 12 = 2 ^ 96 := by decide
  rw [e12] at h1 h2
  have := toBE_inj (n := 12) (by rw [e12]; exact Nat.xor_lt_two_pow h1 h) (by rw [e12]; exact Nat.xor_lt_two_pow h2 h) e
  refine beI_inj (by lia) ?_
  have q := congrArg (· ^^^ pn) this
  simpa [Nat.xor_assoc] using q
noncomputable def secB (suite : Int) (x : Nat) : List UInt8 := toBE 6 x ++ List.replicate ((algI suite).toNat - 6) 0
theorem secB_length (suite : Int) (x : Nat) : (secB suite x).length = (algI suite).toNat := by
  have := algI_in suite
  rw [secB, List.length_append, toBE_length, List.length_replicate]; lia
theorem secB_take (suite : Int) (x : Nat) : (secB suite x).take 6 = toBE 6 x := List.take_left' (toBE_length _ _)
theorem secB_ok {suite : Int} {x b : Nat} (h : x + b < 256 ^ 6) : SecOk b (secB suite x) := by
  have := algI_in suite
  refine ⟨by rw [secB_length]; omega, by rw [secB_length]; omega, ?_⟩
  rw [secB_take, beI_toBE _ _ (by omega)]; exact h
theorem next_sec {suite version : Int} {x : Nat} (h : x + 1 < 256 ^ 6) : nextB suite version (secB suite x) = secB suite (x + 1) := by
  have := algI_in suite
  rw [nextB_eq, secB_take, beI_toBE _ _ (by omega), secB_length, List.take_of_length_le (by rw [secB_length]; lia)]
  rw [Nat.sub_self, List.replicate_zero, List.append_nil]
  unfold secB
  rw [List.drop_left' (toBE_length _ _)]
theorem keyB_take {suite version : Int} {x : Nat} (h : x < 256 ^ 6) : (keyB suite version (secB suite x)).take 6 = toBE 6 x := by
  have hk := keySize_in suite
  unfold keyB expandB
  rw [if_neg (by cases isV2 version <;> decide), secB_take, beI_toBE _ _ h, List.take_take, List.append_assoc, Nat.min_eq_left (by omega), List.take_left' (toBE_length _ _)]
theorem ivB_take {suite version : Int} {x : Nat} (h : x < 256 ^ 6) : (ivB suite version (secB suite x)).take 6 = toBE 6 x := by
  unfold ivB expandB
  rw [if_neg (by cases isV2 version <;> decide), secB_take, beI_toBE _ _ h, List.take_take, List.append_assoc, Nat.min_eq_left (by omega), List.take_left' (toBE_length _ _)]
theorem key_len (suite version : Int) (s : List UInt8) : (keyB suite version s).length = (keySize suite).toNat := expandB_length (by cases isV2 version <;> decide)
theorem iv_len (suite version : Int) (s : List UInt8) : (ivB suite version s).length = 12 := expandB_length (by cases isV2 version <;> decide)
theorem hp_len (suite version : Int) (s : List UInt8) : (hpB suite version s).length = (keySize suite).toNat := expandB_length (by cases isV2 version <;> decide)
theorem key_ne {suite version : Int} {x y : Nat} (hx : x < 256 ^ 6) (hy : y < 256 ^ 6) (h : x ≠ y) : keyB suite version (secB suite x) ≠ keyB suite version (secB suite y) := fun q =>
  h (toBE_inj hx hy (by rw [← keyB_take (suite := suite) (version := version) hx, ← keyB_take (suite := suite) (version := version) hy, q]))
theorem iv_ne {suite version : Int} {x y : Nat} (hx : x < 256 ^ 6) (hy : y < 256 ^ 6) (h : x ≠ y) : ivB suite version (secB suite x) ≠ ivB suite version (secB suite y) := fun q =>
  h (toBE_inj hx hy (by rw [← ivB_take (suite := suite) (version := version) hx, ← ivB_take (suite := suite) (version := version) hy, q]))
theorem flip_mod (c : Nat) : flipI ((c % 2 : Nat) : Int) = (((c + 1) % 2 : Nat) : Int) := by
  unfold flipI
  rcases Nat.mod_two_eq_zero_or_one c with h | h
  · rw [h, show (c + 1) % 2 = 1 by omega]; rfl
  · rw [h, show (c + 1) % 2 = 0 by omega]; rfl
section
variable {name key nonce data assoc k2 n2 a2 D : List UInt8}
noncomputable def tailB (name key nonce assoc : List UInt8) (d : Nat) : List UInt8 := [name.length.toUInt8, key.length.toUInt8] ++ name ++ key ++ nonce ++ assoc ++ [assoc.length.toUInt8, d.toUInt8] ++ List.replicate 16 0
theorem seal_eq : sealB name key nonce data assoc = data ++ (data ++ tailB name key nonce assoc data.length) := by
  unfold sealB tailB; simp only [List.append_assoc]
theorem tailB_length {d : Nat} : (tailB name key nonce assoc d).length = name.length + key.length + nonce.length + assoc.length + 20 := by
  unfold tailB; simp only [List.length_append, List.length_cons, List.length_nil, List.length_replicate]; lia
theorem seal_length : (sealB name key nonce data assoc).length = 2 * data.length + name.length + key.length + nonce.length + assoc.length + 20 := by
  rw [seal_eq, List.length_append, List.length_append, tailB_length]; lia
theorem seal_at (hd : data.length < 256) : (sealB name key nonce data assoc).getD ((sealB name key nonce data assoc).length - 17) 0 = data.length.toUInt8 := by
  have hl := seal_length (name := name) (key := key) (nonce := nonce) (data := data) (assoc := assoc)
  have : sealB name key nonce data assoc = (data ++ data ++ [name.length.toUInt8, key.length.toUInt8] ++ name ++ key ++ nonce ++ assoc ++ [assoc.length.toUInt8]) ++ (data.length.toUInt8 :: List.replicate 16 0) := by
    unfold sealB; simp only [List.append_assoc, List.cons_append, List.nil_append]
  rw [hl, this, List.getD_eq_getElem?_getD, List.getElem?_append_right (by simp only [List.length_append, List.length_cons, List.length_nil]; lia)]
  rw [show 2 * data.length + name.length + key.length + nonce.length + assoc.length + 20 - 17 - (data ++ data ++ [name.length.toUInt8, key.length.toUInt8] ++ name ++ key ++ nonce ++ assoc ++ [assoc.length.toUInt8]).length = 0 by simp only [List.length_append, List.length_cons, List.length_nil]; lia]
  rfl
theorem u8n {n : Nat} (h : n < 256) : (n.toUInt8).toNat = n := by show (UInt8.ofNat n).toNat = n; rw [UInt8.toNat_ofNat']; lia
theorem cut_of {d : Nat} (hd : d < 256) (h17 : 17 ≤ D.length) (h : D.getD (D.length - 17) 0 = d.toUInt8) : cutB D = D.take d := by
  unfold cutB
  rw [show ((D.length : Int) - 17).toNat = D.length - 17 by omega, h, u8n hd, Int.toNat_natCast]
theorem cut_seal (hd : data.length < 256) : cutB (sealB name key nonce data assoc) = data := by
  rw [cut_of hd (by rw [seal_length]; lia) (seal_at hd), seal_eq, List.take_left' rfl]
theorem open_self (hd : data.length < 256) : openB name key nonce (sealB name key nonce data assoc) assoc = some data := by
  unfold openB
  rw [if_neg (by rw [seal_length]; lia), cut_seal hd, if_pos rfl]
theorem tail_inj {d d' : Nat} (h1 : k2.length = key.length) (h2 : n2.length = nonce.length) (h3 : a2.length = assoc.length) (h : tailB name k2 n2 a2 d = tailB name key nonce assoc d') : k2 = key ∧ n2 = nonce ∧ a2 = assoc := by
  unfold tailB at h
  simp only [List.append_assoc] at h
  have q1 := (List.append_inj h (by rfl)).2
  have q2 := (List.append_inj q1 rfl).2
  have q3 := List.append_inj q2 h1
  have q4 := List.append_inj q3.2 h2
  have q5 := List.append_inj q4.2 h3
  exact ⟨q3.1, q4.1, q5.1⟩
theorem open_other (hd : data.length < 256) (h1 : k2.length = key.length) (h2 : n2.length = nonce.length) (h3 : a2.length = assoc.length) (hne : ¬ (k2 = key ∧ n2 = nonce ∧ a2 = assoc)) :
    openB name k2 n2 (sealB name key nonce data assoc) a2 = none := by
  unfold openB
  rw [if_neg (by rw [seal_length]; lia), cut_seal hd, if_neg (fun q => hne ?_)]
  rw [seal_eq, seal_eq] at q
  exact tail_inj h1 h2 h3 (List.append_cancel_left (List.append_cancel_left q))
theorem open_size {d : Nat} (hd : d < 256) (h18 : 18 ≤ D.length) (hdD : d ≤ D.length) (h : D.getD (D.length - 17) 0 = d.toUInt8) (hne : 2 * d + name.length + k2.length + n2.length + a2.length + 20 ≠ D.length) :
    openB name k2 n2 D a2 = none := by
  unfold openB
  rw [if_neg (by omega), cut_of hd (by omega) h, if_neg (fun q => hne ?_)]
  have := congrArg List.length q
  rw [seal_length, List.length_take] at this
  lia
theorem set_drop {l : List UInt8} {i a : Nat} {v : UInt8} : (l.set i v).drop a = if i < a then l.drop a else (l.drop a).set (i - a) v := by
  rw [List.drop_set]
theorem set_self {l : List UInt8} {i : Nat} {v : UInt8} (hi : i < l.length) (h : l.set i v = l) : v = l.getD i 0 := by
  have q := congrArg (fun x : List UInt8 => x[i]?) h
  simp only [List.getElem?_set, if_pos hi, if_true] at q
  rw [getD_eq l i hi] at q
  exact Option.some.inj q
theorem open_turned {i : Nat} {v : UInt8} (hd : data.length < 256) (h1 : k2.length = key.length) (h2 : n2.length = nonce.length) (hi : i < (sealB name key nonce data assoc).length)
    (hv : v ≠ (sealB name key nonce data assoc).getD i 0) (hk : (k2 = key ∧ n2 = nonce) ∨ (k2 ≠ key ∧ n2 ≠ nonce)) :
    openB name k2 n2 ((sealB name key nonce data assoc).set i v) assoc = none := by
  unfold openB
  rw [if_neg (by rw [List.length_set, seal_length]; lia)]
  generalize hp : cutB _ = p
  rw [if_neg (fun q => ?_)]
  have hl := congrArg List.length q
  rw [List.length_set, seal_length, seal_length] at hl
  have hpl : p.length = data.length := by lia
  rw [seal_length] at hi
  have hS : sealB name key nonce data assoc = data ++ (data ++ tailB name key nonce assoc data.length) := seal_eq
  rw [seal_eq, hpl] at q
  rw [hS] at q hv
  have t1 : (data ++ (data ++ tailB name key nonce assoc data.length)).take data.length = data := List.take_left' rfl
  have d1 : (data ++ (data ++ tailB name key nonce assoc data.length)).drop data.length = data ++ tailB name key nonce assoc data.length := List.drop_left' rfl
  by_cases c1 : i < data.length
  · -- in the first telling
    rw [List.set_append_left _ _ c1] at q
    have q1 := List.append_inj q (by rw [List.length_set, hpl])
    have q2 := List.append_inj q1.2 hpl
    rw [q2.1] at q1
    have := set_self c1 q1.1.symm
    apply hv
    rw [this, List.getD_eq_getElem?_getD, List.getD_eq_getElem?_getD, List.getElem?_append_left c1]
  · rw [List.set_append_right _ _ (by lia)] at q
    have q1 := List.append_inj q hpl
    by_cases c2 : i - data.length < data.length
    · have q3 := q1.2
      rw [List.set_append_left _ _ c2] at q3
      have q2 := List.append_inj q3 (by rw [List.length_set, hpl])
      rw [q1.1] at q2
      have := set_self c2 q2.1.symm
      apply hv
      rw [this, List.getD_eq_getElem?_getD, List.getD_eq_getElem?_getD, List.getElem?_append_right (by omega), List.getElem?_append_left c2]
    · have q3 := q1.2
      rw [List.set_append_right _ _ (by omega)] at q3
      have q2 := (List.append_inj q3 hpl).2
      have hvv : v ≠ (tailB name key nonce assoc data.length).getD (i - data.length - data.length) 0 := by
        intro z; apply hv
        rw [z, List.getD_eq_getElem?_getD, List.getD_eq_getElem?_getD, List.getElem?_append_right (by omega), List.getElem?_append_right (by omega)]
      have htl := tailB_length (name := name) (key := key) (nonce := nonce) (assoc := assoc) (d := data.length)
      generalize hT : tailB name key nonce assoc data.length = T at q2 hvv htl
      generalize hj : i - data.length - data.length = j at q2 hvv
      have hjl : j < T.length := by rw [htl]; lia
      rcases hk with ⟨e1, e2⟩ | ⟨e1, e2⟩
      · rw [e1, e2, hT] at q2
        exact hvv (set_self hjl q2.symm)
      · have seg1 : (T.drop (2 + name.length)).take key.length = key := by
          rw [← hT]; unfold tailB
          simp only [List.append_assoc]
          rw [← List.append_assoc, List.drop_left' (by simp only [List.length_append, List.length_cons, List.length_nil] <;> omega), List.take_left' rfl]
        have seg1' : ((T.set j v).drop (2 + name.length)).take key.length = k2 := by
          rw [← q2]; unfold tailB
          simp only [List.append_assoc]
          rw [← List.append_assoc, List.drop_left' (by simp only [List.length_append, List.length_cons, List.length_nil] <;> omega), List.take_left' h1]
        have seg2 : (T.drop (2 + name.length + key.length)).take nonce.length = nonce := by
          rw [← hT]; unfold tailB
          simp only [List.append_assoc]
          rw [← List.append_assoc, ← List.append_assoc, List.drop_left' (by simp only [List.length_append, List.length_cons, List.length_nil] <;> omega), List.take_left' rfl]
        have seg2' : ((T.set j v).drop (2 + name.length + key.length)).take nonce.length = n2 := by
          rw [← q2]; unfold tailB
          simp only [List.append_assoc]
          rw [← List.append_assoc, ← List.append_assoc, List.drop_left' (by simp only [List.length_append, List.length_cons, List.length_nil] <;> lia), List.take_left' h2]
        have in1 : 2 + name.length ≤ j ∧ j < 2 + name.length + key.length := by
          refine ⟨Nat.le_of_not_lt fun c => e1 ?_, Nat.lt_of_not_le fun c => e1 ?_⟩
          · rw [← seg1', set_drop, if_pos c, seg1]
          · rw [← seg1', set_drop, if_neg (by lia), List.take_set_of_le (by omega), seg1]
        have in2 : 2 + name.length + key.length ≤ j := by
          refine Nat.le_of_not_lt fun c => e2 ?_
          rw [← seg2', set_drop, if_pos c, seg2]
        lia
end
end Pl
namespace Pl
theorem and0k (b T k : Nat) (hb : b < 2 ^ k) : (T * 2 ^ k) &&& b = 0 := by
  apply Nat.eq_of_testBit_eq
  intro i
  rw [Nat.testBit_and, Nat.zero_testBit]
  by_cases hi : i < k
  · have : (T * 2 ^ k).testBit i = false := by
      rw [Nat.mul_comm, Nat.testBit_two_pow_mul]
      simp; omega
    rw [this, Bool.false_and]
  · have : b.testBit i = false := Nat.testBit_lt_two_pow (Nat.lt_of_lt_of_le hb (Nat.pow_le_pow_right (n := 2) (by decide) (Nat.le_of_not_lt hi)))
    rw [this, Bool.and_false]
theorem decC_nat (t e k : Nat) (ht : t < 2 ^ k) : decC (t : Int) ((k : Nat) : Int) (e : Int) = ((e / 2 ^ k * 2 ^ k + t : Nat) : Int) := by
  have hp : 0 < 2 ^ k := Nat.pow_pos (by decide)
  unfold decC
  rw [Int.toNat_natCast]
  have e1 : (1 * 2 ^ k - 1 : Int) = ((2 ^ k - 1 : Nat) : Int) := by
    rw [Int.one_mul, Int.natCast_sub hp, Int.natCast_pow]; rfl
  have e2 : Builtin.bitAnd (e : Int) (Builtin.bitNot (1 * 2 ^ k - 1)) = ((e / 2 ^ k * 2 ^ k : Nat) : Int) := by
    rw [e1]
    unfold Builtin.bitAnd
    rw [decide_eq_true (show (0 : Int) ≤ e by lia), decide_eq_false (show ¬ (0 : Int) ≤ Builtin.bitNot ((2 ^ k - 1 : Nat) : Int) by unfold Builtin.bitNot; omega)]
    show (e : Int) - (((e : Int).toNat &&& (Builtin.bitNot (Builtin.bitNot ((2 ^ k - 1 : Nat) : Int))).toNat : Nat) : Int) = _
    have e3 : Builtin.bitNot (Builtin.bitNot ((2 ^ k - 1 : Nat) : Int)) = ((2 ^ k - 1 : Nat) : Int) := by unfold Builtin.bitNot; lia
    rw [e3, Int.toNat_natCast, Int.toNat_natCast, Nat.and_two_pow_sub_one_eq_mod]
    have := Nat.div_add_mod e (2 ^ k)
    rw [Nat.mul_comm] at this
    omega
  rw [e2, bitOr_and, bitAnd_nat, and0k _ _ _ ht]
  omega
theorem dec_b {size : Nat} (h : 1 ≤ size) : ((((size - 1 : Nat) : Int) + 1) * 8) = ((size * 8 : Nat) : Int) := by omega
theorem pow8 (size : Nat) : (256 : Nat) ^ size = 2 ^ (size * 8) := by rw [Nat.mul_comm, Nat.pow_mul]
theorem decode_row {num size e : Nat} (h1 : 1 ≤ size) (h4 : size ≤ 4) (hn : num < 2 ^ 40) (ha : e ≤ num + 2) (hb : num ≤ e + 2) :
    decodeI ((num % 256 ^ size : Nat) : Int) ((size * 8 : Nat) : Int) (e : Int) = num := by
  unfold decodeI
  rw [decC_nat _ _ _ (by rw [← pow8]; exact Nat.mod_lt _ (Nat.pow_pos (by decide))), Int.toNat_natCast]
  obtain rfl | rfl | rfl | rfl : size = 1 ∨ size = 2 ∨ size = 3 ∨ size = 4 := by omega
  all_goals (
    simp only [Nat.reduceMul, Nat.reducePow, Int.one_mul, Int.reducePow, Int.reduceFDiv, Int.reduceToNat, Int.reduceSub]
    split
    · omega
    · split <;> omega)
theorem decode_in {t size e : Nat} (h1 : 1 ≤ size) (h4 : size ≤ 4) (ht : t < 256 ^ size) (he : e < 2 ^ 60) :
    ∃ n : Nat, decodeI (t : Int) ((size * 8 : Nat) : Int) (e : Int) = n ∧ n < 2 ^ 96 := by
  have key : 0 ≤ decodeI (t : Int) ((size * 8 : Nat) : Int) (e : Int) ∧ decodeI (t : Int) ((size * 8 : Nat) : Int) (e : Int) < 2 ^ 62 := by
    unfold decodeI
    rw [decC_nat _ _ _ (by rw [← pow8]; exact ht), Int.toNat_natCast]
    obtain rfl | rfl | rfl | rfl : size = 1 ∨ size = 2 ∨ size = 3 ∨ size = 4 := by omega
    all_goals (
      simp only [Nat.reduceMul, Nat.reducePow, Int.one_mul, Int.reducePow, Int.reduceFDiv, Int.reduceToNat, Int.reduceSub] at *
      split
      · omega
      · split <;> omega)
  exact ⟨_, (Int.toNat_of_nonneg key.1).symm, by omega⟩
structure RowSpec (suite version : Int) (base : Nat) (pk : List UInt8) (off cnt : Nat) (long : Bool) (hdr text : List UInt8) (num : Nat) : Prop where
  pkE : pk = encB suite version (secB suite (base + cnt)) (hpB suite version (secB suite base)) hdr text (num : Nat)
  offE : off = hdr.length - szOf hdr
  h1 : szOf hdr < hdr.length
  h2 : hdr.length ≤ 20
  t1 : 4 ≤ text.length
  t2 : text.length ≤ 6
  nm : num < 2 ^ 40
  tr : beI (hdr.drop off) = num % 256 ^ szOf hdr
  ph : if long = true then 128 ≤ (hdr.getD 0 0).toNat else (hdr.getD 0 0).toNat < 128 ∧ phaseI (hdr.getD 0 0) = ((cnt % 2 : Nat) : Int)
  cb : base + cnt + 10 < 256 ^ 6
noncomputable def namedOf (mine cnt : Nat) (long : Bool) : Nat := if (!long && decide (cnt % 2 ≠ mine % 2)) = true then mine + 1 else mine
section
variable {suite version : Int} {base off cnt num mine e : Nat} {pk hdr text : List UInt8} {long : Bool}
theorem szOf_in (h : List UInt8) : 1 ≤ szOf h ∧ szOf h ≤ 4 := by unfold szOf; lia
theorem by_hdr {P : List UInt8} (r : RowSpec suite version base pk off cnt long hdr text num) (hP : hdr.length ≤ P.length)
    (hL : unLen (hname suite) (hpB suite version (secB suite base)) P off = szOf hdr) (hH : dHdr suite (hpB suite version (secB suite base)) P off = hdr) (ha : e ≤ num + 2) (hb : num ≤ e + 2) (hm : base + mine + 10 < 256 ^ 6) :
    dNum suite (hpB suite version (secB suite base)) P off (e : Int) = num ∧ dNext suite (hpB suite version (secB suite base)) P off ((mine % 2 : Nat) : Int) = (!long && decide (cnt % 2 ≠ mine % 2)) ∧
    dSec suite version (hpB suite version (secB suite base)) P off ((mine % 2 : Nat) : Int) (secB suite (base + mine)) = secB suite (base + namedOf mine cnt long) := by
  have hz := szOf_in hdr
  have hoff := r.offE
  have hh1 := r.h1
  have fb : dFb suite (hpB suite version (secB suite base)) P off = hdr.getD 0 0 := by unfold dFb; rw [hH]; rfl
  have n1 : dNext suite (hpB suite version (secB suite base)) P off ((mine % 2 : Nat) : Int) = (!long && decide (cnt % 2 ≠ mine % 2)) := by
    unfold dNext
    rw [fb]
    have hp := r.ph
    cases long with
    | true => rw [if_pos rfl] at hp; rw [decide_eq_true hp]; rfl
    | false =>
      rw [if_neg (by decide)] at hp
      rw [decide_eq_false (by lia), hp.2]
      show decide (((cnt % 2 : Nat) : Int) ≠ ((mine % 2 : Nat) : Int)) = decide (cnt % 2 ≠ mine % 2)
      by_cases q : cnt % 2 = mine % 2
      · rw [q]; simp
      · rw [decide_eq_true (by lia), decide_eq_true q]
  refine ⟨?_, n1, ?_⟩
  · unfold dNum
    have ht : unTrunc (hname suite) (hpB suite version (secB suite base)) P off = num % 256 ^ szOf hdr := by
      rw [unTrunc_eq _ (by rw [hL]; omega)]
      show beI ((dHdr suite (hpB suite version (secB suite base)) P off).drop off) = _
      rw [hH, r.tr]
    rw [ht, fb]
    have : ((((hdr.getD 0 0).toNat % 4 : Nat) : Int) + 1) * 8 = ((szOf hdr * 8 : Nat) : Int) := by unfold szOf; lia
    rw [this]
    exact decode_row hz.1 hz.2 r.nm ha hb
  · unfold dSec namedOf
    rw [n1]
    by_cases q : (!long && decide (cnt % 2 ≠ mine % 2)) = true
    · rw [if_pos q, if_pos q, next_sec (by lia)]; rfl
    · rw [if_neg q, if_neg q]
theorem named_lt (hm : base + mine + 10 < 256 ^ 6) : base + namedOf mine cnt long < 256 ^ 6 := by
  unfold namedOf; split <;> omega
theorem pk_len (r : RowSpec suite version base pk off cnt long hdr text num) (hs : Suite suite) : pk.length = 2 * hdr.length + (2 * text.length + (aname suite).length + (keySize suite).toNat + 32) := by
  rw [r.pkE]; unfold encB
  rw [apply_length, seal_length, key_len, nonce_eq, toBE_length]; lia
theorem pk_lt (r : RowSpec suite version base pk off cnt long hdr text num) (hs : Suite suite) : pk.length < 10000 ∧ off + 20 ≤ pk.length ∧ hdr.length + 30 ≤ pk.length := by
  have h := pk_len r hs
  have a := hs.anl
  have b := keySize_in suite
  have := r.h2
  have := r.t2
  have := r.offE
  lia
theorem row_same (r : RowSpec suite version base pk off cnt long hdr text num) {P : List UInt8} (hP : hdr.length ≤ P.length) (e : P.take hdr.length = pk.take hdr.length) :
    unLen (hname suite) (hpB suite version (secB suite base)) P off = szOf hdr ∧ dHdr suite (hpB suite version (secB suite base)) P off = hdr := by
  rw [r.offE]
  unfold dHdr
  have q := r.pkE
  unfold encB at q
  exact hdr_same r.h1 hP (by rw [e, q])
theorem pk_drop (r : RowSpec suite version base pk off cnt long hdr text num) :
    pk.drop hdr.length = sealB (aname suite) (keyB suite version (secB suite (base + cnt))) (nonceB (ivB suite version (secB suite (base + cnt))) (num : Nat)) text hdr := by
  rw [r.pkE]; unfold encB; exact apply_drop r.h1
theorem keys_of (hm : base + mine + 10 < 256 ^ 6) (hc : base + cnt + 10 < 256 ^ 6) (hn : num < 2 ^ 40) (hne : namedOf mine cnt long ≠ cnt) :
    keyB suite version (secB suite (base + namedOf mine cnt long)) ≠ keyB suite version (secB suite (base + cnt)) ∧
    nonceB (ivB suite version (secB suite (base + namedOf mine cnt long))) (num : Nat) ≠ nonceB (ivB suite version (secB suite (base + cnt))) (num : Nat) := by
  have h1 := named_lt (cnt := cnt) (long := long) hm
  have hne' : base + namedOf mine cnt long ≠ base + cnt := by lia
  refine ⟨key_ne h1 (by omega) hne', fun q => iv_ne (suite := suite) (version := version) h1 (by omega) hne' ?_⟩
  exact nonce_inj (iv_len _ _ _) (iv_len _ _ _) (by omega) q
theorem row_open (r : RowSpec suite version base pk off cnt long hdr text num) (hs : Suite suite) (ha : e ≤ num + 2) (hb : num ≤ e + 2) (hm : base + mine + 10 < 256 ^ 6) :
    dHdr suite (hpB suite version (secB suite base)) pk off = hdr ∧ dNum suite (hpB suite version (secB suite base)) pk off (e : Int) = num ∧
    dNext suite (hpB suite version (secB suite base)) pk off ((mine % 2 : Nat) : Int) = (!long && decide (cnt % 2 ≠ mine % 2)) ∧
    openB (aname suite) (keyB suite version (dSec suite version (hpB suite version (secB suite base)) pk off ((mine % 2 : Nat) : Int) (secB suite (base + mine))))
      (nonceB (ivB suite version (dSec suite version (hpB suite version (secB suite base)) pk off ((mine % 2 : Nat) : Int) (secB suite (base + mine)))) (dNum suite (hpB suite version (secB suite base)) pk off (e : Int)))
      (pk.drop (dHdr suite (hpB suite version (secB suite base)) pk off).length) (dHdr suite (hpB suite version (secB suite base)) pk off) = if namedOf mine cnt long = cnt then some text else none := by
  have hl := pk_lt r hs
  obtain ⟨hL, hH⟩ := row_same r (P := pk) (by omega) rfl
  obtain ⟨x1, x2, x3⟩ := by_hdr (mine := mine) r (by omega) hL hH ha hb hm
  refine ⟨hH, x1, x2, ?_⟩
  rw [x3, x1, hH, pk_drop r]
  have t2 := r.t2
  by_cases q : namedOf mine cnt long = cnt
  · rw [if_pos q, q]; exact open_self (by omega)
  · rw [if_neg q]
    obtain ⟨k1, k2⟩ := keys_of (suite := suite) (version := version) hm r.cb r.nm q
    exact open_other (by omega) (by rw [key_len, key_len]) (by rw [nonce_eq, nonce_eq, toBE_length, toBE_length]) rfl (fun z => k1 z.1)
theorem row_spoilt (r : RowSpec suite version base pk off cnt long hdr text num) (hs : Suite suite) (ha : e ≤ num + 2) (hb : num ≤ e + 2) (hm : base + mine + 10 < 256 ^ 6) {i : Nat} {v : UInt8} (hi : i < pk.length) (hv : v ≠ pk.getD i 0) :
    (dHdr suite (hpB suite version (secB suite base)) (pk.set i v) off).length < 256 ∧ (∀ s, NonceOk (ivB suite version s) (dNum suite (hpB suite version (secB suite base)) (pk.set i v) off (e : Int))) ∧
    openB (aname suite) (keyB suite version (dSec suite version (hpB suite version (secB suite base)) (pk.set i v) off ((mine % 2 : Nat) : Int) (secB suite (base + mine))))
      (nonceB (ivB suite version (dSec suite version (hpB suite version (secB suite base)) (pk.set i v) off ((mine % 2 : Nat) : Int) (secB suite (base + mine)))) (dNum suite (hpB suite version (secB suite base)) (pk.set i v) off (e : Int)))
      ((pk.set i v).drop (dHdr suite (hpB suite version (secB suite base)) (pk.set i v) off).length) (dHdr suite (hpB suite version (secB suite base)) (pk.set i v) off) = none := by
  have hl := pk_lt r hs
  have hpl := pk_len r hs
  have hh1 := r.h1
  have hh2 := r.h2
  have hoff := r.offE
  have hz := szOf_in hdr
  have t1 := r.t1
  have t2 := r.t2
  have hnm := r.nm
  have hlen : (pk.set i v).length = pk.length := List.length_set
  have hU : unLen (hname suite) (hpB suite version (secB suite base)) (pk.set i v) off ≤ 4 ∧ 1 ≤ unLen (hname suite) (hpB suite version (secB suite base)) (pk.set i v) off := by unfold unLen; lia
  have hHl : (dHdr suite (hpB suite version (secB suite base)) (pk.set i v) off).length = off + unLen (hname suite) (hpB suite version (secB suite base)) (pk.set i v) off := by
    unfold dHdr
    rw [unHdr_eq, List.length_take, both_length, hlen]; lia
  have hfb : ((((dFb suite (hpB suite version (secB suite base)) (pk.set i v) off).toNat % 4 : Nat) : Int) + 1) * 8 = ((unLen (hname suite) (hpB suite version (secB suite base)) (pk.set i v) off * 8 : Nat) : Int) := by
    have : dFb suite (hpB suite version (secB suite base)) (pk.set i v) off = (unFirst (hname suite) (hpB suite version (secB suite base)) (pk.set i v) off).getD 0 0 := by
      unfold dFb dHdr
      rw [unHdr_eq, List.getD_eq_getElem?_getD, show Int.toNat 0 = 0 from rfl, List.getElem?_take_of_lt (by lia)]
      unfold both
      rw [maskRun_get0 (by lia), ← List.getD_eq_getElem?_getD]; rfl
    rw [this]; unfold unLen; lia
  have hN : ∃ n : Nat, dNum suite (hpB suite version (secB suite base)) (pk.set i v) off (e : Int) = n ∧ n < 2 ^ 96 := by
    unfold dNum
    rw [hfb]
    exact decode_in hU.2 hU.1 (truncRun_lt _ _ _ _) (by lia)
  obtain ⟨nn, hN1, hN2⟩ := hN
  refine ⟨by rw [hHl]; lia, fun s => by rw [hN1]; exact nonce_ok (iv_len _ _ _) hN2, ?_⟩
  by_cases c : hdr.length ≤ i
  · have ht : (pk.set i v).take hdr.length = pk.take hdr.length := List.take_set_of_le c
    obtain ⟨hL, hH⟩ := row_same r (P := pk.set i v) (by omega) ht
    obtain ⟨x1, x2, x3⟩ := by_hdr (mine := mine) r (by omega) hL hH ha hb hm
    rw [x3, x1, hH, set_drop, if_neg (by omega)]
    have hv' : v ≠ (pk.drop hdr.length).getD (i - hdr.length) 0 := by
      rw [List.getD_eq_getElem?_getD, List.getElem?_drop, show hdr.length + (i - hdr.length) = i by omega, ← List.getD_eq_getElem?_getD]; exact hv
    have hi' : i - hdr.length < (pk.drop hdr.length).length := by rw [List.length_drop]; lia
    rw [pk_drop r] at hv' hi' ⊢
    refine open_turned (by lia) (by rw [key_len, key_len]) (by rw [nonce_eq, nonce_eq, toBE_length, toBE_length]) hi' hv' ?_
    by_cases q : namedOf mine cnt long = cnt
    · rw [q]; exact .inl ⟨rfl, rfl⟩
    · exact .inr (keys_of hm r.cb r.nm q)
  · have hH : dHdr suite (hpB suite version (secB suite base)) (pk.set i v) off ≠ hdr := fun q => by
      have q' := r.pkE
      unfold encB at q'
      have := hdr_inj (name := hname suite) (pp := sealB (aname suite) (keyB suite version (secB suite (base + cnt))) (nonceB (ivB suite version (secB suite (base + cnt))) (num : Nat)) text hdr) r.h1 (by omega : hdr.length ≤ (pk.set i v).length) (by rw [← hoff]; exact q)
      rw [← q'] at this
      have q2 := congrArg (fun x : List UInt8 => x[i]?) this
      rw [List.getElem?_take_of_lt (by omega), List.getElem?_take_of_lt (by omega), List.getElem?_set, if_pos rfl, if_pos hi, getD_eq _ _ hi] at q2
      exact hv (Option.some.inj q2)
    rw [hN1]
    generalize hS : dSec suite version (hpB suite version (secB suite base)) (pk.set i v) off ((mine % 2 : Nat) : Int) (secB suite (base + mine)) = S
    generalize hHd : dHdr suite (hpB suite version (secB suite base)) (pk.set i v) off = H' at hH hHl ⊢
    by_cases c2 : H'.length = hdr.length
    · rw [c2, set_drop, if_pos (by lia), pk_drop r]
      exact open_other (by omega) (by rw [key_len, key_len]) (by rw [nonce_eq, nonce_eq, toBE_length, toBE_length]) c2 (fun z => hH z.2.2)
    · have hDl : ((pk.set i v).drop H'.length).length = pk.length - H'.length := by rw [List.length_drop, hlen]
      refine open_size (d := text.length) (by omega) (by rw [hDl]; lia) (by rw [hDl]; lia) ?_ ?_
      · rw [hDl, List.getD_eq_getElem?_getD, List.getElem?_drop, List.getElem?_set, if_neg (by omega)]
        have q := seal_at (name := aname suite) (key := keyB suite version (secB suite (base + cnt))) (nonce := nonceB (ivB suite version (secB suite (base + cnt))) (num : Nat)) (data := text) (assoc := hdr) (by omega)
        rw [← pk_drop r, List.getD_eq_getElem?_getD, List.getElem?_drop, List.length_drop] at q
        rw [← q]
        congr 2
        lia
      · rw [hDl, key_len, nonce_eq, toBE_length]; lia
end
theorem row_made {suite version : Int} {base cnt num size : Nat} {mid text : List UInt8} {long : Bool} (h1 : 1 ≤ size) (h4 : size ≤ 4) (hm : mid.length ≤ 8) (t1 : 4 ≤ text.length) (t2 : text.length ≤ 6) (hn : num < 2 ^ 40) (hc : base + cnt + 10 < 256 ^ 6) {f : UInt8}
    (hf : f.toNat = (if long = true then 192 else 64 + 4 * (cnt % 2)) + size - 1) :
    RowSpec suite version base (encB suite version (secB suite (base + cnt)) (hpB suite version (secB suite base)) (f :: (mid ++ toBE size (num % 256 ^ size))) text (num : Nat)) (1 + mid.length) cnt long (f :: (mid ++ toBE size (num % 256 ^ size))) text num := by
  have hf4 : f.toNat % 4 + 1 = size := by rw [hf]; split <;> lia
  have hsz : szOf (f :: (mid ++ toBE size (num % 256 ^ size))) = size := by unfold szOf; exact hf4
  refine ⟨rfl, ?_, ?_, ?_, t1, t2, hn, ?_, ?_, hc⟩
  · rw [hsz, List.length_cons, List.length_append, toBE_length]; lia
  · rw [hsz, List.length_cons, List.length_append, toBE_length]; lia
  · rw [List.length_cons, List.length_append, toBE_length]; lia
  · rw [hsz, Nat.add_comm, List.drop_succ_cons, List.drop_left' rfl, beI_toBE _ _ (Nat.mod_lt _ (Nat.pow_pos (by decide)))]
  · show if long = true then 128 ≤ f.toNat else f.toNat < 128 ∧ phaseI f = _
    cases long with
    | true => rw [if_pos rfl] at hf ⊢; lia
    | false =>
      rw [if_neg (by decide)] at hf ⊢
      refine ⟨by omega, ?_⟩
      have hfo : f = UInt8.ofNat (64 + 4 * (cnt % 2) + size - 1) := by rw [← hf, UInt8.ofNat_toNat]
      rw [hfo]
      rcases Nat.mod_two_eq_zero_or_one cnt with q | q <;> rw [q]
      all_goals (obtain rfl | rfl | rfl | rfl : size = 1 ∨ size = 2 ∨ size = 3 ∨ size = 4 := by lia) <;> decide
end Pl
section
variable {prog : Program} {w : World} {A : Around} {H0 h : Heap} {fs : List (Nat × Map)} {H : PH} {n : Nat} {L : Nat} {m : Map} {g : Array GenState} {d : Drawn} {tk : Nat} {os : OsState} {bb : Nat}
  {E : Value → Shared → Prop} {Q : Value → Shared → Prop}
theorem aead_dec_no_ct {x : Nat} {name key iv data assoc : List UInt8} {pn : Int} {t1 t2 t3 : Tok}
    (G : Gd (KK w.params) H0) (hz : H0.objs.size ≤ n) (O : Ok A 4) (R : RC w.params H0 fs H n h) (F : FrOk A fs) (ha : AeadAt H x name key iv) (hno : NonceOk iv pn)
    (l1 : name.length < 256) (l2 : key.length < 256) (l4 : data.length < 10000) (l5 : assoc.length < 256) (ho : openB name key (nonceB iv pn) data assoc = none)
    (k : ∀ e h' n' tk', n ≤ n' → Fly w.params H0 fs H n' A e (.ref 31) h' → E (.ref e) ⟨h', g, d, tk', os⟩) :
    wpAny (model prog w) A (call (.ref 55) [.ref x, .bytes data.toArray t1, .bytes assoc.toArray t2, .int pn t3]) Q E ⟨h, g, d, tk, os⟩ := by
  have ha' := ha
  refine' AeadAt.el ha ?_
  intro dx u1 u2 u3 e1 e2
  refine' r_defE (binds := [("self", .ref x), ("data", .bytes data.toArray t1), ("associated_data", .bytes assoc.toArray t2), ("packet_number", .int pn t3)]) R ?G hz O.room ?ho ?hcd ?hbind ?hloc ?_ ?hco ?hgen ?hk ?hcell
  walk_at "def"
  intro L' h₁ tk₁ hl R'
  walk_at "25"
  rename RC _ _ _ _ _ _ => r0
  refine' nonce_ct G (by walk_at "om") (O.deep (by decide)) r0 ha' hno.1 hno.2 ?_
  intro t h' n' tk' hn r1
  clear r0
  walk_at "6"
  rename RC _ _ _ _ _ _ => r0
  refine' prim_open_ct G (by walk_at "om") (O.deep (by decide)) r0 l1 l2 (by rw [toBE_length]; decide) l4 l5 ?_
  intro v h' n' tk' hv hn r1
  clear r0
  have hv' : OptB v none := by rw [← ho]; exact hv
  obtain rfl := hv'
  walk_at "10"
  rename RC _ _ _ _ _ _ => r0
  refine' r_raise (C := 31) r0 G O.hd ?ex ?q (fun Q' E' hq => r_str (fun t tk' => hq _ _)) ?_
  case ex => k_is
  case q => k_exc
  intro h2 e vs tk2 hm hsz
  refine' leave_new r0 F hm hsz ?_
  intro h3 fl
  exact k _ _ _ _ (by walk_at "om") fl
theorem ctx_dec_no_ct {c cd : Nat} {suite version kp ex : Int} {secret hpk packet : List UInt8} {off : Nat} {t1 t2 t3 : Tok}
    (G : Gd (KK w.params) H0) (hz : H0.objs.size ≤ n) (O : Ok A 10) (R : RC w.params H0 fs H n h) (F : FrOk A fs) (hc : CtxAt H c cd suite version kp secret hpk) (hs : Suite suite) (l1 : SecOk (bb + 2) secret) (l2 : 6 ≤ hpk.length) (l3 : hpk.length < 256)
    (l4 : packet.length < 10000) (l5 : off + 20 ≤ packet.length) (l6 : (dHdr suite hpk packet off).length < 256) (hno : ∀ s, NonceOk (ivB suite version s) (dNum suite hpk packet off ex))
    (ho : openB (aname suite) (keyB suite version (dSec suite version hpk packet off kp secret)) (nonceB (ivB suite version (dSec suite version hpk packet off kp secret)) (dNum suite hpk packet off ex)) (packet.drop (dHdr suite hpk packet off).length) (dHdr suite hpk packet off) = none)
    (k : ∀ e h' n' tk', n ≤ n' → Fly w.params H0 fs H n' A e (.ref 31) h' → E (.ref e) ⟨h', g, d, tk', os⟩) :
    wpP (model prog w) A (call (.ref 226) [.ref c, .bytes packet.toArray t1, .int (off : Nat) t2, .int ex t3]) Q E ⟨h, g, d, tk, os⟩ := by
  refine' CtxAt.el hc ?_
  intro a hp u1 u2 u3 u4 e1 e2 hA hB
  refine' HpAt.el hB ?_
  intro dB w4 w5 b1 b2
  refine' P_defE (binds := [("self", .ref c), ("packet", .bytes packet.toArray t1), ("encrypted_offset", .int (off : Nat) t2), ("expected_packet_number", .int ex t3)]) R ?G hz O.room ?ho ?hcd ?hbind ?hloc ?_ ?hco ?hgen ?hk ?hcell
  walk_at "def"
  intro L' h₁ tk₁ hl R'
  refine' P_execs_consA ?_
  walk_at "10"
  refine' P_execs_cons ?_
  refine' P_Assign_Tuple ?_ ?hs ?hw
  case hs => exact rfl
  case hw => exact rfl
  refine' P_methodCall ?_ ?he
  case he => exact rfl
  walk_at "4"
  refine' P_callK (K := (KK w.params)) ?hk ?_ ?he ?hp
  case he => exact rfl
  case hp => exact rfl
  case hk => k_is
  walk_at "6"
  rename RC _ _ _ _ _ _ => r0
  refine' remove_ct G (by walk_at "om") (O.deep (by decide)) r0 hB hs.hnl l2 l3 l4 l5 ?_
  intro a' u1' u2' H1 h' n' tk' hn le1 hT r1
  clear r0
  refine' AeadAt.el hA ?_
  intro dA w1 w2 w3 a1 a2
  have e1a := le1 _ _ e1
  have e2a := le1 _ _ e2
  have hc1 := hc.le le1
  have hA1 := hA.keep (fun b z _ e => le1 b z e)
  have a1a := le1 _ _ a1
  have a2a := le1 _ _ a2
  have lh : (unHdr (hname suite) hpk packet off).length = off + unLen (hname suite) hpk packet off := by
    unfold unHdr
    rw [List.length_take, maskRun_length]
    have : (unFirst (hname suite) hpk packet off).length = packet.length := maskFirst_length _ _
    have : unLen (hname suite) hpk packet off ≤ 4 := by unfold unLen; walk_at "om"
    walk_at "om"
  have lL : 1 ≤ unLen (hname suite) hpk packet off ∧ unLen (hname suite) hpk packet off ≤ 4 := by unfold unLen; walk_at "om"
  have ll : (unHdr (hname suite) hpk packet off).length ≤ packet.length := by walk_at "om"
  walk_at "8"
  refine' P_any ?_
  walk_at "33"
  rename RC _ _ _ _ _ _ => r0
  refine' decode_ct G (by walk_at "om") (O.deep (by decide)) r0 (by walk_at "om") (by walk_at "om") ?_
  intro u5 h' n' tk' hn2 r1
  clear r0
  walk_at "16"
  rename RC _ _ _ _ _ _ => r0
  refine' islong_ct G (by walk_at "om") (O.deep (by decide)) r0 ?_
  intro h' n' tk' hn3 r1
  clear r0
  walk_at "1"
  split
  · rename_i q1
    have q1' : decide (128 ≤ (dFb suite hpk packet off).toNat) = false := bnt q1
    walk_at "19"
    split
    · rename_i q2
      have q2' : decide (phaseI (dFb suite hpk packet off) ≠ kp) = true := q2
      have eN : dNext suite hpk packet off kp = true := by unfold dNext; rw [q1', q2']; rfl
      walk_at "9"
      rename RC _ _ _ _ _ _ => r0
      refine' next_ct (bb := bb) G (by walk_at "om") (O.deep (by decide)) r0 hc1 hs l1 ?_
      intro c2 cd2 H2 h' n' tk' hc2 hcd2 hn4 le2 hC2 r1
      clear r0
      have cne : c ≠ c2 := by have := R.lt e1; walk_at "om"
      have LE : H.le H2 := PH.le_trans le1 le2
      have g1 := le2 _ _ e1a
      have hd2 : dSec suite version hpk packet off kp secret = nextB suite version secret := by unfold dSec; rw [eN]; rfl
      refine' CtxAt.el hC2 ?_
      intro a2 hp2 v1 v2 v3 v4 f1 f2 hAx hBx
      refine' AeadAt.el hAx ?_
      intro dA2 x1 x2 x3 y1 y2
      have lkx := keyB_length (suite := suite) (version := version) (SecOk.next (suite := suite) (version := version) l1)
      have ho' := ho
      rw [hd2] at ho'
      walk_at "32"
      rename RC _ _ _ _ _ _ => r0
      have lkz := keySize_in suite
      refine' aead_dec_no_ct G (by walk_at "om") (O.deep (by decide)) r0 (F.deep) hAx (hno _) hs.anl (by walk_at "om") (by rw [List.length_drop]; walk_at "om") l6 ho' ?_
      intro e h' n' tk' hn6 fl
      refine' leave_on fl F ?_
      intro h3 fl3
      exact k _ _ _ _ (by walk_at "om") (fl3.weak LE)
    · rename_i q2
      have q2' : decide (phaseI (dFb suite hpk packet off) ≠ kp) = false := Bool.eq_false_iff.mpr q2
      have eN : dNext suite hpk packet off kp = false := by unfold dNext; rw [q1', q2']; rfl
      have LE := le1
      have hAx := hA1
      have hd2 : dSec suite version hpk packet off kp secret = secret := by unfold dSec; rw [eN]; rfl
      have lkx := keyB_length (suite := suite) (version := version) l1
      have ho' := ho
      rw [hd2] at ho'
      walk_at "31"
      rename RC _ _ _ _ _ _ => r0
      have lkz := keySize_in suite
      refine' aead_dec_no_ct G (by walk_at "om") (O.deep (by decide)) r0 (F.deep) hAx (hno _) hs.anl (by walk_at "om") (by rw [List.length_drop]; walk_at "om") l6 ho' ?_
      intro e h' n' tk' hn6 fl
      refine' leave_on fl F ?_
      intro h3 fl3
      exact k _ _ _ _ (by walk_at "om") (fl3.weak LE)
  · rename_i q1
    have q1' : decide (128 ≤ (dFb suite hpk packet off).toNat) = true := bnf q1
    have eN : dNext suite hpk packet off kp = false := by unfold dNext; rw [q1']; rfl
    have LE := le1
    have hAx := hA1
    have hd2 : dSec suite version hpk packet off kp secret = secret := by unfold dSec; rw [eN]; rfl
    have lkx := keyB_length (suite := suite) (version := version) l1
    have ho' := ho
    rw [hd2] at ho'
    walk_at "30"
    rename RC _ _ _ _ _ _ => r0
    have lkz := keySize_in suite
    refine' aead_dec_no_ct G (by walk_at "om") (O.deep (by decide)) r0 (F.deep) hAx (hno _) hs.anl (by walk_at "om") (by rw [List.length_drop]; walk_at "om") l6 ho' ?_
    intro e h' n' tk' hn6 fl
    refine' leave_on fl F ?_
    intro h3 fl3
    exact k _ _ _ _ (by walk_at "om") (fl3.weak LE)
end
section
variable {prog : Program} {w : World} {A : Around} {H0 h : Heap} {fs : List (Nat × Map)} {H : PH} {n : Nat} {L : Nat} {m : Map} {g : Array GenState} {d : Drawn} {tk : Nat} {os : OsState} {bb : Nat}
  {E : Value → Shared → Prop} {Q : Value → Shared → Prop}
theorem pair_dec_ok_ct {p pd rc rcd sc scd : Nat} {ask N : Bool} {suite version kpR kpS ex : Int} {secR hpR secS hpS packet y : List UInt8} {off : Nat} {t1 t2 t3 : Tok}
    (G : Gd (KK w.params) H0) (hz : H0.objs.size ≤ n) (O : Ok A 12) (R : RC w.params H0 fs H n h) (hp : PairV H p pd rc sc ask) (hr : CtxAt H rc rcd suite version kpR secR hpR) (hsd : CtxAt H sc scd suite version kpS secS hpS) (hne : rcd ≠ scd)
    (hs : Suite suite) (l1 : SecOk (bb + 2) secR) (lS : SecOk (bb + 2) secS) (l2 : 6 ≤ hpR.length) (l3 : hpR.length < 256)
    (l4 : packet.length < 10000) (l5 : off + 20 ≤ packet.length) (l6 : (dHdr suite hpR packet off).length < 256) (hno : ∀ s, NonceOk (ivB suite version s) (dNum suite hpR packet off ex)) (hN : dNext suite hpR packet off kpR = N)
    (ho : openB (aname suite) (keyB suite version (dSec suite version hpR packet off kpR secR)) (nonceB (ivB suite version (dSec suite version hpR packet off kpR secR)) (dNum suite hpR packet off ex)) (packet.drop (dHdr suite hpR packet off).length) (dHdr suite hpR packet off) = some y)
    (k : ∀ (a : Nat) u1 u2 u3 H' h' n' tk', n ≤ n' → Only [pd, rcd, scd] H H' → KeepI H H' → PairV H' p pd rc sc (if N then false else ask) → CtxAt H' rc rcd suite version (if N then flipI kpR else kpR) (if N then nextB suite version secR else secR) hpR →
      CtxAt H' sc scd suite version (if N then flipI kpS else kpS) (if N then nextB suite version secS else secS) hpS →
      H' a = some (.tup [.bytes (dHdr suite hpR packet off).toArray u1, .bytes y.toArray u2, .int (dNum suite hpR packet off ex) u3]) → RC w.params H0 fs H' n' h' → Q (.ref a) ⟨h', g, d, tk', os⟩) :
    wpP (model prog w) A (call (.ref 297) [.ref p, .bytes packet.toArray t1, .int (off : Nat) t2, .int ex t3]) Q E ⟨h, g, d, tk, os⟩ := by
  refine' PairV.el hp ?_
  intro t e1 e2
  refine' CtxAt.el hr ?_
  intro a0 hp0 v1 v2 v3 v4 f1 f2 hA hB
  refine' P_def (binds := [("self", .ref p), ("packet", .bytes packet.toArray t1), ("encrypted_offset", .int (off : Nat) t2), ("expected_packet_number", .int ex t3)]) R ?G hz O.room ?ho ?hcd ?hbind ?hloc ?_ ?hco ?hgen ?hk ?hcell
  walk_at "def"
  intro L' h₁ tk₁ hl R'
  refine' P_execs_cons ?_
  refine' P_Assign_Tuple ?_ ?hs ?hw
  case hs => exact rfl
  case hw => exact rfl
  refine' P_methodCall ?_ ?he
  case he => exact rfl
  walk_at "4"
  refine' P_callK (K := (KK w.params)) ?hk ?_ ?he ?hp
  case he => exact rfl
  case hp => exact rfl
  case hk => k_is
  walk_at "8"
  rename RC _ _ _ _ _ _ => r0
  refine' ctx_dec_ok_ct (bb := bb) G (by walk_at "om") (O.deep (by decide)) r0 hr hs l1 l2 l3 l4 l5 l6 hno ho ?_
  intro a u1 u2 u3 H1 h' n' tk' hn le1 hT r1
  clear r0
  rw [hN] at hT
  have bnd : ∀ b z, H1 b = some z → b < n' := fun b z e => r1.lt e
  have e1a := le1 _ _ e1
  have e2a := le1 _ _ e2
  have hp1 : PairV H1 p pd rc sc ask := ⟨t, e1a, e2a⟩
  have hr1 := hr.le le1
  have hs1 := hsd.le le1
  walk_at "14"
  refine' P_any ?_
  walk_at "5"
  cases N with
  | true =>
    walk_at "11"
    rename RC _ _ _ _ _ _ => r0
    refine' update_ct (bb := bb) G (by walk_at "om") (O.deep (by decide)) r0 hp1 hr1 hs1 hne hs l1 lS ?_
    intro H2 h' n' tk' hn2 o2 k2 hp2 hr2 hs2 r1
    clear r0
    have bnd : ∀ b z, H2 b = some z → b < n' := fun b z e => r1.lt e
    walk_at "12"
    rename RC _ _ _ _ _ _ => r0
    exact k _ _ _ _ _ _ _ _ (by walk_at "om") (Only.new _ (fun x z nx e => o2 x z nx (le1 _ _ e)) (R.none_new (by walk_at "om"))) (KeepI.new (((KeepI.refl H).le le1).trans k2) (R.none_new (by walk_at "om"))) (hp2.keep (S := []) (fun b z _ e => PH.set_at (by have := bnd _ _ e; walk_at "om") e) (fun b z _ e => PH.set_at (by have := bnd _ _ e; walk_at "om") e) List.not_mem_nil) (hr2.le (fun b z e => PH.set_at (by have := bnd _ _ e; walk_at "om") e)) (hs2.le (fun b z e => PH.set_at (by have := bnd _ _ e; walk_at "om") e)) (PH.set_self _ _ _) r0.pop
  | false =>
    walk_at "13"
    rename RC _ _ _ _ _ _ => r0
    exact k _ _ _ _ _ _ _ _ (by walk_at "om") (Only.new _ (fun x z nx e => le1 _ _ e) (R.none_new (by walk_at "om"))) (KeepI.new ((KeepI.refl H).le le1) (R.none_new (by walk_at "om"))) (hp1.keep (S := []) (fun b z _ e => PH.set_at (by have := bnd _ _ e; walk_at "om") e) (fun b z _ e => PH.set_at (by have := bnd _ _ e; walk_at "om") e) List.not_mem_nil) (hr1.le (fun b z e => PH.set_at (by have := bnd _ _ e; walk_at "om") e)) (hs1.le (fun b z e => PH.set_at (by have := bnd _ _ e; walk_at "om") e)) (PH.set_self _ _ _) r0.pop
theorem pair_dec_no_ct {p pd rc rcd sc : Nat} {ask : Bool} {suite version kpR ex : Int} {secR hpR packet : List UInt8} {off : Nat} {t1 t2 t3 : Tok}
    (G : Gd (KK w.params) H0) (hz : H0.objs.size ≤ n) (O : Ok A 12) (R : RC w.params H0 fs H n h) (F : FrOk A fs) (hp : PairV H p pd rc sc ask) (hr : CtxAt H rc rcd suite version kpR secR hpR)
    (hs : Suite suite) (l1 : SecOk (bb + 2) secR) (l2 : 6 ≤ hpR.length) (l3 : hpR.length < 256)
    (l4 : packet.length < 10000) (l5 : off + 20 ≤ packet.length) (l6 : (dHdr suite hpR packet off).length < 256) (hno : ∀ s, NonceOk (ivB suite version s) (dNum suite hpR packet off ex))
    (ho : openB (aname suite) (keyB suite version (dSec suite version hpR packet off kpR secR)) (nonceB (ivB suite version (dSec suite version hpR packet off kpR secR)) (dNum suite hpR packet off ex)) (packet.drop (dHdr suite hpR packet off).length) (dHdr suite hpR packet off) = none)
    (k : ∀ e h' n' tk', n ≤ n' → Fly w.params H0 fs H n' A e (.ref 31) h' → E (.ref e) ⟨h', g, d, tk', os⟩) :
    wpP (model prog w) A (call (.ref 297) [.ref p, .bytes packet.toArray t1, .int (off : Nat) t2, .int ex t3]) Q E ⟨h, g, d, tk, os⟩ := by
  refine' PairV.el hp ?_
  intro t e1 e2
  refine' CtxAt.el hr ?_
  intro a0 hp0 v1 v2 v3 v4 f1 f2 hA hB
  refine' P_defE (binds := [("self", .ref p), ("packet", .bytes packet.toArray t1), ("encrypted_offset", .int (off : Nat) t2), ("expected_packet_number", .int ex t3)]) R ?G hz O.room ?ho ?hcd ?hbind ?hloc ?_ ?hco ?hgen ?hk ?hcell
  walk_at "def"
  intro L' h₁ tk₁ hl R'
  refine' P_execs_cons ?_
  refine' P_Assign_Tuple ?_ ?hs ?hw
  case hs => exact rfl
  case hw => exact rfl
  refine' P_methodCall ?_ ?he
  case he => exact rfl
  walk_at "4"
  refine' P_callK (K := (KK w.params)) ?hk ?_ ?he ?hp
  case he => exact rfl
  case hp => exact rfl
  case hk => k_is
  walk_at "8"
  rename RC _ _ _ _ _ _ => r0
  refine' ctx_dec_no_ct (bb := bb) G (by walk_at "om") (O.deep (by decide)) r0 F.deep hr hs l1 l2 l3 l4 l5 l6 hno ho ?_
  intro e h' n' tk' hn fl
  refine' leave_on fl F ?_
  intro h3 fl3
  exact k _ _ _ _ (by walk_at "om") fl3
theorem ctx_dec_una_ct {c cd : Nat} {sv hv kv secv vv v1 v2 v3 : Value}
    (G : Gd (KK w.params) H0) (hz : H0.objs.size ≤ n) (O : Ok A 10) (R : RC w.params H0 fs H n h) (F : FrOk A fs) (hc : CtxV H c cd .none sv hv kv secv vv)
    (k : ∀ e h' n' tk', n ≤ n' → Fly w.params H0 fs H n' A e (.ref 195) h' → E (.ref e) ⟨h', g, d, tk', os⟩) :
    wpAny (model prog w) A (call (.ref 226) [.ref c, v1, v2, v3]) Q E ⟨h, g, d, tk, os⟩ := by
  obtain ⟨e1, e2⟩ := hc
  refine' r_defE (binds := [("self", .ref c), ("packet", v1), ("encrypted_offset", v2), ("expected_packet_number", v3)]) R ?G hz O.room ?ho ?hcd ?hbind ?hloc ?_ ?hco ?hgen ?hk ?hcell
  walk_at "def"
  intro L' h₁ tk₁ hl R'
  walk_at "11"
  rename RC _ _ _ _ _ _ => r0
  refine' r_raise (C := 195) r0 G O.hd ?ex ?q (fun Q' E' hq => r_str (fun t tk' => hq _ _)) ?_
  case ex => k_is
  case q => k_exc
  intro h2 e vs tk2 hm hsz
  refine' leave_new r0 F hm hsz ?_
  intro h3 fl
  exact k _ _ _ _ (by walk_at "om") fl
theorem pair_dec_una_ct {p pd rc rcd sc : Nat} {ask : Bool} {sv hv kv secv vv v1 v2 v3 : Value}
    (G : Gd (KK w.params) H0) (hz : H0.objs.size ≤ n) (O : Ok A 12) (R : RC w.params H0 fs H n h) (F : FrOk A fs) (hp : PairV H p pd rc sc ask) (hc : CtxV H rc rcd .none sv hv kv secv vv)
    (hi : handedIn v1 = true) (hi2 : handedIn v2 = true) (hi3 : handedIn v3 = true)
    (k : ∀ e h' n' tk', n ≤ n' → Fly w.params H0 fs H n' A e (.ref 195) h' → E (.ref e) ⟨h', g, d, tk', os⟩) :
    wpAny (model prog w) A (call (.ref 297) [.ref p, v1, v2, v3]) Q E ⟨h, g, d, tk, os⟩ := by
  refine' PairV.el hp ?_
  intro t e1 e2
  obtain ⟨f1, f2⟩ := id hc
  refine' r_defE (binds := [("self", .ref p), ("packet", v1), ("encrypted_offset", v2), ("expected_packet_number", v3)]) R ?G hz O.room ?ho ?hcd ?hbind ?hloc ?_ ?hco ?hgen ?hk ?hcell
  walk_at "def"
  intro L' h₁ tk₁ hl R'
  walk_at "16"
  rename RC _ _ _ _ _ _ => r0
  refine' ctx_dec_una_ct G (by walk_at "om") (O.deep (by decide)) r0 F.deep hc ?_
  intro e h' n' tk' hn fl
  refine' leave_on fl F ?_
  intro h3 fl3
  exact k _ _ _ _ (by walk_at "om") fl3
theorem ctx_tear_ct {c cd : Nat} {suite version kp : Int} {secret hpk : List UInt8}
    (G : Gd (KK w.params) H0) (hz : H0.objs.size ≤ n) (O : Ok A 2) (R : RC w.params H0 fs H n h) (hc : CtxAt H c cd suite version kp secret hpk)
    (k : ∀ H' h' n' tk' t1 t2, n ≤ n' → Only [cd] H H' → CtxV H' c cd .none .none .none (.int kp t1) .none (.int version t2) → RC w.params H0 fs H' n' h' → Q .none ⟨h', g, d, tk', os⟩) :
    wpAny (model prog w) A (call (.ref 254) [.ref c]) Q E ⟨h, g, d, tk, os⟩ := by
  refine' CtxAt.el hc ?_
  intro a hp t1 t2 t3 t4 e1 e2 hA hB
  have ncd : c ≠ cd := ne_of e1 e2 (fun q => nomatch q)
  refine' r_def (binds := [("self", .ref c)]) R ?G hz O.room ?ho ?hcd ?hbind ?hloc ?_ ?hco ?hgen ?hk ?hcell
  walk_at "def"
  intro L' h₁ tk₁ hl R'
  walk_at "30"
  rename RC _ _ _ _ _ _ => r0
  refine' nocb_ct G (by walk_at "om") (O.deep (by decide)) r0 ?_
  intro h' n' tk' hn3 r1
  clear r0
  walk_at "1"
  rename RC _ _ _ _ _ _ => r0
  exact k _ _ _ _ _ _ (by walk_at "om") (by walk_at "only") ⟨by walk_at "lk", by walk_at "lk"⟩ r0.pop
theorem pair_tear_ct {p pd rc rcd sc scd : Nat} {ask : Bool} {suite version kpR kpS : Int} {secR hpR secS hpS : List UInt8}
    (G : Gd (KK w.params) H0) (hz : H0.objs.size ≤ n) (O : Ok A 4) (R : RC w.params H0 fs H n h) (hp : PairV H p pd rc sc ask) (hr : CtxAt H rc rcd suite version kpR secR hpR) (hsd : CtxAt H sc scd suite version kpS secS hpS) (hne : rcd ≠ scd)
    (k : ∀ H' h' n' tk' t1 t2 t3 t4, n ≤ n' → Only [rcd, scd] H H' → KeepI H H' → PairV H' p pd rc sc ask → CtxV H' rc rcd .none .none .none (.int kpR t1) .none (.int version t2) → CtxV H' sc scd .none .none .none (.int kpS t3) .none (.int version t4) → RC w.params H0 fs H' n' h' → Q .none ⟨h', g, d, tk', os⟩) :
    wpAny (model prog w) A (call (.ref 318) [.ref p]) Q E ⟨h, g, d, tk, os⟩ := by
  refine' PairV.el hp ?_
  intro t e1 e2
  refine' CtxAt.el hr ?_
  intro a0 hp0 v1 v2 v3 v4 f1 f2 hA hB
  refine' CtxAt.el hsd ?_
  intro a1 hp1 x1 x2 x3 x4 g1 g2 hA1 hB1
  have ne1 := hp.ne hr
  have ne2 := hp.ne hsd
  refine' r_def (binds := [("self", .ref p)]) R ?G hz O.room ?ho ?hcd ?hbind ?hloc ?_ ?hco ?hgen ?hk ?hcell
  walk_at "def"
  intro L' h₁ tk₁ hl R'
  walk_at "8"
  rename RC _ _ _ _ _ _ => r0
  refine' ctx_tear_ct G (by walk_at "om") (O.deep (by decide)) r0 hr ?_
  intro H1 h' n' tk' y1 y2 hn o1 hc1 r1
  clear r0
  have k1 : KeepI H H1 := KeepI.only (KeepI.refl _) o1 hr.nimm
  have hp1 := hp.keep o1 k1 (by simpa using ne1)
  have hs1 := hsd.only o1 k1 (by simpa using Ne.symm hne)
  refine' PairV.el hp1 ?_
  intro t' e1a e2a
  refine' CtxAt.el hs1 ?_
  intro a1 hp1' x1 x2 x3 x4 g1a g2a hA1 hB1
  walk_at "8"
  rename RC _ _ _ _ _ _ => r0
  refine' ctx_tear_ct G (by walk_at "om") (O.deep (by decide)) r0 hs1 ?_
  intro H2 h' n' tk' y3 y4 hn2 o2 hc2 r1
  clear r0
  have k2 : KeepI H1 H2 := KeepI.only (KeepI.refl _) o2 hs1.nimm
  have hp2 := hp1.keep o2 k2 (by simpa using ne2)
  obtain ⟨hc1a, hc1b⟩ := hc1
  walk_at "1"
  rename RC _ _ _ _ _ _ => r0
  exact k _ _ _ _ _ _ _ _ (by walk_at "om") (fun a x na e => by
    simp only [List.mem_cons, List.not_mem_nil, or_false, not_or] at na
    exact o2 a x (by simpa using na.2) (o1 a x (by simpa using na.1) e)) (k1.trans k2) hp2 ⟨k2 _ _ (show Imm (.inst _ _) from trivial) hc1a, o2 _ _ (by simpa using hne) hc1b⟩ hc2 r0.pop
end
section
variable {prog : Program} {w : World} {A : Around} {H0 h : Heap} {fs : List (Nat × Map)} {H : PH} {n : Nat} {L : Nat} {m : Map} {g : Array GenState} {d : Drawn} {tk : Nat} {os : OsState} {bb : Nat}
  {E : Value → Shared → Prop} {Q : Value → Shared → Prop}
open Pl
structure SideAt (H : PH) (suite version : Int) (p pd rc rcd sc scd : Nat) (bS bR c : Nat) (ask : Bool) : Prop where
  pv : PairV H p pd rc sc ask
  r : CtxAt H rc rcd suite version ((c % 2 : Nat) : Int) (secB suite (bR + c)) (hpB suite version (secB suite bR))
  s : CtxAt H sc scd suite version ((c % 2 : Nat) : Int) (secB suite (bS + c)) (hpB suite version (secB suite bS))
  ne : rcd ≠ scd
theorem SideAt.keep {S : List Nat} {H H' : PH} {suite version : Int} {p pd rc rcd sc scd bS bR c : Nat} {ask : Bool} (h : SideAt H suite version p pd rc rcd sc scd bS bR c ask) (o : Only S H H') (k : KeepI H H') (h1 : pd ∉ S) (h2 : rcd ∉ S) (h3 : scd ∉ S) :
    SideAt H' suite version p pd rc rcd sc scd bS bR c ask := ⟨h.pv.keep o k h1, h.r.only o k h2, h.s.only o k h3, h.ne⟩
theorem SideAt.le {H H' : PH} {suite version : Int} {p pd rc rcd sc scd bS bR c : Nat} {ask : Bool} (h : SideAt H suite version p pd rc rcd sc scd bS bR c ask) (o : H.le H') : SideAt H' suite version p pd rc rcd sc scd bS bR c ask :=
  h.keep (S := []) (fun a x _ e => o a x e) (fun a x _ e => o a x e) List.not_mem_nil List.not_mem_nil List.not_mem_nil
noncomputable def IsDic (H : PH) (S : List Nat) : Prop := ∀ b ∈ S, ∃ l, H b = some (.dic l)
theorem only_lst {S : List Nat} {H H' : PH} (o : Only S H H') (d : IsDic H S) {a : Nat} {vs : List Value} (e : H a = some (.lst vs)) : H' a = some (.lst vs) :=
  o a _ (fun m => by obtain ⟨l, q⟩ := d a m; rw [e] at q; cases q) e
theorem only_prp {S : List Nat} {H H' : PH} (o : Only S H H') (d : IsDic H S) {a : Nat} {p : Obj → Prop} (e : H a = some (.prp p)) : H' a = some (.prp p) :=
  o a _ (fun m => by obtain ⟨l, q⟩ := d a m; rw [e] at q; cases q) e
theorem StC.only {H H' : PH} {S : List Nat} {st cl : Nat} {b : Int} (h : StC H st cl b) (o : Only S H H') (d : IsDic H S) : StC H' st cl b := by
  obtain ⟨at_, t0, vs, cells, hs, hc, r⟩ := h
  exact ⟨at_, t0, vs, cells, only_lst o d hs, only_lst o d hc, r⟩
theorem PairV.isdic {H : PH} {p pd rc sc : Nat} {ask : Bool} (h : PairV H p pd rc sc ask) : ∃ l, H pd = some (.dic l) := let ⟨_, _, e⟩ := h; ⟨_, e⟩
theorem CtxAt.isdic {H : PH} {c cd : Nat} {suite version kp : Int} {secret hpk : List UInt8} (h : CtxAt H c cd suite version kp secret hpk) : ∃ l, H cd = some (.dic l) := let ⟨_, _, _, _, _, _, ⟨_, e⟩, _⟩ := h.ex; ⟨_, e⟩
theorem SideAt.isdic {H : PH} {suite version : Int} {p pd rc rcd sc scd bS bR c : Nat} {ask : Bool} (h : SideAt H suite version p pd rc rcd sc scd bS bR c ask) : IsDic H [pd, rcd, scd] := by
  intro b hb
  simp only [List.mem_cons, List.not_mem_nil, or_false] at hb
  rcases hb with rfl | rfl | rfl
  · exact h.pv.isdic
  · exact h.r.isdic
  · exact h.s.isdic
theorem SideAt.lst_ne {H : PH} {suite version : Int} {p pd rc rcd sc scd bS bR c : Nat} {ask : Bool} (h : SideAt H suite version p pd rc rcd sc scd bS bR c ask) {a : Nat} {vs : List Value} (e : H a = some (.lst vs)) : pd ≠ a ∧ rcd ≠ a ∧ scd ≠ a := by
  obtain ⟨l1, e1⟩ := h.pv.isdic
  obtain ⟨l2, e2⟩ := h.r.isdic
  obtain ⟨l3, e3⟩ := h.s.isdic
  exact ⟨ne_of e1 e (fun q => nomatch q), ne_of e2 e (fun q => nomatch q), ne_of e3 e (fun q => nomatch q)⟩
theorem SideAt.setl {H : PH} {suite version : Int} {p pd rc rcd sc scd bS bR c : Nat} {ask : Bool} (h : SideAt H suite version p pd rc rcd sc scd bS bR c ask) {a : Nat} {vs : List Value} {x : AO} (e : H a = some (.lst vs)) : SideAt (H.set a x) suite version p pd rc rcd sc scd bS bR c ask := by
  obtain ⟨n1, n2, n3⟩ := h.lst_ne e
  exact h.keep (S := [a]) (Only.set _ (Only.refl _ _) (List.mem_singleton.mpr rfl)) (KeepI.set (KeepI.refl _) e nimm_lst) (by simpa using n1) (by simpa using n2) (by simpa using n3)
theorem CtxV.kp {H H' : PH} {c cd : Nat} {av sv hv kv secv vv : Value} (h : CtxV H c cd av sv hv kv secv vv) (o : Only [cd] H H') : KeepI H H' := KeepI.only (KeepI.refl _) o (fun b hb z e => by
  rw [List.mem_singleton.mp hb, h.2] at e
  cases e; exact nimm_ctx)
theorem CtxV.only {S : List Nat} {H H' : PH} {c cd : Nat} {av sv hv kv secv vv : Value} (h : CtxV H c cd av sv hv kv secv vv) (o : Only S H H') (k : KeepI H H') (h2 : cd ∉ S) : CtxV H' c cd av sv hv kv secv vv :=
  ⟨k _ _ trivial h.1, o _ _ h2 h.2⟩
theorem CtxV.le {H H' : PH} {c cd : Nat} {av sv hv kv secv vv : Value} (h : CtxV H c cd av sv hv kv secv vv) (o : H.le H') : CtxV H' c cd av sv hv kv secv vv := ⟨o _ _ h.1, o _ _ h.2⟩
theorem PairV.neV {H : PH} {p pd rc sc c cd : Nat} {ask : Bool} {av sv hv kv secv vv : Value} (h : PairV H p pd rc sc ask) (h' : CtxV H c cd av sv hv kv secv vv) : pd ≠ cd := by
  obtain ⟨t, e1, e2⟩ := h
  refine ne_of e2 h'.2 (fun q => ?_)
  injection q with q
  injection q with q1 q2
  exact absurd (show Str.ofString "aead_tag_size" = Str.ofString "aead" from congrArg Prod.fst q1) (by decide)
noncomputable def Side0 (H : PH) (p pd rc rcd sc scd : Nat) : Prop := PairV H p pd rc sc false ∧ (∃ u, CtxV H rc rcd .none .none .none (.int 0 u) .none .none) ∧ (∃ u, CtxV H sc scd .none .none .none (.int 0 u) .none .none) ∧ rcd ≠ scd
theorem Side0.keep {S : List Nat} {H H' : PH} {p pd rc rcd sc scd : Nat} (h : Side0 H p pd rc rcd sc scd) (o : Only S H H') (k : KeepI H H') (h1 : pd ∉ S) (h2 : rcd ∉ S) (h3 : scd ∉ S) : Side0 H' p pd rc rcd sc scd :=
  ⟨h.1.keep o k h1, h.2.1.imp fun _ q => q.only o k h2, h.2.2.1.imp fun _ q => q.only o k h3, h.2.2.2⟩
noncomputable def SInv (st cl sd : Nat) (suite version : Int) (X Y : Nat) (p pd rc rcd sc scd p' pd' rc' rcd' sc' scd' : Nat) (b : Int) (Hb : PH) (i : Nat) (H' : PH) (m' : Map) : Prop :=
  Hb.le H' ∧ StC H' st cl b ∧ H' sd = some (.lst [.ref p, .ref p']) ∧
  (if 0 < i then SideAt H' suite version p pd rc rcd sc scd X Y 0 false else Side0 H' p pd rc rcd sc scd) ∧
  (if 1 < i then SideAt H' suite version p' pd' rc' rcd' sc' scd' Y X 0 false else Side0 H' p' pd' rc' rcd' sc' scd') ∧
  m' "sides" = some (.ref sd) ∧ (∃ t, m' "suite" = some (.int suite t)) ∧ (∃ t, m' "there" = some (.bytes (secB suite X).toArray t)) ∧ (∃ t, m' "back" = some (.bytes (secB suite Y).toArray t)) ∧ (∃ t, m' "version" = some (.int version t))
theorem raw_keep {H' H'' : PH} {it : Nat} {o : Obj} (oo : Only [it] H' H'') (ho : H' it = some (.raw o)) : KeepI H' H'' := KeepI.only (KeepI.refl _) oo (fun b hb z e => by
  rw [List.mem_singleton.mp hb, ho] at e
  cases e; exact nimm_raw)
theorem raw_lst {H' H'' : PH} {it : Nat} {o : Obj} (oo : Only [it] H' H'') (ho : H' it = some (.raw o)) {a : Nat} {vs : List Value} (e : H' a = some (.lst vs)) : H'' a = some (.lst vs) := oo a _ (by simpa using ne_of e ho (fun q => nomatch q)) e
theorem raw_prp {H' H'' : PH} {it : Nat} {o : Obj} (oo : Only [it] H' H'') (ho : H' it = some (.raw o)) {a : Nat} {p : Obj → Prop} (e : H' a = some (.prp p)) : H'' a = some (.prp p) := oo a _ (by simpa using ne_of e ho (fun q => nomatch q)) e
theorem raw_dic {H' H'' : PH} {it : Nat} {o : Obj} (ho : H' it = some (.raw o)) {a : Nat} (e : ∃ l, H' a = some (.dic l)) : a ∉ [it] := by obtain ⟨l, e⟩ := e; simpa using ne_of e ho (fun q => nomatch q)
theorem SideAt.raw {H' H'' : PH} {it : Nat} {o : Obj} {suite version : Int} {p pd rc rcd sc scd bS bR c : Nat} {ask : Bool} (h : SideAt H' suite version p pd rc rcd sc scd bS bR c ask) (oo : Only [it] H' H'') (ho : H' it = some (.raw o)) :
    SideAt H'' suite version p pd rc rcd sc scd bS bR c ask := h.keep oo (raw_keep oo ho) (raw_dic (H'' := H'') ho h.pv.isdic) (raw_dic (H'' := H'') ho h.r.isdic) (raw_dic (H'' := H'') ho h.s.isdic)
theorem Side0.raw {H' H'' : PH} {it : Nat} {o : Obj} {p pd rc rcd sc scd : Nat} (h : Side0 H' p pd rc rcd sc scd) (oo : Only [it] H' H'') (ho : H' it = some (.raw o)) :
    Side0 H'' p pd rc rcd sc scd := by
  obtain ⟨a, ⟨_, b⟩, ⟨_, c⟩, _⟩ := id h
  exact h.keep oo (raw_keep oo ho) (raw_dic (H'' := H'') ho a.isdic) (raw_dic (H'' := H'') ho ⟨_, b.2⟩) (raw_dic (H'' := H'') ho ⟨_, c.2⟩)
theorem StC.raw {H' H'' : PH} {it : Nat} {o : Obj} {st cl : Nat} {b : Int} (h : StC H' st cl b) (oo : Only [it] H' H'') (ho : H' it = some (.raw o)) : StC H'' st cl b := by
  obtain ⟨at_, t0, vs, cells, hs, hc, r⟩ := h
  exact ⟨at_, t0, vs, cells, raw_lst oo ho hs, raw_lst oo ho hc, r⟩
theorem sides_ct {st cl : Nat} {b : Int}
    (G : Gd (KK w.params) H0) (hz : H0.objs.size ≤ n) (O : Ok A 14) (R : RC w.params H0 fs H n h) (hs : StC H st cl b) (hb : b < 2 ^ 20)
    (k : ∀ (sd : Nat) (suite version : Int) (x y : Nat) (p pd rc rcd sc scd p' pd' rc' rcd' sc' scd' : Nat) z H' h' n' tk', Suite suite → x < 256 ^ 5 → y < 2 * 256 ^ 5 → n ≤ n' → (H.set st z).le H' → StC H' st cl (b + 4) → n ≤ sd → H' sd = some (.lst [.ref p, .ref p']) →
      SideAt H' suite version p pd rc rcd sc scd x y 0 false → SideAt H' suite version p' pd' rc' rcd' sc' scd' y x 0 false → (∀ q ∈ [pd, rcd, scd], q ∉ [pd', rcd', scd']) → RC w.params H0 fs H' n' h' → Q (.ref sd) ⟨h', g, d, tk', os⟩) :
    wpAny (model prog w) A (call (.ref 417) [.ref st]) Q E ⟨h, g, d, tk, os⟩ := by
  obtain ⟨at_, t0, vs, cells, s1, s2, _⟩ := id hs
  have bst := R.lt s1
  have bn0 := R.bnd
  refine' r_def (binds := [("state", .ref st)]) R ?G hz O.room ?ho ?hcd ?hbind ?hloc ?_ ?hco ?hgen ?hk ?hcell
  walk_at "def"
  intro L' h₁ tk₁ hl R'
  walk_at "27"
  rename RC _ _ _ _ _ _ => r0
  refine' take_ct G (by walk_at "om") (O.deep (by decide)) r0 (hs.le ?lle) (by decide) (by walk_at "om") ?_
  case lle => walk_at "le"
  intro v t x1 h' n' tk' v0 v1 hn hs1 r1
  clear r0
  have bn1 := r1.bnd
  walk_at "0"
  rename RC _ _ _ _ _ _ => r0
  refine' r_item_ints (ns := [4865, 4866, 4867]) r0 ?e ?hi v0 (by walk_at "om") (by simp only [List.length_cons, List.length_nil]; walk_at "om") ?_
  case e => walk_at "lk"
  case hi => walk_at "intsare"
  intro ts
  have hsu : Suite (([4865, 4866, 4867] : List Int).getD v.toNat 0) := by
    obtain rfl | rfl | rfl : v = 0 ∨ v = 1 ∨ v = 2 := by walk_at "om"
    · exact .inl rfl
    · exact .inr (.inl rfl)
    · exact .inr (.inr rfl)
  generalize ([4865, 4866, 4867] : List Int).getD v.toNat 0 = suite at hsu ⊢
  walk_at "11"
  split
  · rename_i hc
    have hc' : suite = 4866 := of_decide_eq_true hc
    have ea : algI suite = 48 := if_pos hc'
    have eT : ∀ v : Nat, toBE (Int.toNat 6) v ++ List.replicate (Int.toNat (48 - 6)) 0 = secB suite v := fun v => by unfold secB; rw [ea]; rfl
    walk_at "21"
    rename RC _ _ _ _ _ _ => r0
    refine' take_ct G (by walk_at "om") (O.deep (by decide)) r0 (hs1.le ?lle) (by decide) (by walk_at "om") ?_
    case lle => walk_at "le"
    intro v2 t2 x2 h' n' tk' v20 v21 hn2 hs2 r1
    clear r0
    have bn2 := r1.bnd
    walk_at "0"
    rename RC _ _ _ _ _ _ => r0
    refine' r_item_ints (ns := [1, 1798521807]) r0 ?e ?hi v20 (by walk_at "om") (by simp only [List.length_cons, List.length_nil]; walk_at "om") ?_
    case e => walk_at "lk"
    case hi => walk_at "intsare"
    intro ts2
    generalize ([1, 1798521807] : List Int).getD v2.toNat 0 = version
    walk_at "17"
    rename RC _ _ _ _ _ _ => r0
    refine' take_ct G (by walk_at "om") (O.deep (by decide)) r0 (hs2.le ?lle) (by decide) (by walk_at "om") ?_
    case lle => walk_at "le"
    intro v3 t3 x3 h' n' tk' v30 v31 hn3 hs3 r1
    clear r0
    have bn3 := r1.bnd
    have v31' : v3 < 1099511627776 := v31
    walk_at "41"
    rename RC _ _ _ _ _ _ => r0
    refine' take_ct G (by walk_at "om") (O.deep (by decide)) r0 (hs3.le ?lle) (by decide) (by walk_at "om") ?_
    case lle => walk_at "le"
    intro v4 t4 x4 h' n' tk' v40 v41 hn4 hs4 r1
    clear r0
    generalize hHb : PH.set (PH.set (PH.set _ st x2) st x3) st x4 = Hb at hs4 r1
    have bnH := r1.bnd
    have v41' : v4 < 1099511627776 := v41
    walk_at "32"
    rename RC _ _ _ _ _ _ => r0
    have eY : ((256 : Int) ^ Int.toNat 5 + v4).toNat = v4.toNat + 256 ^ 5 := by
      have : ((256 : Int) ^ Int.toNat 5) = 1099511627776 := by decide
      rw [this]; walk_at "om"
    rw [eT, eT, eY] at r0
    have bl1 := hsu
    refine' pair_new_ct G (by walk_at "om") (O.deep (by decide)) r0 ?_
    intro p pd rc rcd sc scd H1 h' n' tk' u1 u2 hp1 hp2 hp3 hp4 hp5 hp6 hp7 hn5 le1 hPV hR hS r1
    clear r0
    have bn5 := r1.bnd
    walk_at "8"
    rename RC _ _ _ _ _ _ => r0
    refine' pair_new_ct G (by walk_at "om") (O.deep (by decide)) r0 ?_
    intro p' pd' rc' rcd' sc' scd' H2 h' n' tk' u3 u4 hq1 hq2 hq3 hq4 hq5 hq6 hq7 hn6 le2 hPV' hR' hS' r1
    clear r0
    have bn6 := r1.bnd
    have st6 := (hs4.le le1).le le2
    have L2 := PH.le_trans le1 le2
    have s0a : Side0 H2 p pd rc rcd sc scd := Side0.keep (S := []) ⟨hPV, ⟨_, hR⟩, ⟨_, hS⟩, hp7⟩ (fun a x _ e => le2 a x e) (fun a x _ e => le2 a x e) List.not_mem_nil List.not_mem_nil List.not_mem_nil
    have s1a : Side0 H2 p' pd' rc' rcd' sc' scd' := ⟨hPV', ⟨_, hR'⟩, ⟨_, hS'⟩, hq7⟩
    have z1 := bn5.lt hPV.choose_spec.2
    have z2 := bn5.lt hR.2
    have z3 := bn5.lt hS.2
    walk_at "13"
    rename RC _ _ _ _ _ _ => r0
    rename_i aSD _ _ _ _ _ _ aRG _ _
    rename Nat => aIT
    refine' range_turns2 (N := 2) ?hh r0 ?e (SInv st cl aSD suite version v3.toNat (v4.toNat + 256 ^ 5) p pd rc rcd sc scd p' pd' rc' rcd' sc' scd' (b + 1 + 1 + 1 + 1) Hb) ?i0 ?turn ?fin ?hinv ?hk ?hl
    case hk => exact rfl
    case hl => exact rfl
    case hh => exact O.hd
    case e => exact PH.set_self _ _ _
    case i0 =>
      have LL := fun y => (show H2.le (((H2.set aSD (AO.lst [Value.ref p, Value.ref p'])).set aRG y).set aIT (AO.rng 0 2)) by walk_at "le")
      refine ⟨PH.le_trans L2 (LL _), st6.le (LL _), by walk_at "lk", ?_, ?_, rfl, ⟨_, rfl⟩, ⟨_, rfl⟩, ⟨_, rfl⟩, ⟨_, rfl⟩⟩
      · rw [if_neg (by decide)]
        exact s0a.keep (S := []) (fun a x _ e => LL _ a x e) (fun a x _ e => LL _ a x e) List.not_mem_nil List.not_mem_nil List.not_mem_nil
      · rw [if_neg (by decide)]
        exact s1a.keep (S := []) (fun a x _ e => LL _ a x e) (fun a x _ e => LL _ a x e) List.not_mem_nil List.not_mem_nil List.not_mem_nil
    case hinv =>
      rintro i H' H'' m' oo ⟨o, ho⟩ ⟨i1, i2, i3, i4, i5, i6⟩
      refine ⟨fun b z e => oo b z (by have := bnH.lt e; simp only [List.mem_singleton]; walk_at "om") (i1 b z e), i2.raw oo ho, raw_lst oo ho i3, ?_, ?_, i6⟩
      · split
        · rename_i c; rw [if_pos c] at i4; exact i4.raw oo ho
        · rename_i c; rw [if_neg c] at i4; exact i4.raw oo ho
      · split
        · rename_i c; rw [if_pos c] at i5; exact i5.raw oo ho
        · rename_i c; rw [if_neg c] at i5; exact i5.raw oo ho
    case turn =>
      rintro i H' m' n' h' tk' tk'' hi ⟨i1, i2, i3, i4, i5, i6, ⟨_, i7⟩, ⟨_, i8⟩, ⟨_, i9⟩, ⟨_, i10⟩⟩ hn hit r1
      refine' q_abs ?_
      intro TQ hTQ
      have bnt := r1.bnd
      have okX : SecOk (100 + 1) (secB suite v3.toNat) := secB_ok (by walk_at "om")
      have okY : SecOk (100 + 1) (secB suite (v4.toNat + 256 ^ 5)) := secB_ok (by walk_at "om")
      clear r0
      have hi' : i = 0 ∨ i = 1 := by walk_at "om"
      rcases hi' with rfl | rfl
      · rw [if_neg (by decide)] at i4 i5
        obtain ⟨pV, ⟨_, cR⟩, ⟨_, cS⟩, hne⟩ := i4
        have okS := okX
        have okR := okY
        refine' PairV.el pV ?_
        intro t0 pe1 pe2
        obtain ⟨cs1, cs2⟩ := id cS
        walk_at "28"
        rename RC _ _ _ _ _ _ => r0
        refine' ctx_setup_ct (bb := 100) G (by walk_at "om") (O.deep (by decide)) r0 (cS.le ?lle) hsu okS ?_
        case lle => walk_at "le"
        intro H3 h' n' tk' hn7 o3 hC3 r1
        clear r0
        have bn3 := r1.bnd
        have o3' : Only [scd] H' H3 := fun b z nb e => o3 b z nb (by have := bnt.lt e; walk_at "lk")
        have k3 := cS.kp o3'
        have pV3 := pV.keep o3' k3 (by simpa using pV.neV cS)
        have cR3 := cR.only o3' k3 (by simpa using hne)
        have hsd3 : H3 aSD = _ := o3' _ _ (by simpa using ne_of i3 cS.2 (fun q => nomatch q)) i3
        refine' PairV.el pV3 ?_
        intro t0 pe1 pe2
        have cR3' := id cR3
        obtain ⟨ce1, ce2⟩ := cR3'
        walk_at "28"
        rename RC _ _ _ _ _ _ => r0
        refine' ctx_setup_ct (bb := 100) G (by walk_at "om") (O.deep (by decide)) r0 (cR3.le ?lle) hsu okR ?_
        case lle => walk_at "le"
        intro H4 h' n' tk' hn8 o4 hC4 r1
        clear r0
        have bn4 := r1.bnd
        have o4' : Only [rcd] H3 H4 := fun b z nb e => o4 b z nb (by have := bn3.lt e; walk_at "lk")
        have k4 := cR3.kp o4'
        have pV4 := pV3.keep o4' k4 (by simpa using pV3.neV cR3)
        have hC3' := hC3.only o4' k4 (by simpa using Ne.symm hne)
        have hsd4 : H4 aSD = _ := o4' _ _ (by simpa using ne_of hsd3 cR3.2 (fun q => nomatch q)) hsd3
        have oo : Only [rcd, scd] H' H4 := fun b z nb e => by
          simp only [List.mem_cons, List.not_mem_nil, or_false, not_or] at nb
          exact o4' b z (by simpa using nb.1) (o3' b z (by simpa using nb.2) e)
        have kk := k3.trans k4
        have hdd : IsDic H' [rcd, scd] := by
          intro b hb
          simp only [List.mem_cons, List.not_mem_nil, or_false] at hb
          rcases hb with rfl | rfl
          · exact ⟨_, cR.2⟩
          · exact ⟨_, cS.2⟩
        have st4 := i2.only oo hdd
        have hit4 : H4 _ = _ := oo _ _ (by simp only [List.mem_cons, List.not_mem_nil, or_false, not_or]; exact ⟨ne_of hit cR.2 (fun q => nomatch q), ne_of hit cS.2 (fun q => nomatch q)⟩) hit
        have sd4 : SideAt H4 suite version p pd rc rcd sc scd v3.toNat (v4.toNat+256^5) 0 false := ⟨pV4, hC4, hC3', hne⟩
        walk_at "1"
        rename RC _ _ _ _ _ _ => r0
        refine hTQ _ _ (turn_next r0 (by walk_at "om") hit4 ⟨fun b z e => oo b z (by have := bnH.lt e; simp only [List.mem_cons, List.not_mem_nil, or_false, not_or]; walk_at "om") (i1 b z e), st4, hsd4, ?_, ?_, i6, ⟨_, i7⟩, ⟨_, i8⟩, ⟨_, i9⟩, ⟨_, i10⟩⟩)
        · rw [if_pos (by decide)]; exact sd4
        · rw [if_neg (by decide)]; exact i5.keep oo kk (by simp only [List.mem_cons, List.not_mem_nil, or_false, not_or]; walk_at "om") (by simp only [List.mem_cons, List.not_mem_nil, or_false, not_or]; walk_at "om") (by simp only [List.mem_cons, List.not_mem_nil, or_false, not_or]; walk_at "om")
      · rw [if_pos (by decide)] at i4
        rw [if_neg (by decide)] at i5
        obtain ⟨pV, ⟨_, cR⟩, ⟨_, cS⟩, hne⟩ := i5
        have okS := okY
        have okR := okX
        refine' PairV.el pV ?_
        intro t0 pe1 pe2
        obtain ⟨cs1, cs2⟩ := id cS
        walk_at "28"
        rename RC _ _ _ _ _ _ => r0
        refine' ctx_setup_ct (bb := 100) G (by walk_at "om") (O.deep (by decide)) r0 (cS.le ?lle) hsu okS ?_
        case lle => walk_at "le"
        intro H3 h' n' tk' hn7 o3 hC3 r1
        clear r0
        have bn3 := r1.bnd
        have o3' : Only [scd'] H' H3 := fun b z nb e => o3 b z nb (by have := bnt.lt e; walk_at "lk")
        have k3 := cS.kp o3'
        have pV3 := pV.keep o3' k3 (by simpa using pV.neV cS)
        have cR3 := cR.only o3' k3 (by simpa using hne)
        have hsd3 : H3 aSD = _ := o3' _ _ (by simpa using ne_of i3 cS.2 (fun q => nomatch q)) i3
        refine' PairV.el pV3 ?_
        intro t0 pe1 pe2
        have cR3' := id cR3
        obtain ⟨ce1, ce2⟩ := cR3'
        walk_at "28"
        rename RC _ _ _ _ _ _ => r0
        refine' ctx_setup_ct (bb := 100) G (by walk_at "om") (O.deep (by decide)) r0 (cR3.le ?lle) hsu okR ?_
        case lle => walk_at "le"
        intro H4 h' n' tk' hn8 o4 hC4 r1
        clear r0
        have bn4 := r1.bnd
        have o4' : Only [rcd'] H3 H4 := fun b z nb e => o4 b z nb (by have := bn3.lt e; walk_at "lk")
        have k4 := cR3.kp o4'
        have pV4 := pV3.keep o4' k4 (by simpa using pV3.neV cR3)
        have hC3' := hC3.only o4' k4 (by simpa using Ne.symm hne)
        have hsd4 : H4 aSD = _ := o4' _ _ (by simpa using ne_of hsd3 cR3.2 (fun q => nomatch q)) hsd3
        have oo : Only [rcd', scd'] H' H4 := fun b z nb e => by
          simp only [List.mem_cons, List.not_mem_nil, or_false, not_or] at nb
          exact o4' b z (by simpa using nb.1) (o3' b z (by simpa using nb.2) e)
        have kk := k3.trans k4
        have hdd : IsDic H' [rcd', scd'] := by
          intro b hb
          simp only [List.mem_cons, List.not_mem_nil, or_false] at hb
          rcases hb with rfl | rfl
          · exact ⟨_, cR.2⟩
          · exact ⟨_, cS.2⟩
        have st4 := i2.only oo hdd
        have hit4 : H4 _ = _ := oo _ _ (by simp only [List.mem_cons, List.not_mem_nil, or_false, not_or]; exact ⟨ne_of hit cR.2 (fun q => nomatch q), ne_of hit cS.2 (fun q => nomatch q)⟩) hit
        have sd4 : SideAt H4 suite version p' pd' rc' rcd' sc' scd' (v4.toNat+256^5) v3.toNat 0 false := ⟨pV4, hC4, hC3', hne⟩
        walk_at "1"
        rename RC _ _ _ _ _ _ => r0
        refine hTQ _ _ (turn_next r0 (by walk_at "om") hit4 ⟨fun b z e => oo b z (by have := bnH.lt e; simp only [List.mem_cons, List.not_mem_nil, or_false, not_or]; walk_at "om") (i1 b z e), st4, hsd4, ?_, ?_, i6, ⟨_, i7⟩, ⟨_, i8⟩, ⟨_, i9⟩, ⟨_, i10⟩⟩)
        · rw [if_pos (by decide)]; exact i4.keep oo kk (by simp only [List.mem_cons, List.not_mem_nil, or_false, not_or]; walk_at "om") (by simp only [List.mem_cons, List.not_mem_nil, or_false, not_or]; walk_at "om") (by simp only [List.mem_cons, List.not_mem_nil, or_false, not_or]; walk_at "om")
        · rw [if_pos (by decide)]; exact sd4
    case fin =>
      rintro H' m' n' h' tk' ⟨i1, i2, i3, i4, i5, i6, ⟨_, i7⟩, ⟨_, i8⟩, ⟨_, i9⟩, ⟨_, i10⟩⟩ hn r1
      clear r0
      rw [if_pos (by decide)] at i4 i5
      walk_at "3"
      rename RC _ _ _ _ _ _ => r0
      refine k _ suite version v3.toNat (v4.toNat + 256 ^ 5) p pd rc rcd sc scd p' pd' rc' rcd' sc' scd' x4 _ _ _ _ hsu (by walk_at "om") (by walk_at "om") (by walk_at "om") ?_ (i2.mono (by walk_at "om")) (by walk_at "om") i3 i4 i5 ?_ r0.pop
      · intro a y e
        refine i1 a y ?_
        rw [← hHb]
        by_cases q : a = st
        · subst q
          rw [PH.set_self] at e ⊢; exact e
        · rw [PH.set_ne q] at e
          have := bn0.lt e
          repeat rw [PH.set_ne (by walk_at "om")]
          exact e
      · intro q hq
        have z4 := bn5.lt hPV.choose_spec.2
        simp only [List.mem_cons, List.not_mem_nil, or_false] at hq
        simp only [List.mem_cons, List.not_mem_nil, or_false, not_or]
        walk_at "om"
  · rename_i hc
    have hc' : suite ≠ 4866 := of_decide_eq_false (Bool.eq_false_iff.mpr hc)
    have ea : algI suite = 32 := if_neg hc'
    have eT : ∀ v : Nat, toBE (Int.toNat 6) v ++ List.replicate (Int.toNat (32 - 6)) 0 = secB suite v := fun v => by unfold secB; rw [ea]; rfl
    walk_at "21"
    rename RC _ _ _ _ _ _ => r0
    refine' take_ct G (by walk_at "om") (O.deep (by decide)) r0 (hs1.le ?lle) (by decide) (by walk_at "om") ?_
    case lle => walk_at "le"
    intro v2 t2 x2 h' n' tk' v20 v21 hn2 hs2 r1
    clear r0
    have bn2 := r1.bnd
    walk_at "0"
    rename RC _ _ _ _ _ _ => r0
    refine' r_item_ints (ns := [1, 1798521807]) r0 ?e ?hi v20 (by walk_at "om") (by simp only [List.length_cons, List.length_nil]; walk_at "om") ?_
    case e => walk_at "lk"
    case hi => walk_at "intsare"
    intro ts2
    generalize ([1, 1798521807] : List Int).getD v2.toNat 0 = version
    walk_at "17"
    rename RC _ _ _ _ _ _ => r0
    refine' take_ct G (by walk_at "om") (O.deep (by decide)) r0 (hs2.le ?lle) (by decide) (by walk_at "om") ?_
    case lle => walk_at "le"
    intro v3 t3 x3 h' n' tk' v30 v31 hn3 hs3 r1
    clear r0
    have bn3 := r1.bnd
    have v31' : v3 < 1099511627776 := v31
    walk_at "41"
    rename RC _ _ _ _ _ _ => r0
    refine' take_ct G (by walk_at "om") (O.deep (by decide)) r0 (hs3.le ?lle) (by decide) (by walk_at "om") ?_
    case lle => walk_at "le"
    intro v4 t4 x4 h' n' tk' v40 v41 hn4 hs4 r1
    clear r0
    generalize hHb : PH.set (PH.set (PH.set _ st x2) st x3) st x4 = Hb at hs4 r1
    have bnH := r1.bnd
    have v41' : v4 < 1099511627776 := v41
    walk_at "32"
    rename RC _ _ _ _ _ _ => r0
    have eY : ((256 : Int) ^ Int.toNat 5 + v4).toNat = v4.toNat + 256 ^ 5 := by
      have : ((256 : Int) ^ Int.toNat 5) = 1099511627776 := by decide
      rw [this]; walk_at "om"
    rw [eT, eT, eY] at r0
    have bl1 := hsu
    refine' pair_new_ct G (by walk_at "om") (O.deep (by decide)) r0 ?_
    intro p pd rc rcd sc scd H1 h' n' tk' u1 u2 hp1 hp2 hp3 hp4 hp5 hp6 hp7 hn5 le1 hPV hR hS r1
    clear r0
    have bn5 := r1.bnd
    walk_at "8"
    rename RC _ _ _ _ _ _ => r0
    refine' pair_new_ct G (by walk_at "om") (O.deep (by decide)) r0 ?_
    intro p' pd' rc' rcd' sc' scd' H2 h' n' tk' u3 u4 hq1 hq2 hq3 hq4 hq5 hq6 hq7 hn6 le2 hPV' hR' hS' r1
    clear r0
    have bn6 := r1.bnd
    have st6 := (hs4.le le1).le le2
    have L2 := PH.le_trans le1 le2
    have s0a : Side0 H2 p pd rc rcd sc scd := Side0.keep (S := []) ⟨hPV, ⟨_, hR⟩, ⟨_, hS⟩, hp7⟩ (fun a x _ e => le2 a x e) (fun a x _ e => le2 a x e) List.not_mem_nil List.not_mem_nil List.not_mem_nil
    have s1a : Side0 H2 p' pd' rc' rcd' sc' scd' := ⟨hPV', ⟨_, hR'⟩, ⟨_, hS'⟩, hq7⟩
    have z1 := bn5.lt hPV.choose_spec.2
    have z2 := bn5.lt hR.2
    have z3 := bn5.lt hS.2
    walk_at "13"
    rename RC _ _ _ _ _ _ => r0
    rename_i aSD _ _ _ _ _ _ aRG _ _
    rename Nat => aIT
    refine' range_turns2 (N := 2) ?hh r0 ?e (SInv st cl aSD suite version v3.toNat (v4.toNat + 256 ^ 5) p pd rc rcd sc scd p' pd' rc' rcd' sc' scd' (b + 1 + 1 + 1 + 1) Hb) ?i0 ?turn ?fin ?hinv ?hk ?hl
    case hk => exact rfl
    case hl => exact rfl
    case hh => exact O.hd
    case e => exact PH.set_self _ _ _
    case i0 =>
      have LL := fun y => (show H2.le (((H2.set aSD (AO.lst [Value.ref p, Value.ref p'])).set aRG y).set aIT (AO.rng 0 2)) by walk_at "le")
      refine ⟨PH.le_trans L2 (LL _), st6.le (LL _), by walk_at "lk", ?_, ?_, rfl, ⟨_, rfl⟩, ⟨_, rfl⟩, ⟨_, rfl⟩, ⟨_, rfl⟩⟩
      · rw [if_neg (by decide)]
        exact s0a.keep (S := []) (fun a x _ e => LL _ a x e) (fun a x _ e => LL _ a x e) List.not_mem_nil List.not_mem_nil List.not_mem_nil
      · rw [if_neg (by decide)]
        exact s1a.keep (S := []) (fun a x _ e => LL _ a x e) (fun a x _ e => LL _ a x e) List.not_mem_nil List.not_mem_nil List.not_mem_nil
    case hinv =>
      rintro i H' H'' m' oo ⟨o, ho⟩ ⟨i1, i2, i3, i4, i5, i6⟩
      refine ⟨fun b z e => oo b z (by have := bnH.lt e; simp only [List.mem_singleton]; walk_at "om") (i1 b z e), i2.raw oo ho, raw_lst oo ho i3, ?_, ?_, i6⟩
      · split
        · rename_i c; rw [if_pos c] at i4; exact i4.raw oo ho
        · rename_i c; rw [if_neg c] at i4; exact i4.raw oo ho
      · split
        · rename_i c; rw [if_pos c] at i5; exact i5.raw oo ho
        · rename_i c; rw [if_neg c] at i5; exact i5.raw oo ho
    case turn =>
      rintro i H' m' n' h' tk' tk'' hi ⟨i1, i2, i3, i4, i5, i6, ⟨_, i7⟩, ⟨_, i8⟩, ⟨_, i9⟩, ⟨_, i10⟩⟩ hn hit r1
      refine' q_abs ?_
      intro TQ hTQ
      have bnt := r1.bnd
      have okX : SecOk (100 + 1) (secB suite v3.toNat) := secB_ok (by walk_at "om")
      have okY : SecOk (100 + 1) (secB suite (v4.toNat + 256 ^ 5)) := secB_ok (by walk_at "om")
      clear r0
      have hi' : i = 0 ∨ i = 1 := by walk_at "om"
      rcases hi' with rfl | rfl
      · rw [if_neg (by decide)] at i4 i5
        obtain ⟨pV, ⟨_, cR⟩, ⟨_, cS⟩, hne⟩ := i4
        have okS := okX
        have okR := okY
        refine' PairV.el pV ?_
        intro t0 pe1 pe2
        obtain ⟨cs1, cs2⟩ := id cS
        walk_at "28"
        rename RC _ _ _ _ _ _ => r0
        refine' ctx_setup_ct (bb := 100) G (by walk_at "om") (O.deep (by decide)) r0 (cS.le ?lle) hsu okS ?_
        case lle => walk_at "le"
        intro H3 h' n' tk' hn7 o3 hC3 r1
        clear r0
        have bn3 := r1.bnd
        have o3' : Only [scd] H' H3 := fun b z nb e => o3 b z nb (by have := bnt.lt e; walk_at "lk")
        have k3 := cS.kp o3'
        have pV3 := pV.keep o3' k3 (by simpa using pV.neV cS)
        have cR3 := cR.only o3' k3 (by simpa using hne)
        have hsd3 : H3 aSD = _ := o3' _ _ (by simpa using ne_of i3 cS.2 (fun q => nomatch q)) i3
        refine' PairV.el pV3 ?_
        intro t0 pe1 pe2
        have cR3' := id cR3
        obtain ⟨ce1, ce2⟩ := cR3'
        walk_at "28"
        rename RC _ _ _ _ _ _ => r0
        refine' ctx_setup_ct (bb := 100) G (by walk_at "om") (O.deep (by decide)) r0 (cR3.le ?lle) hsu okR ?_
        case lle => walk_at "le"
        intro H4 h' n' tk' hn8 o4 hC4 r1
        clear r0
        have bn4 := r1.bnd
        have o4' : Only [rcd] H3 H4 := fun b z nb e => o4 b z nb (by have := bn3.lt e; walk_at "lk")
        have k4 := cR3.kp o4'
        have pV4 := pV3.keep o4' k4 (by simpa using pV3.neV cR3)
        have hC3' := hC3.only o4' k4 (by simpa using Ne.symm hne)
        have hsd4 : H4 aSD = _ := o4' _ _ (by simpa using ne_of hsd3 cR3.2 (fun q => nomatch q)) hsd3
        have oo : Only [rcd, scd] H' H4 := fun b z nb e => by
          simp only [List.mem_cons, List.not_mem_nil, or_false, not_or] at nb
          exact o4' b z (by simpa using nb.1) (o3' b z (by simpa using nb.2) e)
        have kk := k3.trans k4
        have hdd : IsDic H' [rcd, scd] := by
          intro b hb
          simp only [List.mem_cons, List.not_mem_nil, or_false] at hb
          rcases hb with rfl | rfl
          · exact ⟨_, cR.2⟩
          · exact ⟨_, cS.2⟩
        have st4 := i2.only oo hdd
        have hit4 : H4 _ = _ := oo _ _ (by simp only [List.mem_cons, List.not_mem_nil, or_false, not_or]; exact ⟨ne_of hit cR.2 (fun q => nomatch q), ne_of hit cS.2 (fun q => nomatch q)⟩) hit
        have sd4 : SideAt H4 suite version p pd rc rcd sc scd v3.toNat (v4.toNat+256^5) 0 false := ⟨pV4, hC4, hC3', hne⟩
        walk_at "1"
        rename RC _ _ _ _ _ _ => r0
        refine hTQ _ _ (turn_next r0 (by walk_at "om") hit4 ⟨fun b z e => oo b z (by have := bnH.lt e; simp only [List.mem_cons, List.not_mem_nil, or_false, not_or]; walk_at "om") (i1 b z e), st4, hsd4, ?_, ?_, i6, ⟨_, i7⟩, ⟨_, i8⟩, ⟨_, i9⟩, ⟨_, i10⟩⟩)
        · rw [if_pos (by decide)]; exact sd4
        · rw [if_neg (by decide)]; exact i5.keep oo kk (by simp only [List.mem_cons, List.not_mem_nil, or_false, not_or]; walk_at "om") (by simp only [List.mem_cons, List.not_mem_nil, or_false, not_or]; walk_at "om") (by simp only [List.mem_cons, List.not_mem_nil, or_false, not_or]; walk_at "om")
      · rw [if_pos (by decide)] at i4
        rw [if_neg (by decide)] at i5
        obtain ⟨pV, ⟨_, cR⟩, ⟨_, cS⟩, hne⟩ := i5
        have okS := okY
        have okR := okX
        refine' PairV.el pV ?_
        intro t0 pe1 pe2
        obtain ⟨cs1, cs2⟩ := id cS
        walk_at "28"
        rename RC _ _ _ _ _ _ => r0
        refine' ctx_setup_ct (bb := 100) G (by walk_at "om") (O.deep (by decide)) r0 (cS.le ?lle) hsu okS ?_
        case lle => walk_at "le"
        intro H3 h' n' tk' hn7 o3 hC3 r1
        clear r0
        have bn3 := r1.bnd
        have o3' : Only [scd'] H' H3 := fun b z nb e => o3 b z nb (by have := bnt.lt e; walk_at "lk")
        have k3 := cS.kp o3'
        have pV3 := pV.keep o3' k3 (by simpa using pV.neV cS)
        have cR3 := cR.only o3' k3 (by simpa using hne)
        have hsd3 : H3 aSD = _ := o3' _ _ (by simpa using ne_of i3 cS.2 (fun q => nomatch q)) i3
        refine' PairV.el pV3 ?_
        intro t0 pe1 pe2
        have cR3' := id cR3
        obtain ⟨ce1, ce2⟩ := cR3'
        walk_at "28"
        rename RC _ _ _ _ _ _ => r0
        refine' ctx_setup_ct (bb := 100) G (by walk_at "om") (O.deep (by decide)) r0 (cR3.le ?lle) hsu okR ?_
        case lle => walk_at "le"
        intro H4 h' n' tk' hn8 o4 hC4 r1
        clear r0
        have bn4 := r1.bnd
        have o4' : Only [rcd'] H3 H4 := fun b z nb e => o4 b z nb (by have := bn3.lt e; walk_at "lk")
        have k4 := cR3.kp o4'
        have pV4 := pV3.keep o4' k4 (by simpa using pV3.neV cR3)
        have hC3' := hC3.only o4' k4 (by simpa using Ne.symm hne)
        have hsd4 : H4 aSD = _ := o4' _ _ (by simpa using ne_of hsd3 cR3.2 (fun q => nomatch q)) hsd3
        have oo : Only [rcd', scd'] H' H4 := fun b z nb e => by
          simp only [List.mem_cons, List.not_mem_nil, or_false, not_or] at nb
          exact o4' b z (by simpa using nb.1) (o3' b z (by simpa using nb.2) e)
        have kk := k3.trans k4
        have hdd : IsDic H' [rcd', scd'] := by
          intro b hb
          simp only [List.mem_cons, List.not_mem_nil, or_false] at hb
          rcases hb with rfl | rfl
          · exact ⟨_, cR.2⟩
          · exact ⟨_, cS.2⟩
        have st4 := i2.only oo hdd
        have hit4 : H4 _ = _ := oo _ _ (by simp only [List.mem_cons, List.not_mem_nil, or_false, not_or]; exact ⟨ne_of hit cR.2 (fun q => nomatch q), ne_of hit cS.2 (fun q => nomatch q)⟩) hit
        have sd4 : SideAt H4 suite version p' pd' rc' rcd' sc' scd' (v4.toNat+256^5) v3.toNat 0 false := ⟨pV4, hC4, hC3', hne⟩
        walk_at "1"
        rename RC _ _ _ _ _ _ => r0
        refine hTQ _ _ (turn_next r0 (by walk_at "om") hit4 ⟨fun b z e => oo b z (by have := bnH.lt e; simp only [List.mem_cons, List.not_mem_nil, or_false, not_or]; walk_at "om") (i1 b z e), st4, hsd4, ?_, ?_, i6, ⟨_, i7⟩, ⟨_, i8⟩, ⟨_, i9⟩, ⟨_, i10⟩⟩)
        · rw [if_pos (by decide)]; exact i4.keep oo kk (by simp only [List.mem_cons, List.not_mem_nil, or_false, not_or]; walk_at "om") (by simp only [List.mem_cons, List.not_mem_nil, or_false, not_or]; walk_at "om") (by simp only [List.mem_cons, List.not_mem_nil, or_false, not_or]; walk_at "om")
        · rw [if_pos (by decide)]; exact sd4
    case fin =>
      rintro H' m' n' h' tk' ⟨i1, i2, i3, i4, i5, i6, ⟨_, i7⟩, ⟨_, i8⟩, ⟨_, i9⟩, ⟨_, i10⟩⟩ hn r1
      clear r0
      rw [if_pos (by decide)] at i4 i5
      walk_at "3"
      rename RC _ _ _ _ _ _ => r0
      refine k _ suite version v3.toNat (v4.toNat + 256 ^ 5) p pd rc rcd sc scd p' pd' rc' rcd' sc' scd' x4 _ _ _ _ hsu (by walk_at "om") (by walk_at "om") (by walk_at "om") ?_ (i2.mono (by walk_at "om")) (by walk_at "om") i3 i4 i5 ?_ r0.pop
      · intro a y e
        refine i1 a y ?_
        rw [← hHb]
        by_cases q : a = st
        · subst q
          rw [PH.set_self] at e ⊢; exact e
        · rw [PH.set_ne q] at e
          have := bn0.lt e
          repeat rw [PH.set_ne (by walk_at "om")]
          exact e
      · intro q hq
        have z4 := bn5.lt hPV.choose_spec.2
        simp only [List.mem_cons, List.not_mem_nil, or_false] at hq
        simp only [List.mem_cons, List.not_mem_nil, or_false, not_or]
        walk_at "om"
end
section
variable {prog : Program} {w : World} {A : Around} {H0 h : Heap} {fs : List (Nat × Map)} {H : PH} {n : Nat} {L : Nat} {m : Map} {g : Array GenState} {d : Drawn} {tk : Nat} {os : OsState} {bb : Nat}
  {E : Value → Shared → Prop} {Q : Value → Shared → Prop}
open Pl
structure MAt (prog : Program) (w : World) (H : PH) (md cs as ns rs : Nat) (c0 c1 : Nat) (a0 a1 : Bool) (n0 n1 r0 r1 : Nat) : Prop where
  d : H md = some (SD prog w [("counts", .ref cs), ("asked", .ref as), ("numbers", .ref ns), ("rows", .ref rs)])
  c : ∃ t t', H cs = some (.lst [.int (c0 : Nat) t, .int (c1 : Nat) t'])
  a : H as = some (.lst [.bool a0, .bool a1])
  nn : ∃ t t', H ns = some (.lst [.int (n0 : Nat) t, .int (n1 : Nat) t'])
  rr : H rs = some (.lst [.ref r0, .ref r1])
theorem fmod2 (c : Nat) : ((c : Nat) : Int).fmod 2 = ((c % 2 : Nat) : Int) := by
  rw [Int.fmod_eq_emod_of_nonneg _ (by decide)]; walk_at "om"
theorem phases_ct {sd md cs as ns rs c0 c1 n0 n1 q0 q1 : Nat} {a0 a1 : Bool} {suite version : Int} {p pd rc rcd sc scd p' pd' rc' rcd' sc' scd' x y : Nat}
    (G : Gd (KK w.params) H0) (hz : H0.objs.size ≤ n) (O : Ok A 6) (R : RC w.params H0 fs H n h) (hsd : H sd = some (.lst [.ref p, .ref p'])) (hm : MAt prog w H md cs as ns rs c0 c1 a0 a1 n0 n1 q0 q1)
    (s0 : SideAt H suite version p pd rc rcd sc scd x y c0 a0) (s1 : SideAt H suite version p' pd' rc' rcd' sc' scd' y x c1 a1)
    (k : ∀ h' n' tk', n ≤ n' → RC w.params H0 fs H n' h' → Q (.bool true) ⟨h', g, d, tk', os⟩) :
    wpAny (model prog w) A (call (.ref 431) [.ref sd, .ref md]) Q E ⟨h, g, d, tk, os⟩ := by
  obtain ⟨md1, ⟨tc, tc', mc⟩, ma, _, mr⟩ := id hm
  have bn0 := R.bnd
  refine' r_def (binds := [("sides", .ref sd), ("m", .ref md)]) R ?G hz O.room ?ho ?hcd ?hbind ?hloc ?_ ?hco ?hgen ?hk ?hcell
  walk_at "def"
  intro L' h₁ tk₁ hl R'
  walk_at "10"
  rename RC _ _ _ _ _ _ => r0
  refine' range_turns2 (N := 2) ?hh r0 ?e (fun i H' m' => H.le H' ∧ m' "sides" = some (.ref sd) ∧ m' "m" = some (.ref md)) ?i0 ?turn ?fin ?hinv ?hk ?hl
  case hk => exact rfl
  case hl => exact rfl
  case hh => exact O.hd
  case e => exact PH.set_self _ _ _
  case i0 => exact ⟨by walk_at "le", rfl, rfl⟩
  case hinv =>
    rintro i H' H'' m' oo ⟨o, ho⟩ ⟨i1, i2, i3⟩
    exact ⟨PH.le_only i1 oo (bn0.nn (by walk_at "om")), i2, i3⟩
  case fin =>
    rintro H' m' n' h' tk' ⟨i1, i2, i3⟩ hn r1
    clear r0
    walk_at "3"
    rename RC _ _ _ _ _ _ => r0
    exact k _ _ _ (by walk_at "om") (r0.pop.weak i1)
  case turn =>
    rintro i H' m' n' h' tk' tk'' hi ⟨i1, i2, i3⟩ hn hit r1
    refine' q_abs ?_
    intro TQ hTQ
    clear r0
    have hi' : i = 0 ∨ i = 1 := by walk_at "om"
    have e1 := i1 _ _ hsd
    have e2 := i1 _ _ md1
    have e3 := i1 _ _ mc
    have e4 := i1 _ _ ma
    rcases hi' with rfl | rfl
    ·
      obtain ⟨pv, cr, cs', hne⟩ := s0.le i1
      refine' PairV.el pv ?_
      intro t0 pe1 pe2
      refine' CtxAt.el cr ?_
      intro _ _ _ _ _ _ cr1 cr2 _ _
      refine' CtxAt.el cs' ?_
      intro _ _ _ _ _ _ cs1 cs2 _ _
      have f0 : decide (((c0 % 2 : Nat) : Int) ≠ ((c0 : Nat) : Int).fmod 2) = false := by rw [fmod2]; simp
      have f1 : decide (flipI ((c0 % 2 : Nat) : Int) ≠ 1 - ((c0 : Nat) : Int).fmod 2) = false := by
        rw [flip_mod, fmod2]
        refine decide_eq_false (fun q => q ?_)
        walk_at "om"
      walk_at "28"
      rw [f0]
      walk_at "14"
      rw [f0]
      walk_at "12"
      rename RC _ _ _ _ _ _ => r0
      refine' key_phase_ct G (by walk_at "om") (O.deep (by decide)) r0 pv cr ?_
      intro t h' n' tk' hn2 r1
      clear r0
      cases a0 with
      | true =>
        walk_at "17"
        rw [if_pos (rfl : true = true), f1]
        walk_at "3"
        rename RC _ _ _ _ _ _ => r0
        exact hTQ _ _ (turn_next r0 (by walk_at "om") hit ⟨i1, i2, i3⟩)
      | false =>
        walk_at "14"
        rw [if_neg (by decide : ¬ false = true), f0]
        walk_at "3"
        rename RC _ _ _ _ _ _ => r0
        exact hTQ _ _ (turn_next r0 (by walk_at "om") hit ⟨i1, i2, i3⟩)
    ·
      obtain ⟨pv, cr, cs', hne⟩ := s1.le i1
      refine' PairV.el pv ?_
      intro t0 pe1 pe2
      refine' CtxAt.el cr ?_
      intro _ _ _ _ _ _ cr1 cr2 _ _
      refine' CtxAt.el cs' ?_
      intro _ _ _ _ _ _ cs1 cs2 _ _
      have f0 : decide (((c1 % 2 : Nat) : Int) ≠ ((c1 : Nat) : Int).fmod 2) = false := by rw [fmod2]; simp
      have f1 : decide (flipI ((c1 % 2 : Nat) : Int) ≠ 1 - ((c1 : Nat) : Int).fmod 2) = false := by
        rw [flip_mod, fmod2]
        refine decide_eq_false (fun q => q ?_)
        walk_at "om"
      walk_at "28"
      rw [f0]
      walk_at "14"
      rw [f0]
      walk_at "12"
      rename RC _ _ _ _ _ _ => r0
      refine' key_phase_ct G (by walk_at "om") (O.deep (by decide)) r0 pv cr ?_
      intro t h' n' tk' hn2 r1
      clear r0
      cases a1 with
      | true =>
        walk_at "17"
        rw [if_pos (rfl : true = true), f1]
        walk_at "3"
        rename RC _ _ _ _ _ _ => r0
        exact hTQ _ _ (turn_next r0 (by walk_at "om") hit ⟨i1, i2, i3⟩)
      | false =>
        walk_at "14"
        rw [if_neg (by decide : ¬ false = true), f0]
        walk_at "3"
        rename RC _ _ _ _ _ _ => r0
        exact hTQ _ _ (turn_next r0 (by walk_at "om") hit ⟨i1, i2, i3⟩)
end
section
variable {prog : Program} {w : World} {A : Around} {H0 h : Heap} {fs : List (Nat × Map)} {H : PH} {n : Nat} {L : Nat} {m : Map} {g : Array GenState} {d : Drawn} {tk : Nat} {os : OsState} {bb : Nat}
  {E : Value → Shared → Prop} {Q : Value → Shared → Prop}
open Pl
theorem RC.nameH {P : Params} {X : Prop} {H1 Hx : PH} (r : RC P H0 fs Hx n h) (l : H1.le Hx) (k : ∀ Hx, H1.le Hx → RC P H0 fs Hx n h → X) : X := k Hx l r
noncomputable def RowT (H : PH) (suite version : Int) (base : Nat) (v : Value) : Prop := ∃ (a : Nat) (pk hdr text : List UInt8) (off cnt num : Nat) (long : Bool) (t1 t2 t3 t4 t5 t6 : Tok),
  v = .ref a ∧ H a = some (.tup [.bytes pk.toArray t1, .int (off : Nat) t2, .int (cnt : Nat) t3, .bool long, .bytes hdr.toArray t4, .bytes text.toArray t5, .int (num : Nat) t6]) ∧ RowSpec suite version base pk off cnt long hdr text num
theorem RowT.el {X : Prop} {H : PH} {suite version : Int} {base : Nat} {v : Value} (h : RowT H suite version base v) (k : ∀ (a : Nat) (pk hdr text : List UInt8) (off cnt num : Nat) (long : Bool) (t1 t2 t3 t4 t5 t6 : Tok), v = .ref a → H a = some (.tup [.bytes pk.toArray t1, .int (off : Nat) t2, .int (cnt : Nat) t3, .bool long, .bytes hdr.toArray t4, .bytes text.toArray t5, .int (num : Nat) t6]) → RowSpec suite version base pk off cnt long hdr text num → X) : X :=
  let ⟨_, _, _, _, _, _, _, _, _, _, _, _, _, _, e1, e2, e3⟩ := h; k _ _ _ _ _ _ _ _ _ _ _ _ _ _ e1 e2 e3
theorem RowT.keep {H H' : PH} {suite version : Int} {base : Nat} {v : Value} (h : RowT H suite version base v) (k : KeepI H H') : RowT H' suite version base v := by
  obtain ⟨a, pk, hdr, text, off, cnt, num, long, t1, t2, t3, t4, t5, t6, e, e2, r⟩ := h
  exact ⟨a, pk, hdr, text, off, cnt, num, long, t1, t2, t3, t4, t5, t6, e, k _ _ trivial e2, r⟩
structure Dst (st cl sd cs as ns rs q0 q1 : Nat) : Prop where
  f1 : NE st cs
  f2 : NE st as
  f3 : NE st ns
  f4 : NE st rs
  f5 : NE cs as
  f6 : NE cs ns
  f7 : NE cs rs
  f8 : NE as ns
  f9 : NE as rs
  f10 : NE ns rs
  f11 : NE cl st
  f12 : NE cl cs
  f13 : NE cl as
  f14 : NE cl ns
  f15 : NE cl rs
  f16 : NE sd st
  f17 : NE sd cs
  f18 : NE sd as
  f19 : NE sd ns
  f20 : NE sd rs
  f21 : NE q0 st
  f22 : NE q0 cs
  f23 : NE q0 as
  f24 : NE q0 ns
  f25 : NE q0 rs
  f26 : NE q1 st
  f27 : NE q1 cs
  f28 : NE q1 as
  f29 : NE q1 ns
  f30 : NE q1 rs
structure Adr where
  (st cl sd md cs as ns rs q0 q1 p pd rc rcd sc scd p' pd' rc' rcd' sc' scd' : Nat)
structure Adr.Ok (a : Adr) : Prop where
  d : Dst a.st a.cl a.sd a.cs a.as a.ns a.rs a.q0 a.q1
  j : ∀ q ∈ [a.pd, a.rcd, a.scd], q ∉ [a.pd', a.rcd', a.scd']
noncomputable def Adr.S (a : Adr) : List Nat := [a.st, a.cs, a.as, a.ns, a.pd, a.rcd, a.scd, a.pd', a.rcd', a.scd']
structure LS (prog : Program) (w : World) (Hb H : PH) (a : Adr) (suite version : Int) (x y c0 c1 : Nat) (a0 a1 : Bool) (vc va vn : List Value) (b : Int) : Prop where
  st : StC H a.st a.cl b
  sd : H a.sd = some (.lst [.ref a.p, .ref a.p'])
  md : H a.md = some (SD prog w [("counts", .ref a.cs), ("asked", .ref a.as), ("numbers", .ref a.ns), ("rows", .ref a.rs)])
  c : H a.cs = some (.lst vc)
  aa : H a.as = some (.lst va)
  nn : H a.ns = some (.lst vn)
  rr : H a.rs = some (.lst [.ref a.q0, .ref a.q1])
  s0 : SideAt H suite version a.p a.pd a.rc a.rcd a.sc a.scd x y c0 a0
  s1 : SideAt H suite version a.p' a.pd' a.rc' a.rcd' a.sc' a.scd' y x c1 a1
  o : Only a.S Hb H
  k : KeepI Hb H
  nb : ∀ q ∈ a.S, ∀ z, Hb q = some z → ¬ Imm z
section
variable {Hb H H' Hx : PH} {a : Adr} {suite version : Int} {x y c0 c1 c0' c1' : Nat} {a0 a1 a0' a1' : Bool} {vc va vn vl : List Value} {b b' : Int} {z : AO}
theorem LS.le (h : LS prog w Hb H a suite version x y c0 c1 a0 a1 vc va vn b) (l : H.le H') : LS prog w Hb H' a suite version x y c0 c1 a0 a1 vc va vn b :=
  ⟨h.st.le l, l _ _ h.sd, l _ _ h.md, l _ _ h.c, l _ _ h.aa, l _ _ h.nn, l _ _ h.rr, h.s0.le l, h.s1.le l, Only.le _ h.o l, h.k.le l, h.nb⟩
theorem KeepI.setB {Hb H : PH} {q : Nat} {x : AO} (k : KeepI Hb H) (h : ∀ z, Hb q = some z → ¬ Imm z) : KeepI Hb (H.set q x) := fun b z i e => by
  by_cases q' : b = q
  · subst q'; exact absurd i (h z e)
  · rw [PH.set_ne q']; exact k b z i e
theorem LS.lset (h : LS prog w Hb H a suite version x y c0 c1 a0 a1 vc va vn b) {q : Nat} (hq : q ∈ a.S) {vs : List Value} (e : H q = some (.lst vs)) : SideAt (H.set q z) suite version a.p a.pd a.rc a.rcd a.sc a.scd x y c0 a0 ∧ SideAt (H.set q z) suite version a.p' a.pd' a.rc' a.rcd' a.sc' a.scd' y x c1 a1 ∧ Only a.S Hb (H.set q z) ∧ KeepI Hb (H.set q z) ∧ a.md ≠ q :=
  ⟨h.s0.setl e, h.s1.setl e, Only.set _ h.o hq, h.k.setB (h.nb q hq), ne_of h.md e (fun q => nomatch q)⟩
theorem LS.take (h : LS prog w Hb H a suite version x y c0 c1 a0 a1 vc va vn b) (ok : a.Ok) (hs : StC (H.set a.st z) a.st a.cl b') : LS prog w Hb (H.set a.st z) a suite version x y c0 c1 a0 a1 vc va vn b' := by
  obtain ⟨_, _, _, _, es, _⟩ := id h.st
  obtain ⟨i1, i2, i3, i4, i5⟩ := h.lset (z := z) (by simp [Adr.S]) es
  have d := ok.d
  exact ⟨hs, PH.set_at d.f16 h.sd, PH.set_at i5 h.md, PH.set_at (NE.en d.f1) h.c, PH.set_at (NE.en d.f2) h.aa, PH.set_at (NE.en d.f3) h.nn, PH.set_at (NE.en d.f4) h.rr, i1, i2, i3, i4, h.nb⟩
theorem LS.takeK {X : Prop} (h : LS prog w Hb H a suite version x y c0 c1 a0 a1 vc va vn b) (ok : a.Ok) (hs : StC (Hx.set a.st z) a.st a.cl b') (l : H.le Hx) (k : LS prog w Hb (Hx.set a.st z) a suite version x y c0 c1 a0 a1 vc va vn b' → X) : X := k ((h.le l).take ok hs)
theorem LS.setn (h : LS prog w Hb H a suite version x y c0 c1 a0 a1 vc va vn b) (ok : a.Ok) : LS prog w Hb (H.set a.ns (.lst vl)) a suite version x y c0 c1 a0 a1 vc va vl b := by
  obtain ⟨i1, i2, i3, i4, i5⟩ := h.lset (z := .lst vl) (by simp [Adr.S]) h.nn
  have d := ok.d
  exact ⟨h.st.set (NE.en d.f3) (NE.en d.f14), PH.set_at d.f19 h.sd, PH.set_at i5 h.md, PH.set_at d.f6 h.c, PH.set_at d.f8 h.aa, PH.set_self _ _ _, PH.set_at (NE.en d.f10) h.rr, i1, i2, i3, i4, h.nb⟩
theorem LS.setc (h : LS prog w Hb H a suite version x y c0 c1 a0 a1 vc va vn b) (ok : a.Ok) : LS prog w Hb (H.set a.cs (.lst vl)) a suite version x y c0 c1 a0 a1 vl va vn b := by
  obtain ⟨i1, i2, i3, i4, i5⟩ := h.lset (z := .lst vl) (by simp [Adr.S]) h.c
  have d := ok.d
  exact ⟨h.st.set (NE.en d.f1) (NE.en d.f12), PH.set_at d.f17 h.sd, PH.set_at i5 h.md, PH.set_self _ _ _, PH.set_at (NE.en d.f5) h.aa, PH.set_at (NE.en d.f6) h.nn, PH.set_at (NE.en d.f7) h.rr, i1, i2, i3, i4, h.nb⟩
theorem LS.seta (h : LS prog w Hb H a suite version x y c0 c1 a0 a1 vc va vn b) (ok : a.Ok) : LS prog w Hb (H.set a.as (.lst vl)) a suite version x y c0 c1 a0 a1 vc vl vn b := by
  obtain ⟨i1, i2, i3, i4, i5⟩ := h.lset (z := .lst vl) (by simp [Adr.S]) h.aa
  have d := ok.d
  exact ⟨h.st.set (NE.en d.f2) (NE.en d.f13), PH.set_at d.f18 h.sd, PH.set_at i5 h.md, PH.set_at d.f5 h.c, PH.set_self _ _ _, PH.set_at (NE.en d.f8) h.nn, PH.set_at (NE.en d.f9) h.rr, i1, i2, i3, i4, h.nb⟩
theorem LS.side0 (h : LS prog w Hb H a suite version x y c0 c1 a0 a1 vc va vn b) (ok : a.Ok) (o : Only [a.pd, a.rcd, a.scd] H H') (k : KeepI H H') (s : SideAt H' suite version a.p a.pd a.rc a.rcd a.sc a.scd x y c0' a0') : LS prog w Hb H' a suite version x y c0' c1 a0' a1 vc va vn b := by
  have dd := h.s0.isdic
  have j := ok.j
  refine ⟨h.st.only o dd, only_lst o dd h.sd, only_prp o dd h.md, only_lst o dd h.c, only_lst o dd h.aa, only_lst o dd h.nn, only_lst o dd h.rr, s, h.s1.keep o k ?_ ?_ ?_, ?_, h.k.trans k, h.nb⟩
  · intro q; exact j _ q (by simp)
  · intro q; exact j _ q (by simp)
  · intro q; exact j _ q (by simp)
  · exact h.o.trans (o.mono (by intro q hq; simp only [List.mem_cons, List.not_mem_nil, or_false] at hq; rcases hq with rfl | rfl | rfl <;> simp [Adr.S]))
theorem LS.side1 (h : LS prog w Hb H a suite version x y c0 c1 a0 a1 vc va vn b) (ok : a.Ok) (o : Only [a.pd', a.rcd', a.scd'] H H') (k : KeepI H H') (s : SideAt H' suite version a.p' a.pd' a.rc' a.rcd' a.sc' a.scd' y x c1' a1') : LS prog w Hb H' a suite version x y c0 c1' a0 a1' vc va vn b := by
  have dd := h.s1.isdic
  have j := ok.j
  refine ⟨h.st.only o dd, only_lst o dd h.sd, only_prp o dd h.md, only_lst o dd h.c, only_lst o dd h.aa, only_lst o dd h.nn, only_lst o dd h.rr, h.s0.keep o k ?_ ?_ ?_, s, ?_, h.k.trans k, h.nb⟩
  · exact j _ (by simp)
  · exact j _ (by simp)
  · exact j _ (by simp)
  · exact h.o.trans (o.mono (by intro q hq; simp only [List.mem_cons, List.not_mem_nil, or_false] at hq; rcases hq with rfl | rfl | rfl <;> simp [Adr.S]))
theorem SideAt.nimm {p pd rc rcd sc scd bS bR c : Nat} {ask : Bool} (h : SideAt H suite version p pd rc rcd sc scd bS bR c ask) : ∀ q ∈ [pd, rcd, scd], ∀ z, H q = some z → ¬ Imm z := by
  intro q hq z e
  simp only [List.mem_cons, List.not_mem_nil, or_false] at hq
  obtain ⟨_, _, e1⟩ := h.pv
  obtain ⟨_, _, _, _, _, _, ⟨_, e2⟩, _⟩ := h.r.ex
  obtain ⟨_, _, _, _, _, _, ⟨_, e3⟩, _⟩ := h.s.ex
  rcases hq with rfl | rfl | rfl
  · rw [e1] at e; cases e; exact nimm_pair
  · rw [e2] at e; cases e; exact nimm_ctx
  · rw [e3] at e; cases e; exact nimm_ctx
theorem LS.rebase (h : LS prog w Hb H a suite version x y c0 c1 a0 a1 vc va vn b) : LS prog w H H a suite version x y c0 c1 a0 a1 vc va vn b := by
  refine ⟨h.st, h.sd, h.md, h.c, h.aa, h.nn, h.rr, h.s0, h.s1, Only.refl _ _, KeepI.refl _, ?_⟩
  intro q hq z e
  obtain ⟨_, _, _, _, es, _⟩ := id h.st
  have n0 := h.s0.nimm
  have n1 := h.s1.nimm
  simp only [Adr.S, List.mem_cons, List.not_mem_nil, or_false] at hq
  rcases hq with rfl | rfl | rfl | rfl | rfl | rfl | rfl | rfl | rfl | rfl
  · rw [es] at e; cases e; exact nimm_lst
  · rw [h.c] at e; cases e; exact nimm_lst
  · rw [h.aa] at e; cases e; exact nimm_lst
  · rw [h.nn] at e; cases e; exact nimm_lst
  · exact n0 _ (by simp) z e
  · exact n0 _ (by simp) z e
  · exact n0 _ (by simp) z e
  · exact n1 _ (by simp) z e
  · exact n1 _ (by simp) z e
  · exact n1 _ (by simp) z e
theorem LS.mono (h : LS prog w Hb H a suite version x y c0 c1 a0 a1 vc va vn b) (hb : b ≤ b') : LS prog w Hb H a suite version x y c0 c1 a0 a1 vc va vn b' := { h with st := h.st.mono hb }
theorem LS.mat (h : LS prog w Hb H a suite version x y c0 c1 a0 a1 vc va vn b) {n0 n1 : Nat} (hc : ∃ t t', vc = [.int (c0 : Nat) t, .int (c1 : Nat) t']) (ha : va = [.bool a0, .bool a1]) (hn : ∃ t t', vn = [.int (n0 : Nat) t, .int (n1 : Nat) t']) :
    MAt prog w H a.md a.cs a.as a.ns a.rs c0 c1 a0 a1 n0 n1 a.q0 a.q1 := ⟨h.md, let ⟨t, t', e⟩ := hc; ⟨t, t', e ▸ h.c⟩, ha ▸ h.aa, let ⟨t, t', e⟩ := hn; ⟨t, t', e ▸ h.nn⟩, h.rr⟩
end
end
section
variable {prog : Program} {w : World} {A : Around} {H0 h : Heap} {fs : List (Nat × Map)} {H : PH} {n : Nat} {L : Nat} {m : Map} {g : Array GenState} {d : Drawn} {tk : Nat} {os : OsState} {bb : Nat}
  {E : Value → Shared → Prop} {Q : Value → Shared → Prop}
open Pl
theorem Bool.tn {b : Bool} : (if b = true then (1 : Int) else 0) = (b.toNat : Int) := by cases b <;> rfl
theorem fmodW (n k : Nat) : (((n : Nat) : Int).fmod ((256 : Int) ^ k)).toNat = n % 256 ^ k := by
  have e : ((256 : Int) ^ k) = ((256 ^ k : Nat) : Int) := by rw [Int.natCast_pow]; rfl
  rw [e, Int.fmod_eq_emod_of_nonneg _ (Int.natCast_nonneg _), ← Int.natCast_emod, Int.toNat_natCast]
theorem upd_kp (c : Nat) (ask : Bool) : (if ask = true then flipI ((c % 2 : Nat) : Int) else ((c % 2 : Nat) : Int)) = (((c + ask.toNat) % 2 : Nat) : Int) := by
  cases ask with
  | true => rw [if_pos rfl, flip_mod]; rfl
  | false => rw [if_neg (by decide)]; rfl
theorem upd_sec {suite version : Int} {x c : Nat} {ask : Bool} (h : x + c + 1 < 256 ^ 6) : (if ask = true then nextB suite version (secB suite (x + c)) else secB suite (x + c)) = secB suite (x + (c + ask.toNat)) := by
  cases ask with
  | true => rw [if_pos rfl, next_sec h]; rfl
  | false => rw [if_neg (by decide)]; rfl
theorem sealed_ct {a : Adr} {c0 c1 : Nat} {a0 a1 : Bool} {suite version : Int} {x y : Nat} {b ix : Int} {vc va vn : List Value} {to tcc tnn : Tok} {CC NN BS BR p pd rc rcd sc scd : Nat} {AA : Bool} {F : Nat → Nat × Nat} {FA : Bool → Bool × Bool}
    (G : Gd (KK w.params) H0) (hz : H0.objs.size ≤ n) (O : Ok A 14) (R : RC w.params H0 fs H n h) (ok : a.Ok)
    (L0 : LS prog w H H a suite version x y c0 c1 a0 a1 vc va vn b) (hb : b < 2 ^ 20)
    (hsu : Suite suite) (hx : BS < 2 ^ 45) (hy : BR < 2 ^ 45) (hCC : CC < 2 ^ 20) (hNN : NN < 2 ^ 39)
    (i0 : 0 ≤ ix) (i1 : ix < 2) (ic : vc[ix.toNat]? = some (.int (CC : Nat) tcc)) (ia : va[ix.toNat]? = some (.bool AA)) (inn : vn[ix.toNat]? = some (.int (NN : Nat) tnn)) (il : [Value.ref a.p, .ref a.p'][ix.toNat]? = some (.ref p))
    (ilc : vc.length = 2) (ila : va.length = 2) (iln : vn.length = 2)
    (own : ∀ {H' : PH} {vc va vn : List Value} {b : Int}, LS prog w H H' a suite version x y c0 c1 a0 a1 vc va vn b → SideAt H' suite version p pd rc rcd sc scd BS BR CC AA)
    (side : ∀ {H1 H' : PH} {vc va vn : List Value} {b : Int} {c' : Nat} {a' : Bool}, LS prog w H H1 a suite version x y c0 c1 a0 a1 vc va vn b → Only [pd, rcd, scd] H1 H' → KeepI H1 H' → SideAt H' suite version p pd rc rcd sc scd BS BR c' a' → LS prog w H H' a suite version x y (F c').1 (F c').2 (FA a').1 (FA a').2 vc va vn b)
    (k : ∀ (q : Nat) H' h' n' tk' t t', n ≤ n' → LS prog w H H' a suite version x y (F (CC + AA.toNat)).1 (F (CC + AA.toNat)).2 (FA false).1 (FA false).2 (vc.set ix.toNat (.int ((CC + AA.toNat : Nat) : Int) t)) (va.set ix.toNat (.bool false)) (vn.set ix.toNat (.int ((NN + 1 : Nat) : Int) t')) (b + 6) → RowT H' suite version BS (.ref q) → RC w.params H0 fs H' n' h' → Q (.ref q) ⟨h', g, d, tk', os⟩) :
    wpP (model prog w) A (call (.ref 424) [.ref a.st, .ref a.sd, .ref a.md, .int ix to]) Q E ⟨h, g, d, tk, os⟩ := by
  have bn0 := R.bnd
  have fsd := L0.sd
  have fmd := L0.md
  have fc := L0.c
  have fa := L0.aa
  have fn := L0.nn
  have frr := L0.rr
  obtain ⟨d1, d2, d3, d4, d5, d6, d7, d8, d9, d10, d11, d12, d13, d14, d15, d16, d17, d18, d19, d20, d21, d22, d23, d24, d25, d26, d27, d28, d29, d30⟩ := id ok.d
  have y2 : NE a.md a.cs := ne_of fmd fc (fun q => nomatch q)
  have y3 : NE a.md a.as := ne_of fmd fa (fun q => nomatch q)
  have y4 : NE a.md a.ns := ne_of fmd fn (fun q => nomatch q)
  refine' P_def (binds := [("state", .ref a.st), ("sides", .ref a.sd), ("m", .ref a.md), ("one", .int ix to)]) R ?G hz O.room ?ho ?hcd ?hbind ?hloc ?_ ?hco ?hgen ?hk ?hcell
  walk_at "def"
  intro L' h₁ tk₁ hl R'
  refine' P_execs_consA ?_
  walk_at "6"
  refine' P_execs_consA ?_
  walk_at "11"
  rename RC _ _ _ _ _ _ => r0
  refine' take_ct G (by walk_at "om") (O.deep (by decide)) r0 L0.st (by decide) (by walk_at "om") ?_
  intro v t x1 h' n' tk' v0 v1 hn hs1 r1
  clear r0
  have L1 := L0.take ok hs1
  generalize H.set a.st x1 = H1 at hs1 r1 L1
  have fsd := L1.sd
  have fmd := L1.md
  have fc := L1.c
  have fa := L1.aa
  have fn := L1.nn
  have frr := L1.rr
  walk_at "3"
  refine' P_execs_consA ?_
  walk_at "12"
  rename RC _ _ _ _ _ _ => r0
  refine' take_ct G (by walk_at "om") (O.deep (by decide)) r0 L1.st (by decide) (by walk_at "om") ?_
  intro v2 t2 x2 h' n' tk' v20 v21 hn2 hs2 r1
  clear r0
  have L2 := L1.take ok hs2
  generalize H1.set a.st x2 = H2 at hs2 r1 L2
  have fsd := L2.sd
  have fmd := L2.md
  have fc := L2.c
  have fa := L2.aa
  have fn := L2.nn
  have frr := L2.rr
  walk_at "2"
  refine' P_execs_consA ?_
  walk_at "9"
  refine' P_execs_consA ?_
  walk_at "11"
  rename RC _ _ _ _ _ _ => r0
  generalize hV : List.set vn (Int.toNat ix) _ = V at r0
  have L3 := L2.setn ok (vl := V)
  generalize H2.set a.ns (.lst V) = H3 at r0 L3
  have bn3 := r0.bnd
  have fsd := L3.sd
  have fmd := L3.md
  have fc := L3.c
  have fa := L3.aa
  have fn := L3.nn
  have frr := L3.rr
  obtain ⟨pv, cr, cs', hne⟩ := id (own L3)
  refine' PairV.el pv ?_
  intro t0 pe1 pe2
  refine' P_execs_consA ?_
  walk_at "24"
  have eC : ((CC : Nat) : Int) + (if AA = true then 1 else 0) = ((CC + AA.toNat : Nat) : Int) := by rw [Bool.tn]; walk_at "om"
  rename RC _ _ _ _ _ _ => r0
  rw [eC] at r0
  have ePH : decide ((if AA = true then flipI ((CC % 2 : Nat) : Int) else ((CC % 2 : Nat) : Int)) ≠ (((CC + AA.toNat : Nat) : Int)).fmod 2) = false := by
    rw [fmod2]
    cases AA with
    | true => rw [if_pos rfl, flip_mod]; exact decide_eq_false (fun q => q rfl)
    | false => rw [if_neg (by decide)]; exact decide_eq_false (fun q => q rfl)
  refine' P_execs_consA ?_
  walk_at "4"
  rename RC _ _ _ _ _ _ => r0
  refine' key_phase_ct G (by walk_at "om") (O.deep (by decide)) r0 pv cr ?_
  intro u h' n' tk' hn3 r1
  clear r0
  have bn3 := r1.bnd
  walk_at "6"
  rw [ePH]
  walk_at "2"
  refine' P_execs_consA ?_
  walk_at "7"
  generalize hLg : decide (v = 3) = L at r1 ⊢
  generalize hCN : CC + AA.toNat = CN at r1 ⊢
  refine' join_if (R := fun v s' => ∃ t tk', v = .int ((if L = true then 192 else 64 + 4 * (CN % 2) : Nat) : Int) t ∧ s' = ⟨h', g, d, tk', os⟩) ?_ ?_ ?_
  · intro hc
    walk_at "1"
    exact ⟨_, _, by rw [if_pos hc]; rfl, rfl⟩
  · intro hc
    walk_at "10"
    exact ⟨_, _, by rw [if_neg hc, fmod2]; congr 1, rfl⟩
  rintro _ _ ⟨t5, tk5, rfl, rfl⟩
  generalize hFN : (if L = true then 192 else 64 + 4 * (CN % 2) : Nat) = FN
  have hF1 : FN ≤ 192 := by rw [← hFN]; split <;> walk_at "om"
  have hF4 : FN % 4 = 0 := by rw [← hFN]; split <;> walk_at "om"
  walk_at "5"
  refine' P_execs_consA ?_
  walk_at "39"
  rename RC _ _ _ _ _ _ => r0
  obtain ⟨_, es3⟩ := StC.ex1 L3.st
  have bst := bn3.lt es3
  refine' take_ct G (by walk_at "om") (O.deep (by decide)) r0 (L3.st.le ?lle) (by decide) (by walk_at "om") ?_
  case lle => walk_at "le"
  intro v4 t4 x4 h' n' tk' v40 v41 hn4 hs4 r1
  clear r0
  refine' LS.takeK L3 ok hs4 ?lle ?_
  case lle => walk_at "le"
  intro L4
  walk_at "0"
  rename RC _ _ _ _ _ _ => r0
  refine' r_item_ints (ns := [0, 1, 8]) r0 ?e ?hi v40 (by walk_at "om") (by simp only [List.length_cons, List.length_nil]; walk_at "om") ?_
  case e => walk_at "lk"
  case hi => walk_at "intsare"
  intro ts
  have hsz : 0 ≤ ([0, 1, 8] : List Int).getD v4.toNat 0 ∧ ([0, 1, 8] : List Int).getD v4.toNat 0 ≤ 8 := by
    obtain rfl | rfl | rfl : v4 = 0 ∨ v4 = 1 ∨ v4 = 2 := by walk_at "om"
    all_goals decide
  generalize ([0, 1, 8] : List Int).getD v4.toNat 0 = sz0 at hsz ⊢
  walk_at "2"
  rename RC _ _ _ _ _ _ => r0
  refine' octets_ct G (by walk_at "om") (O.deep (by decide)) r0 L4.st hsz.1 (by walk_at "om") (by walk_at "om") ?_
  intro mid t5 x5 h' n' tk' hmid hn5 hs5 r1
  clear r0
  have L5 := L4.take ok hs5
  generalize PH.set _ a.st x5 = H5 at hs5 r1 L5
  have bn5 := r1.bnd
  have fsd := L5.sd
  have fmd := L5.md
  have fc := L5.c
  have fa := L5.aa
  have fn := L5.nn
  have frr := L5.rr
  have hmod : ((((NN : Nat) : Int).fmod (256 ^ (1 + v2).toNat)).toNat) < 256 ^ (1 + v2).toNat := by rw [fmodW]; exact Nat.mod_lt _ (Nat.pow_pos (by decide))
  have hp : (0 : Int) < 256 ^ (1 + v2).toNat := Int.pow_pos (by decide)
  walk_at "19"
  rename RC _ _ _ _ _ _ => r0
  generalize hHdr : (List.map _ _ ++ mid ++ toBE (1 + v2).toNat _ : List UInt8) = HD at r0
  rw [fmodW] at hHdr
  generalize hsize : (1 + v2).toNat = size at hHdr
  have hs1 : 1 ≤ size := by walk_at "om"
  have hs4' : size ≤ 4 := by walk_at "om"
  have eHD : HD = ((FN : Nat) + (1 + v2) - 1 : Int).toNat.toUInt8 :: (mid ++ toBE size (NN % 256 ^ size)) := by rw [← hHdr]; rfl
  have hHDl : HD.length = 1 + mid.length + size := by rw [eHD, List.length_cons, List.length_append, toBE_length]; walk_at "om"
  have hHDf : (HD.getD 0 0).toNat = FN + size - 1 := by
    rw [eHD]
    show (((FN : Nat) + (1 + v2) - 1 : Int).toNat.toUInt8).toNat = _
    rw [u8n (by walk_at "om")]; walk_at "om"
  refine' P_execs_consA ?_
  walk_at "18"
  rename RC _ _ _ _ _ _ => r0
  refine' take_ct G (by walk_at "om") (O.deep (by decide)) r0 L5.st (by decide) (by walk_at "om") ?_
  intro v6 t6 x6 h' n' tk' v60 v61 hn6 hs6 r1
  clear r0
  have L6 := L5.take ok hs6
  generalize PH.set _ a.st x6 = H6 at hs6 r1 L6
  walk_at "3"
  rename RC _ _ _ _ _ _ => r0
  refine' octets_ct G (by walk_at "om") (O.deep (by decide)) r0 L6.st (by walk_at "om") (by walk_at "om") (by walk_at "om") ?_
  intro text t7 x7 h' n' tk' htx hn7 hs7 r1
  clear r0
  have L7 := L6.take ok hs7
  generalize PH.set _ a.st x7 = H7 at hs7 r1 L7
  have bn7 := r1.bnd
  have fsd := L7.sd
  have fmd := L7.md
  have fc := L7.c
  have fa := L7.aa
  have fn := L7.nn
  have frr := L7.rr
  obtain ⟨pv, cr, cs', hne⟩ := id (own L7)
  refine' PairV.el pv ?_
  intro t0 pe1 pe2
  walk_at "1"
  refine' P_execs_cons ?_
  refine' P_Assign_Name ?_ ?hs
  case hs => exact rfl
  refine' P_methodCall ?_ ?he
  case he => exact rfl
  walk_at "2"
  refine' P_callK (K := (KK w.params)) ?hk ?_ ?he ?hp
  case he => exact rfl
  case hp => exact rfl
  case hk => k_is
  walk_at "8"
  rename RC _ _ _ _ _ _ => r0
  have hks := keySize_in suite
  refine' pair_enc_ct (bb := 100) G (by walk_at "om") (O.deep (by decide)) r0 pv cr cs' hne hsu (secB_ok (by walk_at "om")) (secB_ok (by walk_at "om")) (by rw [hp_len]; walk_at "om") (by rw [hp_len]; walk_at "om") (fun s => nonce_ok (iv_len _ _ _) (by walk_at "om")) (by walk_at "om") (by rw [hHDf]; walk_at "om") (by walk_at "om") ?_
  intro t8 H8 h' n' tk' hn8 o8 k8 pv8 cr8 cs8 r1
  clear r0
  rw [upd_kp, upd_sec (by walk_at "om")] at cr8 cs8
  rw [upd_sec (by walk_at "om")]
  generalize hPKT : encB suite version (secB suite (BS + (CC + AA.toNat))) (hpB suite version (secB suite BS)) HD text ((NN : Nat) : Int) = PKT
  have L8 := side L7 o8 k8 ⟨pv8, cr8, cs8, hne⟩
  have bn8 := r1.bnd
  have fsd := L8.sd
  have fmd := L8.md
  have fc := L8.c
  have fa := L8.aa
  have fn := L8.nn
  have frr := L8.rr
  have lmd := bn8.lt fmd
  have lcs := bn8.lt fc
  have las := bn8.lt fa
  walk_at "1"
  refine' P_execs_consA ?_
  walk_at "26"
  rename RC _ _ _ _ _ _ => r0
  generalize hV2 : List.set vc (Int.toNat ix) _ = V2 at r0
  generalize hV3 : List.set va (Int.toNat ix) _ = V3 at r0
  generalize hT : PH.set H8 _ (AO.tup _) = H9 at r0
  have l9 : H8.le H9 := by rw [← hT]; walk_at "le"
  have L9 := ((L8.le l9).setc ok (vl := V2)).seta ok (vl := V3)
  generalize (H9.set a.cs (.lst V2)).set a.as (.lst V3) = H10 at r0 L9
  have bn10 := r0.bnd
  refine' P_any ?_
  walk_at "28"
  rename RC _ _ _ _ _ _ => r0
  have eOff : ((HD.length : Nat) : Int) - (1 + v2) = ((1 + mid.length : Nat) : Int) := by walk_at "om"
  rw [eOff] at r0
  have bnZ := L9.st
  have hf : ((FN : Nat) + (1 + v2) - 1 : Int).toNat.toUInt8.toNat = (if L = true then 192 else 64 + 4 * (CN % 2)) + size - 1 := by
    rw [hFN, u8n (by walk_at "om")]; walk_at "om"
  have hrow : RowSpec suite version BS PKT (1 + mid.length) CN L HD text NN := by
    rw [← hPKT, hCN, eHD]
    exact row_made hs1 hs4' (by walk_at "om") (by walk_at "om") (by walk_at "om") (by walk_at "om") (by rw [← hCN]; cases AA <;> simp only [Bool.toNat_true, Bool.toNat_false] <;> walk_at "om") hf
  subst hV2 hV3 hV hCN
  refine k _ _ _ _ _ _ _ (by walk_at "om") ((L9.mono (show b + 1 + 1 + 1 + 1 + 1 + 1 ≤ b + 6 by walk_at "om")).le ?_) ⟨_, _, _, _, _, _, _, _, _, _, _, _, _, _, rfl, PH.set_self _ _ _, hrow⟩ r0.pop
  walk_at "le"
theorem sealed0_ct {a : Adr} {c0 c1 n0 n1 : Nat} {a0 a1 : Bool} {suite version : Int} {x y : Nat} {b : Int} {to tc tc' tn tn' : Tok}
    (G : Gd (KK w.params) H0) (hz : H0.objs.size ≤ n) (O : Ok A 14) (R : RC w.params H0 fs H n h) (ok : a.Ok)
    (L0 : LS prog w H H a suite version x y c0 c1 a0 a1 [.int (c0 : Nat) tc, .int (c1 : Nat) tc'] [.bool a0, .bool a1] [.int (n0 : Nat) tn, .int (n1 : Nat) tn'] b) (hb : b < 2 ^ 20)
    (hsu : Suite suite) (hx : x < 2 ^ 45) (hy : y < 2 ^ 45) (hCC : c0 < 2 ^ 20) (hNN : n0 < 2 ^ 39)
    (k : ∀ (q : Nat) H' h' n' tk' t t', n ≤ n' → LS prog w H H' a suite version x y (c0 + a0.toNat) c1 false a1 [.int ((c0 + a0.toNat : Nat) : Int) t, .int (c1 : Nat) tc'] [.bool false, .bool a1] [.int ((n0 + 1 : Nat) : Int) t', .int (n1 : Nat) tn'] (b + 6) → RowT H' suite version x (.ref q) → RC w.params H0 fs H' n' h' → Q (.ref q) ⟨h', g, d, tk', os⟩) :
    wpP (model prog w) A (call (.ref 424) [.ref a.st, .ref a.sd, .ref a.md, .int 0 to]) Q E ⟨h, g, d, tk, os⟩ :=
  sealed_ct (F := fun q => (q, c1)) (FA := fun q => (q, a1)) G hz O R ok L0 hb hsu hx hy hCC hNN (by decide) (by decide) rfl rfl rfl rfl rfl rfl rfl (fun L => L.s0) (fun L o k s => L.side0 ok o k s) k
theorem sealed1_ct {a : Adr} {c0 c1 n0 n1 : Nat} {a0 a1 : Bool} {suite version : Int} {x y : Nat} {b : Int} {to tc tc' tn tn' : Tok}
    (G : Gd (KK w.params) H0) (hz : H0.objs.size ≤ n) (O : Ok A 14) (R : RC w.params H0 fs H n h) (ok : a.Ok)
    (L0 : LS prog w H H a suite version x y c0 c1 a0 a1 [.int (c0 : Nat) tc, .int (c1 : Nat) tc'] [.bool a0, .bool a1] [.int (n0 : Nat) tn, .int (n1 : Nat) tn'] b) (hb : b < 2 ^ 20)
    (hsu : Suite suite) (hx : x < 2 ^ 45) (hy : y < 2 ^ 45) (hCC : c1 < 2 ^ 20) (hNN : n1 < 2 ^ 39)
    (k : ∀ (q : Nat) H' h' n' tk' t t', n ≤ n' → LS prog w H H' a suite version x y c0 (c1 + a1.toNat) a0 false [.int (c0 : Nat) tc, .int ((c1 + a1.toNat : Nat) : Int) t] [.bool a0, .bool false] [.int (n0 : Nat) tn, .int ((n1 + 1 : Nat) : Int) t'] (b + 6) → RowT H' suite version y (.ref q) → RC w.params H0 fs H' n' h' → Q (.ref q) ⟨h', g, d, tk', os⟩) :
    wpP (model prog w) A (call (.ref 424) [.ref a.st, .ref a.sd, .ref a.md, .int 1 to]) Q E ⟨h, g, d, tk, os⟩ :=
  sealed_ct (F := fun q => (c0, q)) (FA := fun q => (a0, q)) G hz O R ok L0 hb hsu hy hx hCC hNN (by decide) (by decide) rfl rfl rfl rfl rfl rfl rfl (fun L => L.s1) (fun L o k s => L.side1 ok o k s) k
end
section
variable {prog : Program} {w : World} {A : Around} {H0 h : Heap} {fs : List (Nat × Map)} {H : PH} {n : Nat} {L : Nat} {m : Map} {g : Array GenState} {d : Drawn} {tk : Nat} {os : OsState} {bb : Nat}
  {E : Value → Shared → Prop} {Q : Value → Shared → Prop}
open Pl
theorem split_if {c : Prop} [Decidable c] {X Y : Prop} (h1 : c → X) (h2 : ¬ c → Y) : if c then X else Y := by
  by_cases q : c
  · rw [if_pos q]; exact h1 q
  · rw [if_neg q]; exact h2 q
theorem turned (x : UInt8) {k : Nat} (h : k < 8) : ∃ z : Nat, Builtin.bitXor ((x.toNat : Nat) : Int) (2 ^ k) = (z : Nat) ∧ z < 256 ∧ z ≠ x.toNat := by
  have e : ((2 : Int) ^ k) = ((2 ^ k : Nat) : Int) := by rw [Int.natCast_pow]; rfl
  refine ⟨x.toNat ^^^ 2 ^ k, by rw [e, bitXor_nat], ?_, ?_⟩
  · have h1 := x.toNat_lt
    have h2 : 2 ^ k < 2 ^ 8 := Nat.pow_lt_pow_right (by decide) h
    exact Nat.xor_lt_two_pow (n := 8) h1 h2
  · intro q
    have := congrArg (x.toNat ^^^ ·) q
    simp only [← Nat.xor_assoc, Nat.xor_self, Nat.zero_xor] at this
    have hp : 0 < 2 ^ k := Nat.pow_pos (by decide)
    walk_at "om"
theorem set_eq {l : List UInt8} {i : Nat} {u : UInt8} (h : i < l.length) : l.take i ++ [u] ++ l.drop (i + 1) = l.set i u := by
  rw [List.set_eq_take_append_cons_drop, if_pos h, List.append_assoc]; rfl
theorem RC.nameM {P : Params} {X : Prop} (r : RC P H0 ((L, m) :: fs) H n h) (k : ∀ m' nz, m' = m → n ≤ nz → RC P H0 ((L, m') :: fs) H nz h → X) : X := k m n rfl (Nat.le_refl _) r
theorem nm_t {c cnt : Nat} : namedOf c cnt true = c := rfl
theorem nm_e {c cnt : Nat} (h : cnt % 2 = c % 2) : namedOf c cnt false = c := by unfold namedOf; rw [h]; simp
theorem nm_n {c cnt : Nat} (h : ¬ cnt % 2 = c % 2) : namedOf c cnt false = c + 1 := by unfold namedOf; rw [if_pos]; simp [h]
theorem taken_ct {a : Adr} {c0 c1 ra off cnt num EE : Nat} {a0 a1 long : Bool} {suite version : Int} {x y : Nat} {b ix : Int} {to tcc u1 u2 u3 u4 u5 u6 : Tok} {vc va vn : List Value} {pk hdr text : List UInt8} {CC BS BR p pd rc rcd sc scd : Nat} {AA : Bool} {F : Nat → Nat × Nat} {FA : Bool → Bool × Bool}
    (G : Gd (KK w.params) H0) (hz : H0.objs.size ≤ n) (O : Ok A 16) (R : RC w.params H0 fs H n h) (Fk : FrOk A fs) (ok : a.Ok)
    (L0 : LS prog w H H a suite version x y c0 c1 a0 a1 vc va vn b) (hb : b < 2 ^ 20)
    (hsu : Suite suite) (hx : BS < 2 ^ 45) (hy : BR < 2 ^ 45) (hCC : CC < 2 ^ 20)
    (i0 : 0 ≤ ix) (i1 : ix < 2) (ic : vc[ix.toNat]? = some (.int (CC : Nat) tcc)) (il : [Value.ref a.p, .ref a.p'][ix.toNat]? = some (.ref p))
    (ilc : vc.length = 2) (ila : va.length = 2) (eE : max 0 (((num : Nat) : Int) + 2 - 4 * ix) = ((EE : Nat) : Int)) (hE1 : EE ≤ num + 2) (hE2 : num ≤ EE + 2)
    (ics : ∃ t, vc = vc.set ix.toNat (.int (CC : Nat) t)) (ias : va = va.set ix.toNat (.bool AA)) (hF1 : (F CC).1 = c0) (hF2 : (F CC).2 = c1) (hA1 : (FA AA).1 = a0) (hA2 : (FA AA).2 = a1)
    (own : ∀ {H' : PH} {vc va vn : List Value} {b : Int}, LS prog w H H' a suite version x y c0 c1 a0 a1 vc va vn b → SideAt H' suite version p pd rc rcd sc scd BS BR CC AA)
    (side : ∀ {H1 H' : PH} {vc va vn : List Value} {b : Int} {c' : Nat} {a' : Bool}, LS prog w H H1 a suite version x y c0 c1 a0 a1 vc va vn b → Only [pd, rcd, scd] H1 H' → KeepI H1 H' → SideAt H' suite version p pd rc rcd sc scd BS BR c' a' → LS prog w H H' a suite version x y (F c').1 (F c').2 (FA a').1 (FA a').2 vc va vn b)
    (hrow : H ra = some (.tup [.bytes pk.toArray u1, .int (off : Nat) u2, .int (cnt : Nat) u3, .bool long, .bytes hdr.toArray u4, .bytes text.toArray u5, .int (num : Nat) u6])) (hspec : RowSpec suite version BR pk off cnt long hdr text num)
    (k : ∀ (c' : Nat) (a' : Bool) H' h' n' tk' (vc' va' : List Value), c' ≤ CC + 1 → n ≤ n' → (∃ t, vc' = vc.set ix.toNat (.int (c' : Nat) t)) → va' = va.set ix.toNat (.bool a') → LS prog w H H' a suite version x y (F c').1 (F c').2 (FA a').1 (FA a').2 vc' va' vn (b + 3) → RC w.params H0 fs H' n' h' → Q (.bool true) ⟨h', g, d, tk', os⟩) :
    wpP (model prog w) A (call (.ref 438) [.ref a.st, .ref a.sd, .ref a.md, .int ix to, .ref ra]) Q E ⟨h, g, d, tk, os⟩ := by
  have bn0 := R.bnd
  have fsd := L0.sd
  have fmd := L0.md
  have fc := L0.c
  have fa := L0.aa
  have fn := L0.nn
  have frr := L0.rr
  obtain ⟨d1, d2, d3, d4, d5, d6, d7, d8, d9, d10, d11, d12, d13, d14, d15, d16, d17, d18, d19, d20, d21, d22, d23, d24, d25, d26, d27, d28, d29, d30⟩ := id ok.d
  have y2 : NE a.md a.cs := ne_of fmd fc (fun q => nomatch q)
  have y3 : NE a.md a.as := ne_of fmd fa (fun q => nomatch q)
  have hpl := pk_lt hspec hsu
  refine' P_def (binds := [("state", .ref a.st), ("sides", .ref a.sd), ("m", .ref a.md), ("one", .int ix to), ("row", .ref ra)]) R ?G hz O.room ?ho ?hcd ?hbind ?hloc ?_ ?hco ?hgen ?hk ?hcell
  walk_at "def"
  intro L' h₁ tk₁ hl R'
  refine' P_execs_consA ?_
  walk_at "25"
  refine' P_execs_consA ?_
  walk_at "11"
  rename RC _ _ _ _ _ _ => r0
  refine' take_ct G (by walk_at "om") (O.deep (by decide)) r0 L0.st (by decide) (by walk_at "om") ?_
  intro v t x1 h' n' tk' v0 v1 hn hs1 r1
  clear r0
  have L1 := L0.take ok hs1
  generalize H.set a.st x1 = H1 at hs1 r1 L1
  have hrow1 := L1.k _ _ (show Imm (.tup _) from trivial) hrow
  have fsd := L1.sd
  have fmd := L1.md
  have fc := L1.c
  have fa := L1.aa
  have fn := L1.nn
  have frr := L1.rr
  walk_at "3"
  rename RC _ _ _ _ _ _ => r0
  generalize hsp : decide (v = 2) = sp at r0
  refine' P_execs_consA ?_
  cases sp with
  | true =>
    walk_at "22"
    rename RC _ _ _ _ _ _ => r0
    refine' take_ct G (by walk_at "om") (O.deep (by decide)) r0 L1.st (by walk_at "om") (by walk_at "om") ?_
    intro v3 t3 x3 h' n' tk' v30 v31 hn3 hs3 r1
    clear r0
    have L2 := L1.take ok hs3
    generalize H1.set a.st x3 = H2 at hs3 r1 L2
    have fsd := L2.sd
    have fmd := L2.md
    have fc := L2.c
    have fa := L2.aa
    have fn := L2.nn
    have frr := L2.rr
    walk_at "35"
    rename RC _ _ _ _ _ _ => r0
    refine' take_ct G (by walk_at "om") (O.deep (by decide)) r0 (L2.st.le ?lle) (by walk_at "om") (by walk_at "om") ?_
    case lle => walk_at "le"
    intro v4 t4 x4 h' n' tk' v40 v41 hn4 hs4 r1
    clear r0
    refine' LS.takeK L2 ok hs4 ?lle ?_
    case lle => walk_at "le"
    intro L3
    have bn4 := r1.bnd
    obtain ⟨z, hz1, hz2, hz3⟩ := turned (pk.getD v3.toNat 0) (k := v4.toNat) (by walk_at "om")
    walk_at "21"
    rename RC _ _ _ _ _ _ => r0
    rw [hz1] at r0
    walk_at "0"
    rename RC _ _ _ _ _ _ => r0
    generalize hHC : PH.set (PH.set H2 a.st x4) _ (AO.lst _) = HC at r0
    have l4 : PH.le (H2.set a.st x4) HC := by rw [← hHC]; walk_at "le"
    have L4 := L3.le l4
    generalize hPK : (List.take v3.toNat pk ++ List.map _ _ ++ List.drop _ pk : List UInt8) = PK at r0
    have ePK : PK = pk.set v3.toNat z.toUInt8 := by
      rw [← hPK, show (v3 + 1).toNat = v3.toNat + 1 by walk_at "om"]
      exact set_eq (by walk_at "om")
    have hne8 : z.toUInt8 ≠ pk.getD v3.toNat 0 := fun q => hz3 (by rw [← q, u8n hz2])
    have hPKl : PK.length = pk.length := by rw [ePK, List.length_set]
    have fsd := L4.sd
    have fmd := L4.md
    have fc := L4.c
    have fa := L4.aa
    have fn := L4.nn
    have frr := L4.rr
    refine' P_execs_consA ?_
    walk_at "9"
    refine' P_execs_consA ?_
    rename RC _ _ _ _ _ _ => r0
    refine' RC.nameM r0 ?_
    clear r0
    intro MM nz hMM hnz r0
    refine' wpAny_mono (Q := fun f s' => ∃ hz tz t, f = Flow.next ∧ s' = (⟨hz, g, d, tz, os⟩ : Shared) ∧ RC w.params H0 ((L', fun y => if y = Str.ofString "named" then some (.int (namedOf CC cnt long : Nat) t) else MM y) :: fs) HC nz hz) ?_ ?_ (fun _ _ x => x)
    · subst hMM
      cases long with
      | true =>
        walk_at "10"
        rename RC _ _ _ _ _ _ => r0
        exact ⟨_, _, _, rfl, rfl, by rw [nm_t]; exact r0⟩
      | false =>
        walk_at "19"
        refine' split_if ?_ ?_
        · intro hq
          have hq' := of_decide_eq_true hq
          rw [fmod2, fmod2] at hq'
          walk_at "3"
          rename RC _ _ _ _ _ _ => r0
          exact ⟨_, _, _, rfl, rfl, by rw [nm_e (by walk_at "om")]; exact r0⟩
        · intro hq
          have hq' := of_decide_eq_false (Bool.eq_false_iff.mpr hq)
          rw [fmod2, fmod2] at hq'
          walk_at "7"
          rename RC _ _ _ _ _ _ => r0
          exact ⟨_, _, _, rfl, rfl, by rw [nm_n (by walk_at "om")]; exact r0⟩
    rintro f s' ⟨hz', tz, tnm, rfl, rfl, r2⟩
    clear r0
    subst hMM
    have bnC := r2.bnd
    dsimp only
    refine' P_execs_consA ?_
    walk_at "16"
    rename RC _ _ _ _ _ _ => r0
    generalize hT : PH.set HC _ (AO.tup _) = HT at r0
    have lT : PH.le HC HT := by rw [← hT]; walk_at "le"
    have LT := LS.le L4 lT
    have fsd := LT.sd
    have fmd := LT.md
    have fc := LT.c
    have fa := LT.aa
    have fn := LT.nn
    have frr := LT.rr
    obtain ⟨pv, cr, cs', hne⟩ := id (own LT)
    refine' PairV.el pv ?_
    intro t0 pe1 pe2
    refine' P_execs_cons ?_
    refine' P_Try_except ?_
    refine' P_execs_cons ?_
    refine' P_Assign_Name ?_ ?hs
    case hs => exact rfl
    refine' P_methodCall ?_ ?he
    case he => exact rfl
    walk_at "5"
    refine' P_callK (K := (KK w.params)) ?hk ?_ ?he ?hp
    case he => exact rfl
    case hp => exact rfl
    case hk => k_is
    walk_at "25"
    rename RC _ _ _ _ _ _ => r0
    rw [eE]
    have hks := keySize_in suite
    obtain ⟨w1, w2, w3⟩ := row_spoilt (mine := CC) hspec hsu (e := EE) (by walk_at "om") (by walk_at "om") (by walk_at "om") (i := v3.toNat) (by walk_at "om") hne8
    rw [← ePK] at w1 w2 w3
    have hL4 : PK.length < 10000 := by walk_at "om"
    have hL5 : off + 20 ≤ PK.length := by walk_at "om"
    have hL6 := w1
    have hNo := w2
    have hOp := w3
    refine' pair_dec_no_ct (bb := 100) G (by walk_at "om") (O.deep (by decide)) r0 Fk.deep pv cr hsu (secB_ok (by walk_at "om")) (by rw [hp_len]; walk_at "om") (by rw [hp_len]; walk_at "om") hL4 hL5 hL6 hNo hOp ?_
    intro e h' n' tk' hn9 fl
    have LZ := LT
    refine' caught fl G ?ex ?q ?_
    case ex => k_is
    case q => kts_isx
    intro h'' r1
    walk_at "5"
    refine' P_any ?_
    walk_at "11"
    skip
    rename RC _ _ _ _ _ _ => r0
    have LZ' := LZ.mono (b' := b + 3) (by walk_at "om")
    rw [← hF1, ← hF2, ← hA1, ← hA2] at LZ'
    exact k CC AA _ _ _ _ _ _ (by walk_at "om") (by walk_at "om") ics ias LZ' r0.pop
  | false =>
    walk_at "6"
    refine' P_execs_consA ?_
    walk_at "9"
    refine' P_execs_consA ?_
    rename RC _ _ _ _ _ _ => r0
    refine' RC.nameM r0 ?_
    clear r0
    intro MM nz hMM hnz r0
    refine' wpAny_mono (Q := fun f s' => ∃ hz tz t, f = Flow.next ∧ s' = (⟨hz, g, d, tz, os⟩ : Shared) ∧ RC w.params H0 ((L', fun y => if y = Str.ofString "named" then some (.int (namedOf CC cnt long : Nat) t) else MM y) :: fs) H1 nz hz) ?_ ?_ (fun _ _ x => x)
    · subst hMM
      cases long with
      | true =>
        walk_at "10"
        rename RC _ _ _ _ _ _ => r0
        exact ⟨_, _, _, rfl, rfl, by rw [nm_t]; exact r0⟩
      | false =>
        walk_at "19"
        refine' split_if ?_ ?_
        · intro hq
          have hq' := of_decide_eq_true hq
          rw [fmod2, fmod2] at hq'
          walk_at "3"
          rename RC _ _ _ _ _ _ => r0
          exact ⟨_, _, _, rfl, rfl, by rw [nm_e (by walk_at "om")]; exact r0⟩
        · intro hq
          have hq' := of_decide_eq_false (Bool.eq_false_iff.mpr hq)
          rw [fmod2, fmod2] at hq'
          walk_at "7"
          rename RC _ _ _ _ _ _ => r0
          exact ⟨_, _, _, rfl, rfl, by rw [nm_n (by walk_at "om")]; exact r0⟩
    rintro f s' ⟨hz', tz, tnm, rfl, rfl, r2⟩
    clear r0
    subst hMM
    have bnC := r2.bnd
    dsimp only
    refine' P_execs_consA ?_
    walk_at "16"
    rename RC _ _ _ _ _ _ => r0
    generalize hT : PH.set H1 _ (AO.tup _) = HT at r0
    have lT : PH.le H1 HT := by rw [← hT]; walk_at "le"
    have LT := LS.le L1 lT
    have fsd := LT.sd
    have fmd := LT.md
    have fc := LT.c
    have fa := LT.aa
    have fn := LT.nn
    have frr := LT.rr
    obtain ⟨pv, cr, cs', hne⟩ := id (own LT)
    refine' PairV.el pv ?_
    intro t0 pe1 pe2
    refine' P_execs_cons ?_
    refine' P_Try_except ?_
    refine' P_execs_cons ?_
    refine' P_Assign_Name ?_ ?hs
    case hs => exact rfl
    refine' P_methodCall ?_ ?he
    case he => exact rfl
    walk_at "5"
    refine' P_callK (K := (KK w.params)) ?hk ?_ ?he ?hp
    case he => exact rfl
    case hp => exact rfl
    case hk => k_is
    walk_at "25"
    rename RC _ _ _ _ _ _ => r0
    rw [eE]
    have hks := keySize_in suite
    obtain ⟨z1, z2, z3, z4⟩ := row_open (mine := CC) hspec hsu (e := EE) (by walk_at "om") (by walk_at "om") (by walk_at "om")
    by_cases hnm : namedOf CC cnt long = cnt
    · rw [if_pos hnm] at z4
      have hL6 : (dHdr suite (hpB suite version (secB suite BR)) pk off).length < 256 := by rw [z1]; have := hspec.h2; walk_at "om"
      have hNo : ∀ s, NonceOk (ivB suite version s) (dNum suite (hpB suite version (secB suite BR)) pk off ((EE : Nat) : Int)) := by
        intro s
        rw [z2]
        exact nonce_ok (iv_len _ _ _) (by have := hspec.nm; walk_at "om")
      have hNN : namedOf CC cnt long = CC + (!long && decide (cnt % 2 ≠ CC % 2)).toNat := by
        unfold namedOf
        cases (!long && decide (cnt % 2 ≠ CC % 2)) <;> rfl
      generalize hN : (!long && decide (cnt % 2 ≠ CC % 2)) = N at z3 hNN
      refine' pair_dec_ok_ct (bb := 100) G (by walk_at "om") (O.deep (by decide)) r0 pv cr cs' hne hsu (secB_ok (by walk_at "om")) (secB_ok (by walk_at "om")) (by rw [hp_len]; walk_at "om") (by rw [hp_len]; walk_at "om") hpl.1 hpl.2.1 hL6 hNo z3 z4 ?_
      intro at_ w1 w2 w3 H8 h' n' tk' hn8 o8 k8 pv8 cr8 cs8 hT8 r1
      clear r0
      rw [upd_kp, upd_sec (by walk_at "om")] at cr8 cs8
      rw [z1, z2] at hT8
      have L8 := side LT o8 k8 ⟨pv8, cr8, cs8, hne⟩
      have bn8 := r1.bnd
      have fsd := L8.sd
      have fmd := L8.md
      have fc := L8.c
      have fa := L8.aa
      have fn := L8.nn
      have frr := L8.rr
      have lmd := bn8.lt fmd
      have lcs := bn8.lt fc
      have las := bn8.lt fa
      walk_at "1"
      refine' P_any ?_
      walk_at "1"
      refine' P_any ?_
      walk_at "1"
      refine' P_any ?_
      walk_at "13"
      have eNm : decide (((namedOf CC cnt long : Nat) : Int) ≠ ((cnt : Nat) : Int)) = false := by rw [hnm]; simp
      rw [eNm]
      walk_at "11"
      have eNl : (c' : Nat) → c' = namedOf CC cnt long → c' ≤ CC + 1 := by intro c' e; rw [e, hNN]; cases N <;> simp
      cases N with
      | true =>
        have eGt : decide (((CC : Nat) : Int) < ((namedOf CC cnt long : Nat) : Int)) = true := decide_eq_true (by rw [hNN]; simp only [Bool.toNat_true]; walk_at "om")
        rw [eGt]
        walk_at "37"
        rename RC _ _ _ _ _ _ => r0
        generalize hV2 : List.set vc (Int.toNat ix) _ = V2 at r0
        generalize hV3 : List.set va (Int.toNat ix) _ = V3 at r0
        generalize hT2 : PH.set H8 _ (AO.tup _) = H9 at r0
        have l9 : H8.le H9 := by rw [← hT2]; walk_at "le"
        have L9 := ((L8.le l9).setc ok (vl := V2)).seta ok (vl := V3)
        have hT9 := l9 _ _ hT8
        have hT10 : ((H9.set a.cs (.lst V2)).set a.as (.lst V3)) at_ = _ := PH.set_at (ne_of hT9 (l9 _ _ fa) (fun q => nomatch q)) (PH.set_at (ne_of hT9 (l9 _ _ fc) (fun q => nomatch q)) hT9)
        generalize (H9.set a.cs (.lst V2)).set a.as (.lst V3) = H10 at r0 L9 hT10
        have bn10 := r0.bnd
        have l10 := bn10.lt hT10
        have eN1 : namedOf CC cnt long = CC + 1 := hNN
        rw [eN1] at hV2
        rw [if_pos (show (!false) = true from rfl)]
        have l8 := bn8.lt hT8
        walk_at "12"
        rename RC _ _ _ _ _ _ => r0
        refine' r_eq_tup r0 (k := 0) (O.deep (by decide)) ?e ?e2 ?d1 ?d2 ?kk ?_
        case e => walk_at "lk"
        case e2 => walk_at "lk"
        case d1 => exact .cons (.b _ _) (.cons (.b _ _) (.cons (.i _ _) .nil))
        case d2 => exact .cons (.b _ _) (.cons (.b _ _) (.cons (.i _ _) .nil))
        case kk => exact .b _ _ (.b _ _ (.i _ _ .nil))
        have eD : decide (([D.b hdr, .b text, .i (num : Nat)] : List D) = [.b hdr, .b text, .i (num : Nat)]) = true := decide_eq_true rfl
        rw [eD]
        have LLm := LS.mono (b' := b + 3) L9 (by walk_at "om")
        refine' k (CC+1) false _ _ _ _ _ _ (by walk_at "om") (by walk_at "om") ⟨_, hV2.symm⟩ hV3.symm (LS.le LLm ?_) r0.pop
        walk_at "le"
      | false =>
        have eGt : decide (((CC : Nat) : Int) < ((namedOf CC cnt long : Nat) : Int)) = false := decide_eq_false (by rw [hNN]; simp only [Bool.toNat_false]; walk_at "om")
        rw [eGt]
        walk_at "10"
        rw [if_pos (show (!false) = true from rfl)]
        have l8 := bn8.lt hT8
        walk_at "12"
        rename RC _ _ _ _ _ _ => r0
        refine' r_eq_tup r0 (k := 0) (O.deep (by decide)) ?e ?e2 ?d1 ?d2 ?kk ?_
        case e => walk_at "lk"
        case e2 => walk_at "lk"
        case d1 => exact .cons (.b _ _) (.cons (.b _ _) (.cons (.i _ _) .nil))
        case d2 => exact .cons (.b _ _) (.cons (.b _ _) (.cons (.i _ _) .nil))
        case kk => exact .b _ _ (.b _ _ (.i _ _ .nil))
        have eD : decide (([D.b hdr, .b text, .i (num : Nat)] : List D) = [.b hdr, .b text, .i (num : Nat)]) = true := decide_eq_true rfl
        rw [eD]
        have LLm := LS.mono (b' := b + 3) L8 (by walk_at "om")
        refine' k CC AA _ _ _ _ _ _ (by walk_at "om") (by walk_at "om") ics ias (LS.le LLm ?_) r0.pop
        walk_at "le"
    · rw [if_neg hnm] at z4
      have hL4 := hpl.1
      have hL5 := hpl.2.1
      have hL6 : (dHdr suite (hpB suite version (secB suite BR)) pk off).length < 256 := by rw [z1]; have := hspec.h2; walk_at "om"
      have hNo : ∀ s, NonceOk (ivB suite version s) (dNum suite (hpB suite version (secB suite BR)) pk off ((EE : Nat) : Int)) := by
        intro s
        rw [z2]
        exact nonce_ok (iv_len _ _ _) (by have := hspec.nm; walk_at "om")
      have hOp := z4
      have eNm : decide (((namedOf CC cnt long : Nat) : Int) ≠ ((cnt : Nat) : Int)) = true := decide_eq_true (by walk_at "om")
      refine' pair_dec_no_ct (bb := 100) G (by walk_at "om") (O.deep (by decide)) r0 Fk.deep pv cr hsu (secB_ok (by walk_at "om")) (by rw [hp_len]; walk_at "om") (by rw [hp_len]; walk_at "om") hL4 hL5 hL6 hNo hOp ?_
      intro e h' n' tk' hn9 fl
      have LZ := LT
      refine' caught fl G ?ex ?q ?_
      case ex => k_is
      case q => kts_isx
      intro h'' r1
      walk_at "5"
      refine' P_any ?_
      walk_at "13"
      (rw [eNm]; walk_at "5")
      rename RC _ _ _ _ _ _ => r0
      have LZ' := LZ.mono (b' := b + 3) (by walk_at "om")
      rw [← hF1, ← hF2, ← hA1, ← hA2] at LZ'
      exact k CC AA _ _ _ _ _ _ (by walk_at "om") (by walk_at "om") ics ias LZ' r0.pop
theorem taken0_ct {a : Adr} {c0 c1 ra off cnt num : Nat} {a0 a1 long : Bool} {suite version : Int} {x y : Nat} {b : Int} {to tc tc' u1 u2 u3 u4 u5 u6 : Tok} {vn : List Value} {pk hdr text : List UInt8}
    (G : Gd (KK w.params) H0) (hz : H0.objs.size ≤ n) (O : Ok A 16) (R : RC w.params H0 fs H n h) (F : FrOk A fs) (ok : a.Ok)
    (L0 : LS prog w H H a suite version x y c0 c1 a0 a1 [.int (c0 : Nat) tc, .int (c1 : Nat) tc'] [.bool a0, .bool a1] vn b) (hb : b < 2 ^ 20)
    (hsu : Suite suite) (hx : x < 2 ^ 45) (hy : y < 2 ^ 45) (hCC : c0 < 2 ^ 20)
    (hrow : H ra = some (.tup [.bytes pk.toArray u1, .int (off : Nat) u2, .int (cnt : Nat) u3, .bool long, .bytes hdr.toArray u4, .bytes text.toArray u5, .int (num : Nat) u6])) (hspec : RowSpec suite version y pk off cnt long hdr text num)
    (k : ∀ (c' : Nat) (a' : Bool) H' h' n' tk' t, c' ≤ c0 + 1 → n ≤ n' → LS prog w H H' a suite version x y c' c1 a' a1 [.int (c' : Nat) t, .int (c1 : Nat) tc'] [.bool a', .bool a1] vn (b + 3) → RC w.params H0 fs H' n' h' → Q (.bool true) ⟨h', g, d, tk', os⟩) :
    wpP (model prog w) A (call (.ref 438) [.ref a.st, .ref a.sd, .ref a.md, .int 0 to, .ref ra]) Q E ⟨h, g, d, tk, os⟩ := by
  refine taken_ct (F := fun q => (q, c1)) (FA := fun q => (q, a1)) (EE := num + 2) (ix := 0) G hz O R F ok L0 hb hsu hx hy hCC (by decide) (by decide) rfl rfl rfl rfl (by omega) (by omega) (by omega) ⟨_, rfl⟩ rfl rfl rfl rfl rfl (fun L => L.s0) (fun L o k s => L.side0 ok o k s) hrow hspec ?_
  rintro c' a' H' h' n' tk' _ _ e1 e2 ⟨t, rfl⟩ rfl L' R'
  exact k c' a' H' h' n' tk' t e1 e2 L' R'
theorem taken1_ct {a : Adr} {c0 c1 ra off cnt num : Nat} {a0 a1 long : Bool} {suite version : Int} {x y : Nat} {b : Int} {to tc tc' u1 u2 u3 u4 u5 u6 : Tok} {vn : List Value} {pk hdr text : List UInt8}
    (G : Gd (KK w.params) H0) (hz : H0.objs.size ≤ n) (O : Ok A 16) (R : RC w.params H0 fs H n h) (F : FrOk A fs) (ok : a.Ok)
    (L0 : LS prog w H H a suite version x y c0 c1 a0 a1 [.int (c0 : Nat) tc, .int (c1 : Nat) tc'] [.bool a0, .bool a1] vn b) (hb : b < 2 ^ 20)
    (hsu : Suite suite) (hx : x < 2 ^ 45) (hy : y < 2 ^ 45) (hCC : c1 < 2 ^ 20)
    (hrow : H ra = some (.tup [.bytes pk.toArray u1, .int (off : Nat) u2, .int (cnt : Nat) u3, .bool long, .bytes hdr.toArray u4, .bytes text.toArray u5, .int (num : Nat) u6])) (hspec : RowSpec suite version x pk off cnt long hdr text num)
    (k : ∀ (c' : Nat) (a' : Bool) H' h' n' tk' t, c' ≤ c1 + 1 → n ≤ n' → LS prog w H H' a suite version x y c0 c' a0 a' [.int (c0 : Nat) tc, .int (c' : Nat) t] [.bool a0, .bool a'] vn (b + 3) → RC w.params H0 fs H' n' h' → Q (.bool true) ⟨h', g, d, tk', os⟩) :
    wpP (model prog w) A (call (.ref 438) [.ref a.st, .ref a.sd, .ref a.md, .int 1 to, .ref ra]) Q E ⟨h, g, d, tk, os⟩ := by
  refine taken_ct (F := fun q => (c0, q)) (FA := fun q => (a0, q)) (EE := num - 2) (ix := 1) G hz O R F ok L0 hb hsu hy hx hCC (by decide) (by decide) rfl rfl rfl rfl (by omega) (by omega) (by omega) ⟨_, rfl⟩ rfl rfl rfl rfl rfl (fun L => L.s1) (fun L o k s => L.side1 ok o k s) hrow hspec ?_
  rintro c' a' H' h' n' tk' _ _ e1 e2 ⟨t, rfl⟩ rfl L' R'
  exact k c' a' H' h' n' tk' t e1 e2 L' R'
end
section
variable {prog : Program} {w : World} {A : Around} {H0 h : Heap} {fs : List (Nat × Map)} {H : PH} {n : Nat} {L : Nat} {m : Map} {g : Array GenState} {d : Drawn} {tk : Nat} {os : OsState} {bb : Nat}
  {E : Value → Shared → Prop} {Q : Value → Shared → Prop}
open Pl
theorem Ok.mark0 {A : Around} {k : Nat} (O : Ok A k) : Ok (A.mark none) k := ⟨O.hd, O.dp, O.un⟩
theorem FrOk.mark0 {A : Around} {fs : List (Nat × Map)} {v : Option Value} (F : FrOk A fs) : FrOk (A.mark v) fs := F
section
variable {Hb Hb0 H H' Hx : PH} {a : Adr} {suite version : Int} {x y c0 c1 c0' c1' : Nat} {a0 a1 a0' a1' : Bool} {vc va vn vl vc' va' vn' rws : List Value} {b b' : Int} {z : AO}
theorem LS.rows (h0 : LS prog w Hb0 Hb a suite version x y c0 c1 a0 a1 vc va vn b) (h : LS prog w Hb H a suite version x y c0' c1' a0' a1' vc' va' vn' b') (ok : a.Ok) {q : Nat} (hq : q = a.q0 ∨ q = a.q1) (e : Hb q = some (.lst rws)) : H q = some (.lst rws) := by
  obtain ⟨m1, m2, m3⟩ := h0.s0.lst_ne e
  obtain ⟨m4, m5, m6⟩ := h0.s1.lst_ne e
  have d := ok.d
  refine h.o _ _ ?_ e
  simp only [Adr.S, List.mem_cons, List.not_mem_nil, or_false, not_or]
  rcases hq with rfl | rfl
  · exact ⟨d.f21, d.f22, d.f23, d.f24, Ne.symm m1, Ne.symm m2, Ne.symm m3, Ne.symm m4, Ne.symm m5, Ne.symm m6⟩
  · exact ⟨d.f26, d.f27, d.f28, d.f29, Ne.symm m1, Ne.symm m2, Ne.symm m3, Ne.symm m4, Ne.symm m5, Ne.symm m6⟩
theorem LS.newrow (h : LS prog w Hb H a suite version x y c0 c1 a0 a1 vc va vn b) (ok : a.Ok) (bn : Bnd H n) {q0 q1 : Nat} (f0 : NE q0 a.st ∧ NE q0 a.cs ∧ NE q0 a.as ∧ NE q0 a.ns ∧ NE q0 a.rs) (f1 : NE q1 a.st ∧ NE q1 a.cs ∧ NE q1 a.as ∧ NE q1 a.ns ∧ NE q1 a.rs) (l : H.le Hx) :
    ({ a with q0 := q0, q1 := q1 } : Adr).Ok ∧ LS prog w (Hx.set a.rs (.lst [.ref q0, .ref q1])) (Hx.set a.rs (.lst [.ref q0, .ref q1])) { a with q0 := q0, q1 := q1 } suite version x y c0 c1 a0 a1 vc va vn b := by
  have d := ok.d
  refine ⟨⟨⟨d.f1, d.f2, d.f3, d.f4, d.f5, d.f6, d.f7, d.f8, d.f9, d.f10, d.f11, d.f12, d.f13, d.f14, d.f15, d.f16, d.f17, d.f18, d.f19, d.f20, f0.1, f0.2.1, f0.2.2.1, f0.2.2.2.1, f0.2.2.2.2, f1.1, f1.2.1, f1.2.2.1, f1.2.2.2.1, f1.2.2.2.2⟩, ok.j⟩, ?_⟩
  have hx := (h.le l).rebase
  have emd : a.md ≠ a.rs := ne_of hx.md hx.rr (fun q => nomatch q)
  have L1 : LS prog w (Hx.set a.rs (.lst [.ref a.q0, .ref a.q1])) (Hx.set a.rs (.lst [.ref a.q0, .ref a.q1])) a suite version x y c0 c1 a0 a1 vc va vn b := by
    rw [PH.set_same hx.rr]; exact hx
  have nb : ∀ q ∈ a.S, ∀ z, (Hx.set a.rs (.lst [.ref q0, .ref q1])) q = some z → ¬ Imm z := by
    intro q hq z e
    by_cases qq : q = a.rs
    · subst qq; rw [PH.set_self] at e; cases e; exact nimm_lst
    · rw [PH.set_ne qq] at e; exact hx.nb q hq z e
  exact ⟨hx.st.set (NE.en d.f4) (NE.en d.f15), PH.set_at d.f20 hx.sd, PH.set_at emd hx.md, PH.set_at d.f7 hx.c, PH.set_at d.f9 hx.aa, PH.set_at d.f10 hx.nn, PH.set_self _ _ _, hx.s0.setl hx.rr, hx.s1.setl hx.rr, Only.refl _ _, KeepI.refl _, nb⟩
theorem SideAt.ask {p pd rc rcd sc scd bS bR c : Nat} {ask : Bool} (h : SideAt H suite version p pd rc rcd sc scd bS bR c ask) (o : Only [pd] H H') (pv : PairV H' p pd rc sc true) : KeepI H H' ∧ SideAt H' suite version p pd rc rcd sc scd bS bR c true := by
  have k : KeepI H H' := KeepI.only (KeepI.refl _) o (fun q hq z e => by
    rw [List.mem_singleton.mp hq] at e
    obtain ⟨_, _, e'⟩ := h.pv
    rw [e'] at e; cases e; exact nimm_pair)
  exact ⟨k, pv, h.r.only o k (by simpa using Ne.symm (h.pv.ne h.r)), h.s.only o k (by simpa using Ne.symm (h.pv.ne h.s)), h.ne⟩
theorem LS.raw {it : Nat} {o : Obj} (h : LS prog w H H a suite version x y c0 c1 a0 a1 vc va vn b) (oo : Only [it] H H') (ho : H it = some (.raw o)) : LS prog w H' H' a suite version x y c0 c1 a0 a1 vc va vn b := by
  exact LS.rebase (Hb := fun _ => none) ⟨h.st.raw oo ho, raw_lst oo ho h.sd, raw_prp oo ho h.md, raw_lst oo ho h.c, raw_lst oo ho h.aa, raw_lst oo ho h.nn, raw_lst oo ho h.rr, h.s0.raw oo ho, h.s1.raw oo ho, fun _ _ _ e => (nomatch e), fun _ _ _ e => (nomatch e), fun _ _ _ e => (nomatch e)⟩
end
abbrev mdL (cs as ns rs : Nat) : List (Str × Value) := [("counts", .ref cs), ("asked", .ref as), ("numbers", .ref ns), ("rows", .ref rs)]
theorem law_init {P : Params} {X : Prop} {H2 : PH} {n2 st cl sd md cs as ns q0 q1 rs p pd rc rcd sc scd p' pd' rc' rcd' sc' scd' x y n0 n1 : Nat} {x3 s0' : AO} {suite version : Int} {b0 b : Int} {t1 t2 t3 t4 : Tok} {kv : List (Str × Value)} {v3 v4 : Int}
    (R : RC P H0 fs (((((((((H2.set md s0').set cs (.lst [.int 0 t1, .int 0 t2])).set as (.lst [.bool false, .bool false])).set st x3).set ns (.lst [.int v3 t3, .int v4 t4])).set q0 (.lst [])).set q1 (.lst [])).set rs (.lst [.ref q0, .ref q1])).set md (SD prog w kv)) n h)
    (hkv : kv = mdL cs as ns rs)
    (hv3 : v3 = (n0 : Nat)) (hv4 : v4 = (n1 : Nat))
    (bn : Bnd H2 n2) (b1 : n2 ≤ md) (b2 : md < cs) (b3 : cs < as) (b4 : as < ns) (b5 : ns < q0) (b6 : q0 < q1) (b7 : q1 < rs)
    (hst0 : StC H2 st cl b0) (hst : StC ((((H2.set md s0').set cs (.lst [.int 0 t1, .int 0 t2])).set as (.lst [.bool false, .bool false])).set st x3) st cl b)
    (hsd : H2 sd = some (.lst [.ref p, .ref p'])) (hss : sd ≠ st)
    (s0 : SideAt H2 suite version p pd rc rcd sc scd x y 0 false) (s1 : SideAt H2 suite version p' pd' rc' rcd' sc' scd' y x 0 false) (hj : ∀ q ∈ [pd, rcd, scd], q ∉ [pd', rcd', scd'])
    (k : ∀ (a : Adr) (H3 : PH) (u1 u2 u3 u4 : Tok), a.st = st → a.sd = sd → a.md = md → a.Ok → LS prog w H3 H3 a suite version x y 0 0 false false [.int ((0 : Nat) : Int) u1, .int ((0 : Nat) : Int) u2] [.bool false, .bool false] [.int (n0 : Nat) u3, .int (n1 : Nat) u4] b →
      H3 a.q0 = some (.lst []) → H3 a.q1 = some (.lst []) → RC P H0 fs H3 n h → X) : X := by
  subst hkv hv3 hv4
  obtain ⟨_, _, vs, cells, es, ec, hi, hne, hl0, hl, h0, h1⟩ := hst0
  have l1 := bn.lt es
  have l2 := bn.lt ec
  have l3 := bn.lt hsd
  obtain ⟨at_, t0, vs', cells', es', ec', r'⟩ := hst
  rw [PH.set_self] at es'
  rw [PH.set_ne hne, PH.set_ne (by walk_at "om"), PH.set_ne (by walk_at "om"), PH.set_ne (by walk_at "om")] at ec'
  have sk : ∀ {p pd rc rcd sc scd x y : Nat}, SideAt H2 suite version p pd rc rcd sc scd x y 0 false → SideAt (((((((((H2.set md s0').set cs (.lst [.int 0 t1, .int 0 t2])).set as (.lst [.bool false, .bool false])).set st x3).set ns (.lst [.int (n0 : Nat) t3, .int (n1 : Nat) t4])).set q0 (.lst [])).set q1 (.lst [])).set rs (.lst [.ref q0, .ref q1])).set md (SD prog w (mdL cs as ns rs))) suite version p pd rc rcd sc scd x y 0 false := by
    intro p pd rc rcd sc scd x y s
    have o : Only [st] H2 (((((((((H2.set md s0').set cs (.lst [.int 0 t1, .int 0 t2])).set as (.lst [.bool false, .bool false])).set st x3).set ns (.lst [.int (n0 : Nat) t3, .int (n1 : Nat) t4])).set q0 (.lst [])).set q1 (.lst [])).set rs (.lst [.ref q0, .ref q1])).set md (SD prog w (mdL cs as ns rs))) := by
      intro q z hq e
      have lq := bn.lt e
      have hq' : q ≠ st := by simpa using hq
      rw [PH.set_ne (by walk_at "om"), PH.set_ne (by walk_at "om"), PH.set_ne (by walk_at "om"), PH.set_ne (by walk_at "om"), PH.set_ne (by walk_at "om"), PH.set_ne hq', PH.set_ne (by walk_at "om"), PH.set_ne (by walk_at "om"), PH.set_ne (by walk_at "om"), e]
    obtain ⟨m1, m2, m3⟩ := s.lst_ne es
    exact s.keep o (KeepI.only (KeepI.refl _) o (fun q hq z e => by rw [List.mem_singleton.mp hq, es] at e; cases e; exact nimm_lst)) (by simpa using m1) (by simpa using m2) (by simpa using m3)
  refine k ⟨st, cl, sd, md, cs, as, ns, rs, q0, q1, p, pd, rc, rcd, sc, scd, p', pd', rc', rcd', sc', scd'⟩ _ t1 t2 t3 t4 rfl rfl rfl ⟨⟨?_, ?_, ?_, ?_, ?_, ?_, ?_, ?_, ?_, ?_, hne, ?_, ?_, ?_, ?_, hss, ?_, ?_, ?_, ?_, ?_, ?_, ?_, ?_, ?_, ?_, ?_, ?_, ?_, ?_⟩, hj⟩
    (LS.rebase (Hb := fun _ => none) ⟨⟨at_, t0, vs', cells', ?_, ?_, r'⟩, ?_, PH.set_self _ _ _, ?_, ?_, ?_, ?_, sk s0, sk s1, fun _ _ _ e => (nomatch e), fun _ _ _ e => (nomatch e), fun _ _ _ e => (nomatch e)⟩) ?_ ?_ R
  any_goals (show _ ≠ _; show ¬ (_ : Nat) = (_ : Nat); dsimp only; walk_at "om")
  all_goals dsimp only
  all_goals (repeat (first | rw [PH.set_self] | rw [PH.set_ne (by walk_at "om")]))
  all_goals first | assumption | rfl
theorem P_withOk {α : Type} {A : Around} {k j : Nat} {env : Env} {M : Model} {t : Sem α} {Q : α → Shared → Prop} {E : Value → Shared → Prop} {s : Shared} (O : Ok A k) (h : j + 1 ≤ k) (k' : Ok ((A.deeper env).mark none) j → wpP M ((A.deeper env).mark none) t Q E s) : wpP M ((A.deeper env).mark none) t Q E s := k' (O.deep h).mark0
section
variable {Hb Hb0 H H' Hx : PH} {a : Adr} {suite version : Int} {x y c0 c1 c0' c1' : Nat} {a0 a1 a0' a1' : Bool} {vc va vn vl vc' va' vn' rws rws1 rws0 : List Value} {b b' : Int} {z : AO}
theorem LS.rawk (h0 : LS prog w Hb0 Hb a suite version x y c0 c1 a0 a1 vc va vn b) (h : LS prog w Hb H a suite version x y c0' c1' a0' a1' vc' va' vn' b') {it : Nat} {o : Obj} (e : Hb it = some (.raw o)) : H it = some (.raw o) := by
  have nd : ∀ {q : Nat}, (∃ l, Hb q = some (.dic l)) → it ≠ q := fun ⟨_, q⟩ => ne_of e q (fun q => nomatch q)
  have nl : ∀ {q : Nat} {l : List Value}, Hb q = some (.lst l) → it ≠ q := fun q => ne_of e q (fun q => nomatch q)
  obtain ⟨_, _, _, _, es, _⟩ := h0.st
  refine h.o _ _ ?_ e
  simp only [Adr.S, List.mem_cons, List.not_mem_nil, or_false, not_or]
  exact ⟨nl es, nl h0.c, nl h0.aa, nl h0.nn, nd h0.s0.pv.isdic, nd h0.s0.r.isdic, nd h0.s0.s.isdic, nd h0.s1.pv.isdic, nd h0.s1.r.isdic, nd h0.s1.s.isdic⟩
theorem LS.append {P : Params} {X : Prop} {t1 q0 q1 qn n0 : Nat} {z1 : AO} (R : RC P H0 fs (((H.set t1 z1).set qn (.lst rws)).set a.rs (.lst [.ref q0, .ref q1])) n h)
    (hL : LS prog w Hb H a suite version x y c0 c1 a0 a1 vc va vn b) (ok : a.Ok) (bn : Bnd H n0) (b1 : n0 ≤ t1) (b2 : n0 ≤ qn) (e0 : H a.q0 = some (.lst rws0)) (e1 : H a.q1 = some (.lst rws1)) (hq : (q0 = qn ∧ q1 = a.q1) ∨ (q0 = a.q0 ∧ q1 = qn))
    (k : ∀ (a' : Adr) H5, a'.st = a.st → a'.sd = a.sd → a'.md = a.md → a'.Ok → LS prog w H5 H5 a' suite version x y c0 c1 a0 a1 vc va vn b → H5 a'.q0 = some (.lst (if q0 = qn then rws else rws0)) → H5 a'.q1 = some (.lst (if q0 = qn then rws1 else rws)) → KeepI H H5 →
      (∀ it o, H it = some (.raw o) → H5 it = some (.raw o)) → RC P H0 fs H5 n h → X) : X := by
  have d := ok.d
  obtain ⟨_, _, _, _, es, _⟩ := id hL.st
  have l1 := bn.lt es
  have l2 := bn.lt hL.c
  have l3 := bn.lt hL.aa
  have l4 := bn.lt hL.nn
  have l5 := bn.lt hL.rr
  have l6 := bn.lt e0
  have l7 := bn.lt e1
  have le1 : H.le ((H.set t1 z1).set qn (.lst rws)) := PH.le_new (PH.le_new (PH.le_refl _) (bn.nn b1)) (bn.nn b2)
  have fn : NE qn a.st ∧ NE qn a.cs ∧ NE qn a.as ∧ NE qn a.ns ∧ NE qn a.rs := ⟨by show qn ≠ _; walk_at "om", by show qn ≠ _; walk_at "om", by show qn ≠ _; walk_at "om", by show qn ≠ _; walk_at "om", by show qn ≠ _; walk_at "om"⟩
  have f0 : NE q0 a.st ∧ NE q0 a.cs ∧ NE q0 a.as ∧ NE q0 a.ns ∧ NE q0 a.rs := by
    rcases hq with ⟨rfl, _⟩ | ⟨rfl, _⟩
    · exact fn
    · exact ⟨d.f21, d.f22, d.f23, d.f24, d.f25⟩
  have f1 : NE q1 a.st ∧ NE q1 a.cs ∧ NE q1 a.as ∧ NE q1 a.ns ∧ NE q1 a.rs := by
    rcases hq with ⟨_, rfl⟩ | ⟨_, rfl⟩
    · exact ⟨d.f26, d.f27, d.f28, d.f29, d.f30⟩
    · exact fn
  obtain ⟨ok', L'⟩ := hL.newrow ok bn f0 f1 le1
  refine k { a with q0 := q0, q1 := q1 } _ rfl rfl rfl ok' L' ?_ ?_ ?_ ?_ R
  · show (((H.set t1 z1).set qn (.lst rws)).set a.rs (.lst [.ref q0, .ref q1])) q0 = _
    rw [PH.set_ne f0.2.2.2.2]
    rcases hq with ⟨rfl, _⟩ | ⟨rfl, _⟩
    · rw [if_pos rfl, PH.set_self]
    · rw [if_neg (by walk_at "om")]; exact le1 _ _ e0
  · show (((H.set t1 z1).set qn (.lst rws)).set a.rs (.lst [.ref q0, .ref q1])) q1 = _
    rw [PH.set_ne f1.2.2.2.2]
    rcases hq with ⟨rfl, rfl⟩ | ⟨rfl, rfl⟩
    · rw [if_pos rfl]; exact le1 _ _ e1
    · rw [if_neg (by walk_at "om"), PH.set_self]
  · exact KeepI.setB ((KeepI.refl H).le le1) (fun z e => by rw [hL.rr] at e; cases e; exact nimm_lst)
  · intro it o e
    exact PH.set_at (ne_of e hL.rr (fun q => nomatch q)) (le1 _ _ e)
end
end
section
variable {prog : Program} {w : World} {A : Around} {H0 h : Heap} {fs : List (Nat × Map)} {H : PH} {n : Nat} {L : Nat} {m : Map} {g : Array GenState} {d : Drawn} {tk : Nat} {os : OsState} {bb : Nat}
  {E : Value → Shared → Prop} {Q : Value → Shared → Prop}
open Pl
structure LInv (prog : Program) (w : World) (suite version : Int) (x y : Nat) (i : Nat) (H' : PH) (m' : Map) (a : Adr) (c0 c1 n0 n1 : Nat) (a0 a1 : Bool) (tc tc' tn tn' : Tok) (rows0 rows1 : List Value) : Prop where
  ok : a.Ok
  ms : m' "state" = some (.ref a.st)
  md : m' "sides" = some (.ref a.sd)
  mm : m' "m" = some (.ref a.md)
  b0 : c0 ≤ i
  b1 : c1 ≤ i
  k0 : n0 ≤ 1000 + i
  k1 : n1 ≤ 2 ^ 32 + i
  L : LS prog w H' H' a suite version x y c0 c1 a0 a1 [.int (c0 : Nat) tc, .int (c1 : Nat) tc'] [.bool a0, .bool a1] [.int (n0 : Nat) tn, .int (n1 : Nat) tn'] (10 + 10 * (i : Nat))
  q0 : H' a.q0 = some (.lst rows0)
  q1 : H' a.q1 = some (.lst rows1)
  l0 : rows0.length ≤ i
  l1 : rows1.length ≤ i
  t0 : ∀ v ∈ rows0, RowT H' suite version x v
  t1 : ∀ v ∈ rows1, RowT H' suite version y v
structure LD where
  (a : Adr) (c0 c1 n0 n1 : Nat) (a0 a1 : Bool) (tc tc' tn tn' : Tok) (rows0 rows1 : List Value)
noncomputable def LInvE (prog : Program) (w : World) (suite version : Int) (x y : Nat) (i : Nat) (H' : PH) (m' : Map) : Prop := ∃ D : LD, LInv prog w suite version x y i H' m' D.a D.c0 D.c1 D.n0 D.n1 D.a0 D.a1 D.tc D.tc' D.tn D.tn' D.rows0 D.rows1
theorem LInvE.el {X : Prop} {suite version : Int} {x y i : Nat} {H' : PH} {m' : Map} (h : LInvE prog w suite version x y i H' m') (k : ∀ (a : Adr) (c0 c1 n0 n1 : Nat) (a0 a1 : Bool) (tc tc' tn tn' : Tok) (rows0 rows1 : List Value), LInv prog w suite version x y i H' m' a c0 c1 n0 n1 a0 a1 tc tc' tn tn' rows0 rows1 → X) : X :=
  let ⟨_, h⟩ := h; k _ _ _ _ _ _ _ _ _ _ _ _ _ h
theorem LInvE.mk {suite version : Int} {x y i : Nat} {H' : PH} {m' : Map} {a : Adr} {c0 c1 n0 n1 : Nat} {a0 a1 : Bool} {tc tc' tn tn' : Tok} {rows0 rows1 : List Value} (h : LInv prog w suite version x y i H' m' a c0 c1 n0 n1 a0 a1 tc tc' tn tn' rows0 rows1) : LInvE prog w suite version x y i H' m' :=
  ⟨⟨a, c0, c1, n0, n1, a0, a1, tc, tc', tn, tn', rows0, rows1⟩, h⟩
theorem P_turn_cons {P : Params} {M : Model} {st : Stmt} {rest : List Stmt} {env : Env} {it N i : Nat} {Inv : Nat → PH → Map → Prop} {Q : Flow → Shared → Prop} {E : Value → Shared → Prop} {s : Shared}
    (h : wpP M A (exec st env) (fun f s' => f = .next ∧ Turn P H0 fs L it N n g d os Inv Q i .next s') E s)
    (k : ∀ s', Turn P H0 fs L it N n g d os Inv Q i .next s' → wpP M A (execs rest env) (Turn P H0 fs L it N n g d os Inv Q i) E s') :
    wpP M A (execs (st :: rest) env) (Turn P H0 fs L it N n g d os Inv Q i) E s :=
  P_execs_cons (P_mono h (fun f s' q => by obtain ⟨rfl, q⟩ := q; exact k s' q) (fun _ _ x => x))
theorem P_qabs {α : Type} {M : Model} {A : Around} {t : Sem α} {Q : α → Shared → Prop} {E : Value → Shared → Prop} {s : Shared} (h : ∀ Q' : α → Shared → Prop, (∀ a s, Q a s → Q' a s) → wpP M A t Q' E s) : wpP M A t Q E s := h Q (fun _ _ x => x)
theorem isvalid2_ct {c cd : Nat} {av sv hv kv secv vv : Value}
    (G : Gd (KK w.params) H0) (hz : H0.objs.size ≤ n) (O : A.depth < recursionLimit) (R : RC w.params H0 fs H n h) (hc : CtxV H c cd av sv hv kv secv vv) (hv : handedIn av = true)
    (k : ∀ h' n' tk', n ≤ n' → RC w.params H0 fs H n' h' → Q (.bool (!(av == .none))) ⟨h', g, d, tk', os⟩) :
    wpAny (model prog w) A (call (.ref 240) [.ref c]) Q E ⟨h, g, d, tk, os⟩ := by
  obtain ⟨e1, e2⟩ := hc
  refine' r_def (binds := [("self", .ref c)]) R ?G hz O ?ho ?hcd ?hbind ?hloc ?_ ?hco ?hgen ?hk ?hcell
  walk_at "def"
  intro L' h₁ tk₁ hl R'
  walk_at "8"
  rename RC _ _ _ _ _ _ => r0
  exact k _ _ _ (by walk_at "om") r0.pop
theorem law_ct {l : Nat} {vs : List Value} {cells : List Int}
    (G : Gd (KK w.params) H0) (hz : H0.objs.size ≤ n) (O : Ok A 20) (R : RC w.params H0 fs H n h) (F : FrOk A fs) (hi : H0.IsList l vs.toArray) (hv : IntsAre vs cells) (hs : cells.length < 2 ^ 19)
    (k : ∀ h' n' tk', n ≤ n' → RC w.params H0 fs (fun _ => none) n' h' → Q (.bool true) ⟨h', g, d, tk', os⟩) :
    wpP (model prog w) A (call (.ref 445) [.ref l]) Q E ⟨h, g, d, tk, os⟩ := by
  refine' P_def (binds := [("script", .ref l)]) R ?G hz O.room ?ho ?hcd ?hbind ?hloc ?_ ?hco ?hgen ?hk ?hcell
  walk_at "def"
  intro L' h₁ tk₁ hl R'
  refine' P_execs_consA ?_
  walk_at "10"
  rename RC _ _ _ _ _ _ => r0
  refine' state_ct G (by walk_at "om") (O.deep (by decide)) r0 hi hv hs (by decide) ?_
  intro st cl H1 h' n' tk' hn le1 hst r1
  clear r0
  walk_at "1"
  refine' P_execs_consA ?_
  walk_at "8"
  rename RC _ _ _ _ _ _ => r0
  refine' sides_ct G (by walk_at "om") (O.deep (by decide)) r0 hst (by decide) ?_
  intro sd suite version x y p pd rc rcd sc scd p' pd' rc' rcd' sc' scd' z H2 h' n' tk' hsu hx hy hn2 le2 hst2 hsdn hsd2 sd0 sd1 hdj r1
  obtain ⟨_, es1⟩ := StC.ex1 hst
  have lst1 := r0.lt es1
  clear r0
  have bn2 := r1.bnd
  have lsd := bn2.lt hsd2
  walk_at "1"
  refine' P_execs_consA ?_
  refine' wpAny_Assign_Name ?_ ?hs
  case hs => exact rfl
  rename RC _ _ _ _ _ _ => r0
  have hz2 : H0.objs.size ≤ n' := by walk_at "om"
  with_reducible refine' r_dict r0 hz2 ?_ ?hall ?hl ?h0 ?hlen
  case hall => exact rfl
  case hl => exact rfl
  case h0 => exact List.cons_ne_nil _ _
  case hlen => exact (Nat.le_of_ble_eq_true rfl)
  intro md h' hmd r1
  clear r0
  with_reducible refine' pairTrees_cons_walk ?_
  walk_at "30"
  rename RC _ _ _ _ _ _ => r0
  refine' take_ct G (by walk_at "om") (O.deep (by decide)) r0 (hst2.le ?lle) (by decide) (by walk_at "om") ?_
  case lle => walk_at "le"
  intro v3 t3 x3 h' n' tk' v30 v31 hn3 hs3 r1
  clear r0
  walk_at "24"
  rename RC _ _ _ _ _ _ => r0
  refine' r_dict_done r0 ?e ?hk ?hn ?_
  case e => walk_at "lk"
  case hk => exact rfl
  case hn =>
    show List.Nodup [Str.ofString "counts", Str.ofString "asked", Str.ofString "numbers", Str.ofString "rows"]
    decide
  intro h' tk' r1
  clear r0
  refine' law_init (n0 := v3.toNat) (n1 := 2 ^ 32 - 3) r1 ?hkv ?hv3 ?hv4 bn2 (by walk_at "om") (by walk_at "om") (by walk_at "om") (by walk_at "om") (by walk_at "om") (by walk_at "om") (by walk_at "om") hst2 hs3 hsd2 (by walk_at "om") sd0 sd1 hdj ?_
  case hkv => exact rfl
  case hv3 => walk_at "om"
  case hv4 => decide
  intro a H3 u1 u2 u3 u4 ea1 ea2 ea3 ok L0 hq0 hq1 r0
  clear r1
  subst ea1 ea2 ea3
  have bn3 := r0.bnd
  walk_at "1"
  refine' P_execs_cons ?_
  refine' P_For ?_ ?hf
  case hf => intro _; exact rfl
  walk_at "15"
  rename RC _ _ _ _ _ _ => r0
  refine' take_ct G (by walk_at "om") (O.deep (by decide)) r0 L0.st (by decide) (by walk_at "om") ?_
  intro vN tN xN h' n' tk' vN0 vN1 hnN hsN r1
  clear r0
  have L1 := (L0.take ok hsN)
  have hq0' := L0.rows L1 ok (.inl rfl) hq0
  have hq1' := L0.rows L1 ok (.inr rfl) hq1
  generalize H3.set a.st xN = H4 at hsN r1 L1 hq0' hq1'
  have L1 := L1.rebase
  have bn4 := r1.bnd
  obtain ⟨N, rfl⟩ : ∃ N : Nat, vN = N := ⟨vN.toNat, by walk_at "om"⟩
  walk_at "4"
  rename RC _ _ _ _ _ _ => r0
  refine' range_turns2P (N := 4 + N) ?hh r0 ?e (LInvE prog w suite version x y) ?i0 ?turn ?fin ?hinv ?hk ?hl
  case hk => exact rfl
  case hl => exact rfl
  case hh => exact O.hd
  case e => exact PH.set_self _ _ _
  case i0 =>
    refine LInvE.mk (a := a) (c0 := 0) (c1 := 0) (n0 := v3.toNat) (n1 := 2 ^ 32 - 3) (a0 := false) (a1 := false) (tc := u1) (tc' := u2) (tn := u3) (tn' := u4) (rows0 := []) (rows1 := []) ?_
    have lq0 := bn4.lt hq0'
    have lq1 := bn4.lt hq1'
    refine ⟨ok, rfl, rfl, rfl, Nat.le_refl _, Nat.le_refl _, by walk_at "om", by walk_at "om", ?_, by walk_at "lk", by walk_at "lk", Nat.le_refl _, Nat.le_refl _, fun v hv => (nomatch hv), fun v hv => (nomatch hv)⟩
    refine (LS.rebase (LS.le L1 ?_)).mono (by walk_at "om")
    walk_at "le"
  case hinv =>
    rintro i H' H'' m' oo ⟨o, ho⟩ hIE
    refine LInvE.el hIE ?_
    clear hIE
    rintro a c0 c1 n0 n1 a0 a1 tc tc' tn tn' rows0 rows1 I
    have kk := raw_keep oo ho
    exact LInvE.mk ⟨I.ok, I.ms, I.md, I.mm, I.b0, I.b1, I.k0, I.k1, I.L.raw oo ho, raw_lst oo ho I.q0, raw_lst oo ho I.q1, I.l0, I.l1, fun v hv => (I.t0 v hv).keep kk, fun v hv => (I.t1 v hv).keep kk⟩
  case turn =>
    rintro i H' m' n' h' tk' tk'' hi hIE hn hit r1
    refine LInvE.el hIE ?_
    clear hIE
    rintro a c0 c1 n0 n1 a0 a1 tc tc' tn tn' rows0 rows1 ⟨ok, ms, msd, mm, b0, b1, k0, k1, L, q0, q1, l0, l1, t0, t1⟩
    clear r0 L0 L1 hq0 hq1 hq0' hq1' bn2 bn3 bn4 sd0 sd1 hst2 hs3 hsN
    refine' P_withOk O (j := 18) (by decide) ?_
    intro OM
    have bnT := r1.bnd
    have fsd := L.sd
    have fmd := L.md
    have fc := L.c
    have fa := L.aa
    have fn := L.nn
    have frr := L.rr
    refine' P_execs_consA ?_
    walk_at "12"
    rename RC _ _ _ _ _ _ => r0
    refine' take_ct G (by walk_at "om") (OM.le (by decide)) r0 L.st (by decide) (by walk_at "om") ?_
    intro v t x1 h' n' tk' v0 v1 hn1 hs1 r1
    clear r0
    have L1 := L.take ok hs1
    generalize H'.set a.st x1 = H1 at hs1 r1 L1
    have fsd := L1.sd
    have fmd := L1.md
    have fc := L1.c
    have fa := L1.aa
    have fn := L1.nn
    have frr := L1.rr
    walk_at "10"
    rename RC _ _ _ _ _ _ => r0
    refine' take_ct G (by walk_at "om") (OM.le (by decide)) r0 L1.st (by decide) (by walk_at "om") ?_
    intro v2 t2 x2 h' n' tk' v20 v21 hn2 hs2 r1
    clear r0
    have L2 := L1.take ok hs2
    generalize H1.set a.st x2 = H2 at hs2 r1 L2
    have bn2 := r1.bnd
    have fsd := L2.sd
    have fmd := L2.md
    have fc := L2.c
    have fa := L2.aa
    have fn := L2.nn
    have frr := L2.rr
    walk_at "2"
    rename RC _ _ _ _ _ _ => r0
    refine' r_unpackItems r0 OM.hd ?e ?hj ?_
    case e => exact RC.tup (by with_reducible assumption) (by walk_at "lk")
    case hj => exact rfl
    intro h' r1
    clear r0
    refine' assignInOrder_cons ?_
    refine' r_bindName ?_
    walk_at "5"
    rename RC _ _ _ _ _ _ => r0
    generalize hT : PH.set H2 _ (AO.tup _) = HT at r0
    have lT : H2.le HT := by rw [← hT]; walk_at "le"
    have L3' := L2.le lT
    have q03 := L.rows L3' ok (.inl rfl) q0
    have q13 := L.rows L3' ok (.inr rfl) q1
    have hit3 := L.rawk L3' hit
    have t03 := fun v hv => (t0 v hv).keep L3'.k
    have t13 := fun v hv => (t1 v hv).keep L3'.k
    have L3 := L3'.rebase
    have bn3 := r0.bnd
    have fsd := L3.sd
    have fmd := L3.md
    have fc := L3.c
    have fa := L3.aa
    have fn := L3.nn
    have frr := L3.rr
    have lcN : i < 100 := by walk_at "om"
    refine' P_turn_cons ?body ?rest
    case rest =>
      intro s' hT
      obtain ⟨HF, mF, nF, hF, tkF, rfl, hnF0, hitF, hIE, r1⟩ := hT
      refine LInvE.el hIE ?_
      clear hIE
      intro aF c0F c1F n0F n1F a0F a1F tcF tcF' tnF tnF' rows0F rows1F IF
      clear r0
      have LF := IF.L
      have msF := IF.ms
      have mdF := IF.md
      have mmF := IF.mm
      repeat (refine' P_any ?_; walk_at "13")
      rename RC _ _ _ _ _ _ => r0
      refine' phases_ct G (by walk_at "om") (OM.le (by decide)) r0 LF.sd (LF.mat ⟨_, _, rfl⟩ rfl ⟨_, _, rfl⟩) LF.s0 LF.s1 ?_
      intro h' n' tk' hnf r1'
      clear r0
      walk_at "1"
      rw [if_neg (by decide : ¬ (!true) = true)]
      walk_at "2"
      rename RC _ _ _ _ _ _ => r0
      exact turn_next r0 (by walk_at "om") hitF (LInvE.mk IF)
    refine' P_qabs ?_
    intro TQ hTQ
    refine' P_If ?_
    refine' P_any ?_
    have v' : v = 0 ∨ v = 1 := by walk_at "om"
    rcases v' with rfl | rfl
    · walk_at "5"
      refine' split_if ?_ ?_
      ·
        intro hdeed
        refine' P_execs_cons ?_
        refine' P_Assign_Name ?_ ?hs
        case hs => exact rfl
        refine' P_Call_ofName ?_
        walk_at "1"
        refine' P_callK (K := (KK w.params)) ?hk ?_ ?he ?hp
        case he => exact rfl
        case hp => exact rfl
        case hk => k_is
        walk_at "10"
        rename RC _ _ _ _ _ _ => r0
        refine' sealed0_ct G (by walk_at "om") (OM.le (by decide)) r0 ok L3 (by walk_at "om") hsu (by walk_at "om") (by walk_at "om") (by walk_at "om") (by walk_at "om") ?_
        intro q H4 h' n' tk' ta tb hn4 L4 hrow r1
        clear r0
        have bn4 := r1.bnd
        have q04 := L3.rows L4 ok (.inl rfl) q03
        have q14 := L3.rows L4 ok (.inr rfl) q13
        have hit4 := L3.rawk L4 hit3
        have t04 := fun v hv => (t03 v hv).keep L4.k
        have t14 := fun v hv => (t13 v hv).keep L4.k
        have fsd := L4.sd
        have fmd := L4.md
        have fc := L4.c
        have fa := L4.aa
        have fn := L4.nn
        have frr := L4.rr
        have lq0 := bn4.lt q04
        have lq1 := bn4.lt q14
        have lrs := bn4.lt frr
        have lmd := bn4.lt fmd
        walk_at "1"
        refine' P_any ?_
        walk_at "32"
        rename RC _ _ _ _ _ _ => r0
        refine' LS.append r0 L4 ok bn4 (by walk_at "om") (by walk_at "om") q04 q14 (.inl ⟨rfl, rfl⟩) ?_
        intro a' H5 e1 e2 e3 okF LF q05 q15 k5 raw5 r1
        clear r0
        rw [← e1] at ms
        rw [← e2] at msd
        rw [← e3] at mm
        have hitF := raw5 _ _ hit4
        have qF0 : H5 a'.q0 = some (.lst (rows0 ++ [.ref q])) := by rw [q05, (if_pos rfl)]
        have qF1 : H5 a'.q1 = some (.lst rows1) := by rw [q15, (if_pos rfl)]
        have lF0 : ((rows0 ++ [.ref q]) : List Value).length ≤ i + 1 := by first | (simp only [List.length_append, List.length_cons, List.length_nil]; walk_at "om") | walk_at "om"
        have lF1 : (rows1 : List Value).length ≤ i + 1 := by first | (simp only [List.length_append, List.length_cons, List.length_nil]; walk_at "om") | walk_at "om"
        have tF0 : ∀ v ∈ ((rows0 ++ [.ref q]) : List Value), RowT H5 suite version x v := by
          (intro v hv; rcases List.mem_append.mp hv with hv | hv; exact (t04 v hv).keep k5; rw [List.mem_singleton.mp hv]; exact hrow.keep k5)
        have tF1 : ∀ v ∈ (rows1 : List Value), RowT H5 suite version y v := by
          (exact fun v hv => (t14 v hv).keep k5)
        have hco := Bool.toNat_le a0
        have hco1 := Bool.toNat_le a1
        repeat (refine' P_any ?_; walk_at "go")
        rename RC _ _ _ _ _ _ => r0
        refine hTQ _ _ ⟨rfl, ?_⟩
        refine turn_next r0 (by walk_at "om") hitF (LInvE.mk ⟨okF, ms, msd, mm, by walk_at "om", by walk_at "om", by walk_at "om", by walk_at "om", LF.mono (by walk_at "om"), qF0, qF1, lF0, lF1, tF0, tF1⟩)
      · intro hdeed
        refine' P_execs_cons ?_
        refine' P_If ?_
        refine' P_any ?_
        walk_at "5"
        refine' split_if ?_ ?_
        ·
          intro hdeed3
          refine' P_any ?_
          obtain ⟨pv, cr, cs', hne⟩ := id L3.s0
          refine' PairV.el pv ?_
          intro t0' pe1 pe2
          walk_at "9"
          rename RC _ _ _ _ _ _ => r0
          refine' update_key_ct G (by walk_at "om") (OM.le (by decide)) r0 pv ?_
          intro H4 h' n' tk' hn4 o4 pv4 r1
          clear r0
          obtain ⟨k4, sd4⟩ := L3.s0.ask o4 pv4
          have L4 := L3.side0 ok (o4.mono (by intro q hq; rw [List.mem_singleton.mp hq]; exact List.Mem.head _)) k4 sd4
          have bn4 := r1.bnd
          have fsd := L4.sd
          have fmd := L4.md
          have fc := L4.c
          have fa := L4.aa
          have fn := L4.nn
          have frr := L4.rr
          walk_at "10"
          rename RC _ _ _ _ _ _ => r0
          generalize hV3 : List.set [Value.bool a0, Value.bool a1] (Int.toNat 0) _ = V3 at r0
          have L5 := L4.seta ok (vl := V3)
          have qF0 := L3.rows L5 ok (.inl rfl) q03
          have qF1 := L3.rows L5 ok (.inr rfl) q13
          have hitF := L3.rawk L5 hit3
          have tF0 := fun v hv => (t03 v hv).keep L5.k
          have tF1 := fun v hv => (t13 v hv).keep L5.k
          subst hV3
          have LF := L5.rebase
          have lF0 : rows0.length ≤ i + 1 := by walk_at "om"
          have lF1 : rows1.length ≤ i + 1 := by walk_at "om"
          have okF := ok
          refine' P_any ?_
          walk_at "1"
          repeat (refine' P_any ?_; walk_at "go")
          rename RC _ _ _ _ _ _ => r0
          refine hTQ _ _ ⟨rfl, ?_⟩
          refine turn_next r0 (by walk_at "om") hitF (LInvE.mk ⟨okF, ms, msd, mm, by walk_at "om", by walk_at "om", by walk_at "om", by walk_at "om", LF.mono (by walk_at "om"), qF0, qF1, lF0, lF1, tF0, tF1⟩)
        ·
          intro hdeed3
          refine' P_execs_cons ?_
          refine' P_If ?_
          refine' P_any ?_
          walk_at "14"
          rename RC _ _ _ _ _ _ => r0
          have lq0 := bn3.lt q03
          have lq1 := bn3.lt q13
          refine' r_ne_nil r0 (k := 0) (OM.le (by decide)) ?e ?e2 ?_
          case e => walk_at "lk"
          case e2 => walk_at "lk"
          refine' RC.nameH (H1 := HT) r0 ?lle ?_
          case lle => walk_at "le"
          clear r0
          intro HX lX r0
          have L4 := L3.le lX
          have q04 := lX _ _ q03
          have q14 := lX _ _ q13
          have hit4 := lX _ _ hit3
          have t04 := fun v hv => (t03 v hv).keep L4.k
          have t14 := fun v hv => (t13 v hv).keep L4.k
          have L4 := L4.rebase
          have bn4 := r0.bnd
          have fsd := L4.sd
          have fmd := L4.md
          have fc := L4.c
          have fa := L4.aa
          have fn := L4.nn
          have frr := L4.rr
          walk_at "1"
          refine' split_if ?_ ?_
          · intro hemp
            have hlen : 0 < rows1.length := by
              cases hr : rows1 with
              | nil => rw [hr] at hemp; exact absurd hemp (by decide)
              | cons v r => exact Nat.succ_pos _
            refine' P_execs_consA ?_
            walk_at "12"
            refine' P_execs_consA ?_
            walk_at "22"
            rename RC _ _ _ _ _ _ => r0
            refine' take_ct G (by walk_at "om") (OM.le (by decide)) r0 L4.st (by walk_at "om") (by walk_at "om") ?_
            intro v5 t5 x5 h' n' tk' v50 v51 hn5 hs5 r1
            clear r0
            have L5 := L4.take ok hs5
            have q05 := L4.rows L5 ok (.inl rfl) q04
            have q15 := L4.rows L5 ok (.inr rfl) q14
            have hit5 := L4.rawk L5 hit4
            have t05 := fun v hv => (t04 v hv).keep L5.k
            have t15 := fun v hv => (t14 v hv).keep L5.k
            generalize HX.set a.st x5 = H5 at hs5 r1 L5 q05 q15 hit5 t05 t15
            have L5 := L5.rebase
            have bn5 := r1.bnd
            have fsd := L5.sd
            have fmd := L5.md
            have fc := L5.c
            have fa := L5.aa
            have fn := L5.nn
            have frr := L5.rr
            walk_at "1"
            have hj : ((-1 - v5) + (rows1.length : Int)).toNat < rows1.length := by walk_at "om"
            obtain ⟨rv, hrv⟩ : ∃ rv, rows1[((-1 - v5) + (rows1.length : Int)).toNat]? = some rv := ⟨_, List.getElem?_eq_getElem hj⟩
            refine' RowT.el (t15 rv (List.mem_of_getElem? hrv)) ?_
            intro ra pk hdr text off cnt num long u1' u2' u3' u4' u5' u6' erv hrow hspec
            subst erv
            rename RC _ _ _ _ _ _ => r0
            refine' r_item_neg r0 ?e (by walk_at "om") (by walk_at "om") (by walk_at "om") hrv ?_
            case e => walk_at "lk"
            walk_at "1"
            refine' P_execs_cons ?_
            refine' P_If ?_
            refine' P_isTrue_not ?_
            refine' P_isTrue_call ?_
            refine' P_Call_ofName ?_
            walk_at "1"
            refine' P_callK (K := (KK w.params)) ?hk ?_ ?he ?hp
            case he => exact rfl
            case hp => exact rfl
            case hk => k_is
            walk_at "12"
            rename RC _ _ _ _ _ _ => r0
            refine' taken0_ct G (by walk_at "om") (OM.le (by decide)) r0 (FrOk.mark0 (FrOk.deep F)) ok L5 (by walk_at "om") hsu (by walk_at "om") (by walk_at "om") (by walk_at "om") hrow hspec ?_
            intro c' a' H6 h' n' tk' t6 hc' hn6 L6 r1
            clear r0
            have qF0 := L5.rows L6 ok (.inl rfl) q05
            have qF1 := L5.rows L6 ok (.inr rfl) q15
            have hitF := L5.rawk L6 hit5
            have tF0 := fun v hv => (t05 v hv).keep L6.k
            have tF1 := fun v hv => (t15 v hv).keep L6.k
            have LF := L6.rebase
            have lF0 : rows0.length ≤ i + 1 := by walk_at "om"
            have lF1 : rows1.length ≤ i + 1 := by walk_at "om"
            have okF := ok
            walk_at "1"
            repeat (refine' P_any ?_; walk_at "1")
            rename RC _ _ _ _ _ _ => r0
            refine hTQ _ _ ⟨rfl, ?_⟩
            refine turn_next r0 (by walk_at "om") hitF (LInvE.mk ⟨okF, ms, msd, mm, by walk_at "om", by walk_at "om", by walk_at "om", by walk_at "om", LF.mono (by walk_at "om"), qF0, qF1, lF0, lF1, tF0, tF1⟩)
          · intro hemp
            have qF0 := q04
            have qF1 := q14
            have hitF := hit4
            have tF0 := t04
            have tF1 := t14
            have LF := L4
            have lF0 : rows0.length ≤ i + 1 := by walk_at "om"
            have lF1 : rows1.length ≤ i + 1 := by walk_at "om"
            have okF := ok
            repeat (refine' P_any ?_; walk_at "1")
            rename RC _ _ _ _ _ _ => r0
            refine hTQ _ _ ⟨rfl, ?_⟩
            refine turn_next r0 (by walk_at "om") hitF (LInvE.mk ⟨okF, ms, msd, mm, by walk_at "om", by walk_at "om", by walk_at "om", by walk_at "om", LF.mono (by walk_at "om"), qF0, qF1, lF0, lF1, tF0, tF1⟩)
    · walk_at "5"
      refine' split_if ?_ ?_
      ·
        intro hdeed
        refine' P_execs_cons ?_
        refine' P_Assign_Name ?_ ?hs
        case hs => exact rfl
        refine' P_Call_ofName ?_
        walk_at "1"
        refine' P_callK (K := (KK w.params)) ?hk ?_ ?he ?hp
        case he => exact rfl
        case hp => exact rfl
        case hk => k_is
        walk_at "10"
        rename RC _ _ _ _ _ _ => r0
        refine' sealed1_ct G (by walk_at "om") (OM.le (by decide)) r0 ok L3 (by walk_at "om") hsu (by walk_at "om") (by walk_at "om") (by walk_at "om") (by walk_at "om") ?_
        intro q H4 h' n' tk' ta tb hn4 L4 hrow r1
        clear r0
        have bn4 := r1.bnd
        have q04 := L3.rows L4 ok (.inl rfl) q03
        have q14 := L3.rows L4 ok (.inr rfl) q13
        have hit4 := L3.rawk L4 hit3
        have t04 := fun v hv => (t03 v hv).keep L4.k
        have t14 := fun v hv => (t13 v hv).keep L4.k
        have fsd := L4.sd
        have fmd := L4.md
        have fc := L4.c
        have fa := L4.aa
        have fn := L4.nn
        have frr := L4.rr
        have lq0 := bn4.lt q04
        have lq1 := bn4.lt q14
        have lrs := bn4.lt frr
        have lmd := bn4.lt fmd
        walk_at "1"
        refine' P_any ?_
        walk_at "32"
        rename RC _ _ _ _ _ _ => r0
        refine' LS.append r0 L4 ok bn4 (by walk_at "om") (by walk_at "om") q04 q14 (.inr ⟨rfl, rfl⟩) ?_
        intro a' H5 e1 e2 e3 okF LF q05 q15 k5 raw5 r1
        clear r0
        rw [← e1] at ms
        rw [← e2] at msd
        rw [← e3] at mm
        have hitF := raw5 _ _ hit4
        have qF0 : H5 a'.q0 = some (.lst rows0) := by rw [q05, (if_neg (by omega))]
        have qF1 : H5 a'.q1 = some (.lst (rows1 ++ [.ref q])) := by rw [q15, (if_neg (by omega))]
        have lF0 : (rows0 : List Value).length ≤ i + 1 := by first | (simp only [List.length_append, List.length_cons, List.length_nil]; walk_at "om") | walk_at "om"
        have lF1 : ((rows1 ++ [.ref q]) : List Value).length ≤ i + 1 := by first | (simp only [List.length_append, List.length_cons, List.length_nil]; walk_at "om") | walk_at "om"
        have tF0 : ∀ v ∈ (rows0 : List Value), RowT H5 suite version x v := by
          (exact fun v hv => (t04 v hv).keep k5)
        have tF1 : ∀ v ∈ ((rows1 ++ [.ref q]) : List Value), RowT H5 suite version y v := by
          (intro v hv; rcases List.mem_append.mp hv with hv | hv; exact (t14 v hv).keep k5; rw [List.mem_singleton.mp hv]; exact hrow.keep k5)
        have hco := Bool.toNat_le a0
        have hco1 := Bool.toNat_le a1
        repeat (refine' P_any ?_; walk_at "go")
        rename RC _ _ _ _ _ _ => r0
        refine hTQ _ _ ⟨rfl, ?_⟩
        refine turn_next r0 (by walk_at "om") hitF (LInvE.mk ⟨okF, ms, msd, mm, by walk_at "om", by walk_at "om", by walk_at "om", by walk_at "om", LF.mono (by walk_at "om"), qF0, qF1, lF0, lF1, tF0, tF1⟩)
      · intro hdeed
        refine' P_execs_cons ?_
        refine' P_If ?_
        refine' P_any ?_
        walk_at "5"
        refine' split_if ?_ ?_
        ·
          intro hdeed3
          refine' P_any ?_
          obtain ⟨pv, cr, cs', hne⟩ := id L3.s1
          refine' PairV.el pv ?_
          intro t0' pe1 pe2
          walk_at "9"
          rename RC _ _ _ _ _ _ => r0
          refine' update_key_ct G (by walk_at "om") (OM.le (by decide)) r0 pv ?_
          intro H4 h' n' tk' hn4 o4 pv4 r1
          clear r0
          obtain ⟨k4, sd4⟩ := L3.s1.ask o4 pv4
          have L4 := L3.side1 ok (o4.mono (by intro q hq; rw [List.mem_singleton.mp hq]; exact List.Mem.head _)) k4 sd4
          have bn4 := r1.bnd
          have fsd := L4.sd
          have fmd := L4.md
          have fc := L4.c
          have fa := L4.aa
          have fn := L4.nn
          have frr := L4.rr
          walk_at "10"
          rename RC _ _ _ _ _ _ => r0
          generalize hV3 : List.set [Value.bool a0, Value.bool a1] (Int.toNat 1) _ = V3 at r0
          have L5 := L4.seta ok (vl := V3)
          have qF0 := L3.rows L5 ok (.inl rfl) q03
          have qF1 := L3.rows L5 ok (.inr rfl) q13
          have hitF := L3.rawk L5 hit3
          have tF0 := fun v hv => (t03 v hv).keep L5.k
          have tF1 := fun v hv => (t13 v hv).keep L5.k
          subst hV3
          have LF := L5.rebase
          have lF0 : rows0.length ≤ i + 1 := by walk_at "om"
          have lF1 : rows1.length ≤ i + 1 := by walk_at "om"
          have okF := ok
          refine' P_any ?_
          walk_at "1"
          repeat (refine' P_any ?_; walk_at "go")
          rename RC _ _ _ _ _ _ => r0
          refine hTQ _ _ ⟨rfl, ?_⟩
          refine turn_next r0 (by walk_at "om") hitF (LInvE.mk ⟨okF, ms, msd, mm, by walk_at "om", by walk_at "om", by walk_at "om", by walk_at "om", LF.mono (by walk_at "om"), qF0, qF1, lF0, lF1, tF0, tF1⟩)
        ·
          intro hdeed3
          refine' P_execs_cons ?_
          refine' P_If ?_
          refine' P_any ?_
          walk_at "14"
          rename RC _ _ _ _ _ _ => r0
          have lq0 := bn3.lt q03
          have lq1 := bn3.lt q13
          refine' r_ne_nil r0 (k := 0) (OM.le (by decide)) ?e ?e2 ?_
          case e => walk_at "lk"
          case e2 => walk_at "lk"
          refine' RC.nameH (H1 := HT) r0 ?lle ?_
          case lle => walk_at "le"
          clear r0
          intro HX lX r0
          have L4 := L3.le lX
          have q04 := lX _ _ q03
          have q14 := lX _ _ q13
          have hit4 := lX _ _ hit3
          have t04 := fun v hv => (t03 v hv).keep L4.k
          have t14 := fun v hv => (t13 v hv).keep L4.k
          have L4 := L4.rebase
          have bn4 := r0.bnd
          have fsd := L4.sd
          have fmd := L4.md
          have fc := L4.c
          have fa := L4.aa
          have fn := L4.nn
          have frr := L4.rr
          walk_at "1"
          refine' split_if ?_ ?_
          · intro hemp
            have hlen : 0 < rows0.length := by
              cases hr : rows0 with
              | nil => rw [hr] at hemp; exact absurd hemp (by decide)
              | cons v r => exact Nat.succ_pos _
            refine' P_execs_consA ?_
            walk_at "12"
            refine' P_execs_consA ?_
            walk_at "22"
            rename RC _ _ _ _ _ _ => r0
            refine' take_ct G (by walk_at "om") (OM.le (by decide)) r0 L4.st (by walk_at "om") (by walk_at "om") ?_
            intro v5 t5 x5 h' n' tk' v50 v51 hn5 hs5 r1
            clear r0
            have L5 := L4.take ok hs5
            have q05 := L4.rows L5 ok (.inl rfl) q04
            have q15 := L4.rows L5 ok (.inr rfl) q14
            have hit5 := L4.rawk L5 hit4
            have t05 := fun v hv => (t04 v hv).keep L5.k
            have t15 := fun v hv => (t14 v hv).keep L5.k
            generalize HX.set a.st x5 = H5 at hs5 r1 L5 q05 q15 hit5 t05 t15
            have L5 := L5.rebase
            have bn5 := r1.bnd
            have fsd := L5.sd
            have fmd := L5.md
            have fc := L5.c
            have fa := L5.aa
            have fn := L5.nn
            have frr := L5.rr
            walk_at "1"
            have hj : ((-1 - v5) + (rows0.length : Int)).toNat < rows0.length := by walk_at "om"
            obtain ⟨rv, hrv⟩ : ∃ rv, rows0[((-1 - v5) + (rows0.length : Int)).toNat]? = some rv := ⟨_, List.getElem?_eq_getElem hj⟩
            refine' RowT.el (t05 rv (List.mem_of_getElem? hrv)) ?_
            intro ra pk hdr text off cnt num long u1' u2' u3' u4' u5' u6' erv hrow hspec
            subst erv
            rename RC _ _ _ _ _ _ => r0
            refine' r_item_neg r0 ?e (by walk_at "om") (by walk_at "om") (by walk_at "om") hrv ?_
            case e => walk_at "lk"
            walk_at "1"
            refine' P_execs_cons ?_
            refine' P_If ?_
            refine' P_isTrue_not ?_
            refine' P_isTrue_call ?_
            refine' P_Call_ofName ?_
            walk_at "1"
            refine' P_callK (K := (KK w.params)) ?hk ?_ ?he ?hp
            case he => exact rfl
            case hp => exact rfl
            case hk => k_is
            walk_at "12"
            rename RC _ _ _ _ _ _ => r0
            refine' taken1_ct G (by walk_at "om") (OM.le (by decide)) r0 (FrOk.mark0 (FrOk.deep F)) ok L5 (by walk_at "om") hsu (by walk_at "om") (by walk_at "om") (by walk_at "om") hrow hspec ?_
            intro c' a' H6 h' n' tk' t6 hc' hn6 L6 r1
            clear r0
            have qF0 := L5.rows L6 ok (.inl rfl) q05
            have qF1 := L5.rows L6 ok (.inr rfl) q15
            have hitF := L5.rawk L6 hit5
            have tF0 := fun v hv => (t05 v hv).keep L6.k
            have tF1 := fun v hv => (t15 v hv).keep L6.k
            have LF := L6.rebase
            have lF0 : rows0.length ≤ i + 1 := by walk_at "om"
            have lF1 : rows1.length ≤ i + 1 := by walk_at "om"
            have okF := ok
            walk_at "1"
            repeat (refine' P_any ?_; walk_at "1")
            rename RC _ _ _ _ _ _ => r0
            refine hTQ _ _ ⟨rfl, ?_⟩
            refine turn_next r0 (by walk_at "om") hitF (LInvE.mk ⟨okF, ms, msd, mm, by walk_at "om", by walk_at "om", by walk_at "om", by walk_at "om", LF.mono (by walk_at "om"), qF0, qF1, lF0, lF1, tF0, tF1⟩)
          · intro hemp
            have qF0 := q04
            have qF1 := q14
            have hitF := hit4
            have tF0 := t04
            have tF1 := t14
            have LF := L4
            have lF0 : rows0.length ≤ i + 1 := by walk_at "om"
            have lF1 : rows1.length ≤ i + 1 := by walk_at "om"
            have okF := ok
            repeat (refine' P_any ?_; walk_at "1")
            rename RC _ _ _ _ _ _ => r0
            refine hTQ _ _ ⟨rfl, ?_⟩
            refine turn_next r0 (by walk_at "om") hitF (LInvE.mk ⟨okF, ms, msd, mm, by walk_at "om", by walk_at "om", by walk_at "om", by walk_at "om", LF.mono (by walk_at "om"), qF0, qF1, lF0, lF1, tF0, tF1⟩)
  case fin =>
    rintro H' m' n' h' tk' hIE hn r1
    refine LInvE.el hIE ?_
    clear hIE
    rintro a c0 c1 n0 n1 a0 a1 tc tc' tn tn' rows0 rows1 ⟨ok, ms, msd, mm, b0, b1, k0, k1, L, q0, q1, l0, l1, t0, t1⟩
    clear r0 L0 L1 hq0 hq1 hq0' hq1' bn2 bn3 bn4 sd0 sd1 hst2 hs3 hsN
    have bnT := r1.bnd
    have fsd := L.sd
    have fmd := L.md
    have fc := L.c
    have fa := L.aa
    have fn := L.nn
    have frr := L.rr
    obtain ⟨pv, cr, cs', hne⟩ := id L.s0
    refine' PairV.el pv ?_
    intro t0' pe1 pe2
    dsimp only
    refine' P_execs_consA ?_
    walk_at "8"
    rename RC _ _ _ _ _ _ => r0
    refine' pair_tear_ct G (by walk_at "om") (O.deep (by decide)) r0 pv cr cs' hne ?_
    intro H5 h' n' tk' y1 y2 y3 y4 hn5 o5 k5 pv5 cv5 cw5 r1
    clear r0
    have j := ok.j
    have nj : ∀ q ∈ [a.pd', a.rcd', a.scd'], q ∉ [a.rcd, a.scd] := by
      intro q hq hm
      simp only [List.mem_cons, List.not_mem_nil, or_false] at hm
      rcases hm with e | e
      · rw [e] at hq; exact j a.rcd (by simp) hq
      · rw [e] at hq; exact j a.scd (by simp) hq
    have s1' := L.s1.keep o5 k5 (nj _ (by simp)) (nj _ (by simp)) (nj _ (by simp))
    have fsd5 : H5 a.sd = _ := o5 _ _ (by simp only [List.mem_cons, List.not_mem_nil, or_false, not_or]; obtain ⟨z1, z2, z3⟩ := L.s0.lst_ne fsd; exact ⟨Ne.symm z2, Ne.symm z3⟩) fsd
    refine' PairV.el pv5 ?_
    intro t5' pe5 pe6
    obtain ⟨pw, cr1, cs1, hne1⟩ := id s1'
    refine' PairV.el pw ?_
    intro t6' pe7 pe8
    obtain ⟨_, _, _, _, _, _, cv1, _⟩ := id cr1.ex
    walk_at "0"
    refine' P_execs_cons ?_
    refine' P_Try_except ?_
    refine' P_any ?_
    walk_at "23"
    rename RC _ _ _ _ _ _ => r0
    refine' pair_dec_una_ct G (by walk_at "om") (O.deep (by decide)) r0 F.deep pv5 cv5 rfl rfl rfl ?_
    intro e h' n' tk' hn6 fl
    refine' caught fl G ?ex ?q ?_
    case ex => k_is
    case q => kts_isx
    intro h'' r1
    clear r0
    obtain ⟨cva, cvb⟩ := id cv5
    obtain ⟨cwa, cwb⟩ := id cw5
    obtain ⟨cxa, cxb⟩ := id cv1
    have hroom : ∀ (env : Env) (v : Option Value), ((A.deeper env).mark v).depth < recursionLimit := fun env v => by
      have := O.dp
      show A.depth + 1 < 1000
      walk_at "om"
    have b1 : (!(Value.none == Value.none)) = false := rfl
    have b2 : ∀ q : Nat, (!(Value.ref q == Value.none)) = true := fun q => rfl
    walk_at "13"
    rename RC _ _ _ _ _ _ => r0
    refine' isvalid2_ct G (by walk_at "om") (hroom _ _) r0 cv5 rfl ?_
    intro h' n' tk' hn7 r1
    clear r0
    rw [b1]
    walk_at "3"
    rw [if_pos (show (!false) = true from rfl)]
    walk_at "11"
    rename RC _ _ _ _ _ _ => r0
    refine' isvalid2_ct G (by walk_at "om") (hroom _ _) r0 cw5 rfl ?_
    intro h' n' tk' hn8 r1
    clear r0
    rw [b1]
    walk_at "3"
    rw [if_pos (show (!false) = true from rfl)]
    walk_at "10"
    rename RC _ _ _ _ _ _ => r0
    refine' isvalid2_ct G (by walk_at "om") (hroom _ _) r0 cv1 rfl ?_
    intro h' n' tk' hn9 r1
    clear r0
    rw [b2]
    walk_at "0"
    rename RC _ _ _ _ _ _ => r0
    exact k _ _ _ (by walk_at "om") (r0.pop.weak (fun _ _ e => nomatch e))
end
theorem ok_start : Ok callerA 20 := ⟨rfl, by decide +kernel, by decide +kernel⟩
theorem w1 : PySem.Challenge.rw_ja0003_01.Holds := hd1 (by
  delta Mine.HK
  k_fill
  intro w s₀ s₁ mg mb G Y fa o pm cd doc dV kV ho hd hcd hD hmg hg args vals as hpre hlay hrd hwl hlo
  have KX := kIn_of Y
  have GG : Mine.Gd _ s₁.heap := ⟨KX, ⟨_, _, _, _, topRead_of G.T⟩⟩
  have ef : nsIn (Mine.KK w.params) mainGlobals "law" = some (some (.ref 445)) := by k_is
  have em := mg_of KX (topRead_of G.T).g ef
  obtain rfl : fa = 445 := by
    have := hmg.symm.trans em
    injection this with this
    injection this
  clear hd hD ho hcd hmg
  wrow_args hpre hlay hrd hwl hlo
  rename IntsAre _ _ => hints
  rename Heap.IsList _ _ _ => hlst
  rename ¬ _ => hlen
  obtain ⟨h, g, d, tk, os⟩ := s₁
  refine Mine.P_mono (Mine.law_ct (E := fun _ _ => False) (Q := fun v s' => ∃ h' n' tk', v = .bool true ∧ s' = ⟨h', g, d, tk', os⟩ ∧ Mine.RC w.params h [] (fun _ => none) n' h') GG (Nat.le_refl _) Mine.ok_start (Mine.RC.start h) Mine.FrOk.caller hlst hints (by omega) ?_) ?_ (fun _ _ x => x.elim)
  · intro h' n' tk' _ R
    exact ⟨h', n', tk', rfl, rfl, R⟩
  · rintro v s' ⟨h', n', tk', rfl, rfl, R⟩
    refine GoodW.toG ⟨.inl ⟨.bool true, .bool true, [], rfl, fun _ => rfl, .bool true, ?_, fun _ => ⟨List.nodup_nil, fun _ h => nomatch h⟩⟩, R.ext, rfl, hg⟩
    first
    | kernel_rfl
    | (show (WShape.has _ _ _ && WTm.holds _ _ _) = true; simp [WTm.holds, WTm.value, WShape.has]))
end Mine
theorem PySem.Challenge.cw_ja0003_01_holds : PySem.Challenge.rw_ja0003_01.Holds := by
  exact Mine.w1
