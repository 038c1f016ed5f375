import PyProof.Rows.All
import Wide.All
import OpenK.AllK
import Wide.FinOn
import Lean
import PySem.Challenge.RW_ja0003_02
open PySem PySem.W PyProof.Rows PySem.Calls PySem.Spec
set_option Elab.async false
set_option maxRecDepth 100000
set_option maxHeartbeats 0
set_option linter.unusedVariables false
set_option linter.unusedSimpArgs false
namespace Mine
set_option genSizeOf false
local macro_rules | `(tactic| walk_at $s:str) => `(tactic| first | k_extra $s | fail "none")
theorem words_all : True := by
  k_with "nle" => (first | (first | with_reducible assumption | with_reducible exact Nat.le_refl _ | ((fail_if_success (with_reducible show _ ≤ (OfNat.ofNat _ : Nat))); (fail_if_success (with_reducible show _ ≤ (_ ^ _ : Nat))); first | ((with_reducible refine' Nat.le_succ_of_le ?_); k_extra "nle") | (focus ((with_reducible refine' nle_tr ?_ ?_); rotate_right 2; rotate_left; (case _ => with_reducible assumption); k_extra "nle")) | with_reducible exact Nat.le_of_lt (by assumption))) | fail "none")
  k_with "nlt" => (first | (first | with_reducible assumption | ((fail_if_success (with_reducible show _ < (OfNat.ofNat _ : Nat))); (fail_if_success (with_reducible show _ < (_ ^ _ : Nat))); first | ((with_reducible refine' Nat.lt_succ_of_le ?_); k_extra "nle") | (focus ((with_reducible refine' nlt_le ?_ ?_); rotate_right 2; (case _ => with_reducible assumption); k_extra "nle")))) | fail "none")
  k_with "om" => (first | (first | ((with_reducible show @LE.le Nat instLENat _ _); (fail_if_success (with_reducible show _ ≤ (918273645 : Nat))); (fail_if_success (with_reducible show (918273645 : Nat) ≤ _)); k_extra "nle") | ((with_reducible show @LT.lt Nat instLTNat _ _); (fail_if_success (with_reducible show _ < (918273645 : Nat))); (fail_if_success (with_reducible show (918273645 : Nat) < _)); k_extra "nlt") | ((with_reducible show (_ : Nat) ≠ _); (fail_if_success (with_reducible show _ ≠ (918273645 : Nat))); (fail_if_success (with_reducible show (918273645 : Nat) ≠ _)); (first | with_reducible assumption | (apply Nat.ne_of_lt; k_extra "nlt") | (apply Nat.ne_of_gt; k_extra "nlt"))) | ((fail_if_success (fail_if_success omega)); first | with_reducible assumption | lia | omega)) | fail "none")
  k_with "asm" => (first | (with_reducible assumption) | fail "none")
  k_with "ok" => (first | (first | with_reducible assumption | exact Ok.le (by with_reducible assumption) (by decide) | exact Ok.deep (by with_reducible assumption) (by decide)) | fail "none")
  k_with "ne" => (first | (first | with_reducible assumption | k_extra "om" | (apply Ne.symm; with_reducible assumption)) | fail "none")
  k_with "lk" => (first | (first | with_reducible assumption | with_reducible exact PH.set_self _ _ _ | ((focus ((with_reducible refine' PH.set_at ?_ ?_); rotate_right 2; (case _ => k_extra "ne"))); k_extra "lk") | ((focus ((with_reducible refine' Only.at ?_ ?_ ?_); rotate_right 3; (case _ => with_reducible assumption); (case _ => k_extra "nin"))); k_extra "lk")) | fail "none")
  k_with "le" => (first | (first | exact PH.le_refl _ | with_reducible assumption | ((focus ((refine' PH.le_set _ _ ?_); rotate_right 1; (case _ => k_extra "le")))) | ((focus ((with_reducible refine' PH.le_new ?_ ?_); rotate_right 2; rotate_left 1; (case _ => exact RC.none_new (by with_reducible assumption) (by first | k_extra "om" | fail "none")); rotate_right 1; (case _ => k_extra "le"))))) | fail "none")
  k_with "nimm" => (first | (first | exact nimm_ctx | exact nimm_lst | exact nimm_pair | exact nimm_ba | exact nimm_raw | exact nimm_nil | exact nimm_prp) | fail "none")
  k_with "keepi" => (first | (first | exact KeepI.refl _ | with_reducible assumption | ((focus ((with_reducible refine' KeepI.set ?_ ?_ ?_); rotate_right 3; rotate_left 1; (case _ => k_extra "lk"); rotate_right 1; rotate_left 1; (case _ => k_extra "nimm"); rotate_right 1; (case _ => k_extra "keepi")))) | ((focus ((with_reducible refine' KeepI.new ?_ ?_); rotate_right 2; rotate_left 1; (case _ => exact RC.none_new (by with_reducible assumption) (by first | k_extra "om" | fail "none")); rotate_right 1; (case _ => k_extra "keepi")))) | ((focus ((with_reducible refine' KeepI.le ?_ ?_); rotate_right 2; rotate_left 1; (case _ => with_reducible assumption); rotate_right 1; (case _ => k_extra "keepi"))))) | fail "none")
  k_with "only" => (first | (first | exact Only.refl _ _ | with_reducible assumption | ((focus ((with_reducible refine' Only.set _ ?_ ?_); rotate_right 2; rotate_left 1; (case _ => simp; done); rotate_right 1; (case _ => k_extra "only")))) | ((focus ((with_reducible refine' Only.new _ ?_ ?_); rotate_right 2; rotate_left 1; (case _ => exact RC.none_new (by with_reducible assumption) (by first | k_extra "om" | fail "none")); rotate_right 1; (case _ => k_extra "only")))) | ((focus ((with_reducible refine' Only.le _ ?_ ?_); rotate_right 2; rotate_left 1; (case _ => with_reducible assumption); rotate_right 1; (case _ => k_extra "only"))))) | fail "none")
  k_with "nin" => (first | ((simp only [List.mem_cons, List.not_mem_nil, or_false, not_or]; (try refine ⟨?_, ?_⟩) <;> (try refine ⟨?_, ?_⟩) <;> (try refine ⟨?_, ?_⟩) <;> k_extra "ne")) | fail "none")
  k_with "sz" => (first | (first | decide | k_extra "om" | exact u8lt _ | (simp only [Int.reduceToNat, Nat.reducePow, Int.toNat_natCast]; k_extra "om") | (simp only [List.length_append, List.length_cons, List.length_nil, List.length_replicate, List.length_take, List.length_drop, List.length_set, List.length_map, toBE_length] at *; k_extra "om") | (simp; done)) | fail "none")
  k_with "eval Name" => (first | (k_dflt (first | (focus ((with_reducible refine' r_glob ?_ ?_ ?_ ?_ ?_ ?_ ?_); rotate_right 7; (case _ => k_extra "asm"); (case _ => k_extra "asm"); (case _ => k_is); rotate_left; (case _ => kernel_rfl); (case _ => kernel_rfl); (case _ => kernel_rfl))) | (focus ((with_reducible refine' r_local ?_ ?_ ?_ ?_ ?_ ?_); rotate_right 6; (case _ => k_extra "asm"); (case _ => first | exact rfl | with_reducible assumption); rotate_left; (case _ => kernel_rfl); (case _ => kernel_rfl); (case _ => kernel_rfl))) | (focus ((with_reducible refine' r_built ?_ ?_ ?_ ?_ ?_ ?_ ?_ ?_ ?_); rotate_right 9; (case _ => k_extra "asm"); (case _ => k_extra "asm"); (case _ => k_is); (case _ => first | with_reducible exact boot_ba | boot_fast); rotate_left; (case _ => decide); (case _ => kernel_rfl); (case _ => kernel_rfl); (case _ => kernel_rfl))) | (focus ((with_reducible refine' r_local ?_ ?_ ?_ ?_ ?_ ?_); rotate_right 6; rotate_left 4; (case _ => exact rfl); rotate_right 4; (case _ => k_extra "asm"); (case _ => assumption); rotate_left; (case _ => kernel_rfl); (case _ => kernel_rfl))))) | fail "none")
  k_with "eval Constant int" => (first | (((with_reducible refine' r_int ?_); intro zia zib)) | fail "none")
  k_with "eval Constant str" => (first | (((with_reducible refine' r_str ?_); intro zia zib)) | fail "none")
  k_with "eval Constant bytes" => (first | (((with_reducible refine' r_bytes ?_); intro zia zib)) | fail "none")
  k_with "eval BinOp" => (first | ((with_reducible refine' wpAny_BinOp ?_)) | fail "none")
  k_with "eval Subscript" => (first | ((with_reducible refine' PyProof.Rows.Subscript_ ?_)) | fail "none")
  k_with "eval Attribute" => (first | (k_dflt ((focus ((with_reducible refine' PyProof.Rows.Attribute_any_ ?_ ?_); rotate_right 2; rotate_left 1; (case _ => exact rfl); rotate_right 1)))) | fail "none")
  k_with "eval Call" => (first | (k_dflt (first | (with_reducible refine' r_call0 ?_) | ((focus ((with_reducible refine' r_mcall0 ?_ ?_); rotate_right 2; rotate_left 1; (case _ => exact rfl); rotate_right 1))) | ((focus ((with_reducible refine' methodCall_KW ?_ ?_); rotate_right 2; rotate_left 1; (case _ => exact rfl); rotate_right 1))) | (with_reducible refine' wpAny_Call_ofName ?_))) | fail "none")
  k_with "eval Call Attribute" => (first | (k_dflt (first | ((focus ((with_reducible refine' r_mcall0 ?_ ?_); rotate_right 2; rotate_left 1; (case _ => exact rfl); rotate_right 1))) | ((focus ((with_reducible refine' methodCall_KW ?_ ?_); rotate_right 2; rotate_left 1; (case _ => exact rfl); rotate_right 1))))) | fail "none")
  k_with "eval Compare" => (first | (k_dflt ((focus ((with_reducible refine' wpAny_Compare1 ?_ ?_); rotate_right 2; rotate_left 1; (case _ => exact rfl); rotate_right 1)))) | fail "none")
  k_with "isTrue Compare" => (first | (k_dflt ((focus ((with_reducible refine' wpAny_isTrue_Compare1 ?_ ?_); rotate_right 2; rotate_left 1; (case _ => exact rfl); rotate_right 1)))) | fail "none")
  k_with "exec Assign" => (first | ((k_dflt (first | ((focus ((with_reducible refine' wpAny_Assign_Name ?_ ?_); rotate_right 2; rotate_left 1; (case _ => exact rfl); rotate_right 1))) | ((focus ((with_reducible refine' wpAny_Assign_Subscript ?_ ?_); rotate_right 2; rotate_left 1; (case _ => exact rfl); rotate_right 1))) | ((focus ((with_reducible refine' plainObj_wpAny_Assign_Attribute ?_ ?_); rotate_right 2; rotate_left 1; (case _ => exact rfl); rotate_right 1))) | ((focus ((with_reducible refine' Assign_Tuple ?_ ?_ ?_); rotate_right 3; rotate_left 1; (case _ => exact rfl); rotate_right 1; rotate_left 1; (case _ => exact rfl); rotate_right 1)))))) | fail "none")
  k_with "exec If" => (first | ((with_reducible refine' wpAny_If ?_)) | fail "none")
  k_with "exec Expr" => (first | ((with_reducible refine' wpAny_Expr_any ?_)) | fail "none")
  k_with "exec Assert" => (first | ((with_reducible refine' wpAny_Assert_holds ?_)) | fail "none")
  k_with "binaryOp Add int int" => (first | (((with_reducible refine' r_add ?_); intro zia zib)) | fail "none")
  k_with "binaryOp Sub int int" => (first | (((with_reducible refine' r_sub ?_); intro zia zib)) | fail "none")
  k_with "binaryOp Mod int int" => (first | (k_dflt (((focus ((with_reducible refine' r_modp ?_ ?_); rotate_right 2; (case _ => k_extra "sz")))); intro zia zib zic zid)) | fail "none")
  k_with "binaryOp Mult int int" => (first | (k_dflt (((focus ((with_reducible refine' r_mul ?_ ?_ ?_); rotate_right 3; (case _ => k_extra "sz"); (case _ => k_extra "sz")))); intro zia zib)) | fail "none")
  k_with "binaryOp FloorDiv int int" => (first | (k_dflt (((focus ((with_reducible refine' r_fdiv ?_ ?_ ?_); rotate_right 3; (case _ => k_extra "sz"); (case _ => k_extra "sz")))); intro zia zib)) | fail "none")
  k_with "binaryOp Add bytes bytes" => (first | (k_dflt (((focus ((with_reducible refine' r_badd ?_ ?_); rotate_right 2; (case _ => k_extra "sz")))); intro zia zib)) | fail "none")
  k_with "compareOp Lt int int" => (first | ((with_reducible refine' r_lt ?_)) | fail "none")
  k_with "compareOp Eq bytes bytes" => (first | ((with_reducible refine' r_beq ?_)) | fail "none")
  k_with "compareOp NotEq bytes bytes" => (first | ((with_reducible refine' r_bne ?_)) | fail "none")
  k_with "storeName" => (first | (k_dflt ((rename RC _ _ _ _ _ _ => zr0); ((focus ((with_reducible refine' r_store zr0 ?_ ?_ ?_); rotate_right 3; rotate_left 1; (case _ => kernel_rfl); (case _ => kernel_rfl)))); intro zia zib zr1; clear zr0)) | fail "none")
  k_with "setAttr ref" => (first | (k_dflt ((rename RC _ _ _ _ _ _ => zr0); ((focus ((with_reducible refine' r_setattr2 ?_ zr0 ?_ ?_ ?_ ?_ ?_ ?_ ?_ ?_ ?_ ?_); rotate_right 11; (case _ => exact rfl); (case _ => k_extra "asm"); (case _ => k_extra "lk"); (case _ => k_extra "lk"); (case _ => k_extra "setf"); (case _ => k_is); (case _ => k_is); (case _ => k_is); (case _ => k_is); (case _ => exact Nat.le_of_ble_eq_true rfl)))); intro zia zib zr1; clear zr0)) | fail "none")
  k_with "setf" => (first | (first | exact setF_nil | exact setF_hit (by decide) | exact setF_miss (by decide) (by first | k_extra "setf" | fail "none")) | fail "none")
  k_with "getAttr ref" => (first | (k_dflt (first | (((focus ((with_reducible refine' r_attr ?_ ?_ ?_ ?_ ?_ ?_ ?_ ?_ ?_ ?_ ?_); rotate_right 11; (case _ => k_extra "asm"); (case _ => k_extra "asm"); (case _ => k_extra "lk"); (case _ => k_extra "lk"); (case _ => k_is); (case _ => k_is); (case _ => k_is); (case _ => k_is); (case _ => exact rfl); (case _ => first | exact rfl | with_reducible assumption)))); intro zia) | (((focus ((with_reducible refine' r_clsattr ?_ ?_ ?_ ?_ ?_ ?_ ?_); rotate_right 7; (case _ => k_extra "asm"); (case _ => k_extra "asm"); (case _ => k_is); (case _ => k_is); (case _ => k_is); (case _ => k_handed)))); intro zia))) | fail "none")
  k_with "getMethod ref" => (first | (k_dflt (first | ((focus ((with_reducible refine' r_meth ?_ ?_ ?_ ?_ ?_ ?_ ?_ ?_ ?_); rotate_right 9; (case _ => k_extra "asm"); (case _ => k_extra "asm"); (case _ => k_extra "lk"); (case _ => k_extra "lk"); (case _ => k_is); (case _ => k_is); (case _ => k_is); (case _ => kernel_rfl)))) | (((focus ((with_reducible refine' r_methOwn ?_ ?_ ?_ ?_ ?_ ?_ ?_ ?_ ?_ ?_); rotate_right 10; (case _ => k_extra "asm"); (case _ => k_extra "asm"); (case _ => k_extra "lk"); (case _ => k_extra "lk"); (case _ => k_is); (case _ => k_is); (case _ => k_is); (case _ => exact rfl); (case _ => exact rfl)))); intro zia))) | fail "none")
  k_with "subscriptTail" => (first | (k_dflt (first | (((focus ((with_reducible refine' r_bitem ?_ ?_ ?_ ?_ ?_); rotate_right 5; rotate_left 4; (case _ => with_unfolding_all exact rfl); rotate_right 4; (case _ => k_extra "sz"); (case _ => k_extra "sz"); (case _ => k_extra "sz")))); intro zia zib) | (((focus ((with_reducible refine' r_item_ints ?_ ?_ ?_ ?_ ?_ ?_ ?_ ?_); rotate_right 8; (case _ => k_extra "asm"); (case _ => k_extra "lk"); (case _ => with_reducible assumption); rotate_left 4; (case _ => with_unfolding_all exact rfl); rotate_right 4; (case _ => k_extra "sz"); (case _ => k_extra "sz"); (case _ => k_extra "sz")))); intro zia) | ((focus ((with_reducible refine' r_item_list ?_ ?_ ?_ ?_ ?_ ?_ ?_); rotate_right 7; (case _ => k_extra "asm"); (case _ => k_extra "lk"); rotate_left 4; (case _ => with_unfolding_all exact rfl); rotate_right 4; (case _ => first | decide | k_extra "om"); (case _ => first | decide | k_extra "om"); (case _ => first | exact rfl | with_reducible assumption)))) | (((focus ((with_reducible refine' r_item_sd ?_ ?_ ?_ ?_ ?_); rotate_right 5; (case _ => k_extra "asm"); (case _ => k_extra "lk"); rotate_left 2; (case _ => with_unfolding_all exact rfl); rotate_right 2; (case _ => exact rfl)))); intro zia) | (((focus ((with_reducible refine' r_item_idH0 ?_ ?_ ?_ ?_ ?_); rotate_right 5; (case _ => k_extra "asm"); (case _ => with_reducible assumption); rotate_left 2; (case _ => with_unfolding_all exact rfl); rotate_right 2; (case _ => first | with_reducible assumption | exact rfl)))); intro zia) | (((focus ((with_reducible refine' r_baitem ?_ ?_ ?_ ?_ ?_ ?_ ?_); rotate_right 7; (case _ => k_extra "asm"); (case _ => k_extra "lk"); rotate_left 4; (case _ => with_unfolding_all exact rfl); rotate_right 4; (case _ => k_extra "sz"); (case _ => k_extra "sz"); (case _ => k_extra "sz")))); intro zia zib) | ((rename RC _ _ _ _ _ _ => zr0); ((focus ((with_reducible refine' r_bslice_hi zr0 ?_ ?_ ?_ ?_ ?_); rotate_right 5; rotate_left 3; (case _ => intro zia; with_unfolding_all exact rfl); rotate_right 3; rotate_left 3; (case _ => intro zia; with_unfolding_all exact rfl); rotate_right 3; (case _ => k_extra "sz"); (case _ => k_extra "sz")))); intro zia zib zic zr1; clear zr0) | ((rename RC _ _ _ _ _ _ => zr0); ((focus ((with_reducible refine' r_bslice_lo zr0 ?_ ?_ ?_ ?_ ?_); rotate_right 5; rotate_left 3; (case _ => intro zia; with_unfolding_all exact rfl); rotate_right 3; rotate_left 3; (case _ => intro zia; with_unfolding_all exact rfl); rotate_right 3; (case _ => k_extra "sz"); (case _ => k_extra "sz")))); intro zia zib zic zr1; clear zr0) | ((rename RC _ _ _ _ _ _ => zr0); ((focus ((with_reducible refine' r_bslice_both zr0 ?_ ?_ ?_ ?_ ?_ ?_); rotate_right 6; rotate_left 4; (case _ => intro zia; with_unfolding_all exact rfl); rotate_right 4; rotate_left 4; (case _ => intro zia; with_unfolding_all exact rfl); rotate_right 4; (case _ => k_extra "sz"); (case _ => k_extra "sz"); (case _ => k_extra "sz")))); intro zia zib zic zr1; clear zr0) | ((rename RC _ _ _ _ _ _ => zr0); ((focus ((with_reducible refine' r_baslice_hi zr0 ?_ ?_ ?_ ?_ ?_ ?_); rotate_right 6; rotate_left 5; (case _ => intro zia; with_unfolding_all exact rfl); rotate_right 5; (case _ => k_extra "sz"); (case _ => k_extra "lk"); rotate_left 1; (case _ => k_extra "sz"); rotate_right 1; (case _ => k_extra "sz")))); intro zia zib zic zid zr1; clear zr0) | ((rename RC _ _ _ _ _ _ => zr0); ((focus ((with_reducible refine' r_lslice zr0 ?_ ?_ ?_ ?_ ?_ ?_); rotate_right 6; rotate_left 5; (case _ => intro zia; with_unfolding_all exact rfl); rotate_right 5; (case _ => k_extra "sz"); (case _ => k_extra "isl"); rotate_left 1; (case _ => k_extra "sz"); rotate_right 1; (case _ => k_extra "sz")))); intro zia zib zic zr1; clear zr0))) | fail "none")
  k_with "isl" => (first | (first | with_reducible assumption | exact Heap.IsList.push (by with_reducible assumption) _ | exact RC.list (by with_reducible assumption) (by first | k_extra "lk" | fail "none")) | fail "none")
  k_with "setItem ref int" => (first | (k_dflt (first | ((rename RC _ _ _ _ _ _ => zr0); ((focus ((with_reducible refine' r_baset8 zr0 ?_ ?_ ?_ ?_ ?_); rotate_right 5; (case _ => k_extra "lk"); (case _ => k_extra "sz"); (case _ => k_extra "sz"); (case _ => k_extra "sz")))); intro zia zr1; clear zr0) | ((rename RC _ _ _ _ _ _ => zr0); ((focus ((with_reducible refine' r_basetitem zr0 ?_ ?_ ?_ ?_ ?_ ?_ ?_); rotate_right 7; (case _ => k_extra "lk"); (case _ => k_extra "sz"); (case _ => k_extra "sz"); (case _ => k_extra "sz"); (case _ => k_extra "sz"); (case _ => k_extra "sz")))); intro zia zr1; clear zr0) | ((rename RC _ _ _ _ _ _ => zr0); ((focus ((with_reducible refine' r_setitem zr0 ?_ ?_ ?_ ?_ ?_); rotate_right 5; (case _ => k_extra "lk"); (case _ => k_extra "sz"); (case _ => k_extra "sz"); (case _ => k_extra "sz")))); intro zia zr1; clear zr0))) | fail "none")
  k_with "getItem ref int" => (first | (k_dflt (((focus ((with_reducible refine' r_bagetitem ?_ ?_ ?_ ?_ ?_ ?_); rotate_right 6; (case _ => k_extra "asm"); (case _ => k_extra "lk"); (case _ => k_extra "sz"); (case _ => k_extra "sz"); (case _ => k_extra "sz")))); intro zia zib)) | fail "none")
  k_with "callWith" => (first | (k_dflt (first | ((focus ((with_reducible refine' PyProof.Rows.callWith_builtin1 ?_ ?_ ?_); rotate_right 3; rotate_left 1; (case _ => exact rfl); rotate_right 1; rotate_left 1; (case _ => exact rfl); rotate_right 1))) | ((focus ((with_reducible refine' PyProof.Rows.callWith_method1 ?_ ?_ ?_); rotate_right 3; rotate_left 1; (case _ => exact rfl); rotate_right 1; rotate_left 1; (case _ => exact rfl); rotate_right 1))) | ((focus ((with_reducible refine' PyProof.Rows.callWith_type1 ?_ ?_ ?_); rotate_right 3; rotate_left 1; (case _ => exact rfl); rotate_right 1; rotate_left 1; (case _ => exact rfl); rotate_right 1))) | (with_reducible refine' PyProof.Rows.callWith_method0 ?_))) | fail "none")
  k_with "callWith ref" => (first | (k_dflt (first | ((focus ((with_reducible refine' r_callK ?_ ?_ ?_ ?_ ?_); rotate_right 5; rotate_left 3; (case _ => exact rfl); rotate_right 3; rotate_left 3; (case _ => exact rfl); rotate_right 3; (case _ => k_extra "asm"); (case _ => k_is)))) | ((focus ((with_reducible refine' r_callK0 ?_ ?_ ?_ ?_); rotate_right 4; (case _ => k_extra "asm"); (case _ => k_extra "asm"); (case _ => k_is)))) | ((focus ((with_reducible refine' r_callKW ?_ ?_ ?_ ?_ ?_ ?_); rotate_right 6; rotate_left 5; (case _ => exact rfl); rotate_right 5; rotate_left 4; (case _ => exact rfl); rotate_right 4; rotate_left 2; (case _ => exact rfl); rotate_right 2; (case _ => k_extra "asm"); (case _ => k_is)))) | ((focus ((with_reducible refine' r_callKW0 ?_ ?_ ?_ ?_ ?_); rotate_right 5; rotate_left 4; (case _ => exact rfl); rotate_right 4; rotate_left 2; (case _ => exact rfl); rotate_right 2; (case _ => k_extra "asm"); (case _ => k_is)))))) | fail "none")
  k_with "spliced" => (first | (k_dflt (first | ((focus ((with_reducible refine' spliced_more ?_ ?_); rotate_right 2; rotate_left 1; (case _ => exact rfl); rotate_right 1))) | (with_reducible refine' spliced_none ?_))) | fail "none")
  k_with "And" => (first | (k_dflt ((with_reducible show Frag.In _ _ ∧ _); (refine' ⟨?_, ?_⟩; (exact Gd.at (by with_reducible assumption) (by with_reducible assumption))))) | fail "none")
  k_with "call builtin:len" => (first | (k_dflt (first | (((focus ((with_reducible refine' r_len_list ?_ ?_ ?_ ?_); rotate_right 4; (case _ => k_extra "asm"); (case _ => k_extra "lk"); (case _ => k_extra "sz")))); intro zia zib) | (((focus ((with_reducible refine' r_blen ?_ ?_); rotate_right 2; (case _ => k_extra "sz")))); intro zia zib))) | fail "none")
  k_with "eval Constant none" => (first | ((with_reducible refine' r_none ?_)) | fail "none")
  k_with "eval Constant bool" => (first | ((with_reducible refine' r_bool ?_)) | fail "none")
  k_with "eval UnaryOp" => (first | ((with_reducible refine' UnaryOp_ ?_)) | fail "none")
  k_with "eval IfExp" => (first | ((with_reducible refine' IfExp_ ?_)) | fail "none")
  k_with "eval Tuple" => (first | ((with_reducible refine' Tuple_ ?_)) | fail "none")
  k_with "eval List" => (first | ((with_reducible refine' List_ ?_)) | fail "none")
  k_with "eval Slice" => (first | ((with_reducible refine' wpAny_Slice ?_)) | fail "none")
  k_with "evalPart none" => (first | ((with_reducible refine' evalPart_none_step ?_)) | fail "none")
  k_with "evalPart some" => (first | ((with_reducible refine' evalPart_some_step ?_)) | fail "none")
  k_with "unaryOp Invert int" => (first | (((with_reducible refine' r_inv ?_); intro zia zib)) | fail "none")
  k_with "unaryOp USub int" => (first | (((with_reducible refine' r_neg ?_); intro zia zib)) | fail "none")
  k_with "unaryOp Not" => (first | ((with_reducible refine' not_of ?_)) | fail "none")
  k_with "truthy int" => (first | ((with_reducible refine' r_truthy_int ?_)) | fail "none")
  k_with "truthy bool" => (first | ((with_reducible refine' wpAny_truthy_bool ?_)) | fail "none")
  k_with "truthy ref" => (first | (k_dflt (((focus ((with_reducible refine' r_truthy_list ?_ ?_ ?_ ?_); rotate_right 4; (case _ => k_extra "asm"); (case _ => k_extra "lk"); (case _ => k_extra "sz")))); intro zia)) | fail "none")
  k_with "binaryOp BitAnd int int" => (first | ((first | (with_reducible refine' r_and15 ?_) | (with_reducible refine' r_and31 ?_) | (with_reducible refine' r_and3 ?_) | (with_reducible refine' r_and ?_)); intro zia zib) | fail "none")
  k_with "binaryOp BitOr int int" => (first | ((first | (with_reducible refine' r_or8 ?_) | (with_reducible refine' r_or ?_)); intro zia zib) | fail "none")
  k_with "binaryOp BitXor int int" => (first | ((first | (with_reducible refine' r_xor8 ?_) | (with_reducible refine' r_xor ?_)); intro zia zib) | fail "none")
  k_with "inplaceOp BitXor int int" => (first | ((first | (with_reducible refine' r_ixor8 ?_) | (with_reducible refine' r_ixor ?_)); intro zia zib) | fail "none")
  k_with "binaryOp LShift int int" => (first | (k_dflt (((focus ((with_reducible refine' r_shl ?_ ?_ ?_ ?_); rotate_right 4; (case _ => k_extra "sz"); (case _ => k_extra "sz"); (case _ => k_extra "sz")))); intro zia zib)) | fail "none")
  k_with "binaryOp Pow int int" => (first | (k_dflt (((focus ((with_reducible refine' r_pow ?_ ?_ ?_ ?_); rotate_right 4; (case _ => k_extra "sz"); (case _ => k_extra "sz"); (case _ => decide)))); intro zia zib)) | fail "none")
  k_with "compareOp Eq int int" => (first | ((with_reducible refine' r_eqi ?_)) | fail "none")
  k_with "compareOp NotEq int int" => (first | ((with_reducible refine' r_nei ?_)) | fail "none")
  k_with "compareOp Gt int int" => (first | ((with_reducible refine' r_gt ?_)) | fail "none")
  k_with "compareOp LtE int int" => (first | ((with_reducible refine' r_le ?_)) | fail "none")
  k_with "compareOp GtE int int" => (first | ((with_reducible refine' r_ge ?_)) | fail "none")
  k_with "compareOp Eq str str" => (first | (k_dflt (first | ((focus ((with_reducible refine' r_eqs (b := true) ?_ ?_); rotate_right 2; (case _ => decide)))) | ((focus ((with_reducible refine' r_eqs (b := false) ?_ ?_); rotate_right 2; (case _ => decide)))))) | fail "none")
  k_with "compareOp Is" => (first | (k_dflt (with_reducible refine' PySem.is_none ?_)) | fail "none")
  k_with "compareOp IsNot" => (first | (k_dflt (with_reducible refine' PySem.isNot_none ?_)) | fail "none")
  k_with "compareOp In" => (first | (k_dflt (first | ((focus ((with_reducible refine' r_in_btup ?_ ?_ ?_ ?_); rotate_right 4; (case _ => k_extra "asm"); (case _ => k_extra "lk"); (case _ => k_extra "bytesare")))) | ((focus ((with_reducible refine' r_in_ints ?_ ?_ ?_ ?_); rotate_right 4; (case _ => k_extra "asm"); (case _ => k_extra "lk"); (case _ => k_extra "intsare")))))) | fail "none")
  k_with "compareOp NotIn" => (first | (k_dflt ( ((focus ((with_reducible refine' r_notin_btup ?_ ?_ ?_ ?_); rotate_right 4; (case _ => k_extra "asm"); (case _ => k_extra "lk"); (case _ => k_extra "bytesare")))))) | fail "none")
  k_with "bytesare" => (first | (first | exact BytesAre.nil | exact BytesAre.cons _ _ (by first | k_extra "bytesare" | fail "none")) | fail "none")
  k_with "intsare" => (first | (first | with_reducible assumption | exact IntsAre.nil | exact IntsAre.cons _ _ (by first | k_extra "intsare" | fail "none")) | fail "none")
  k_with "call type:bool" => (first | (k_dflt (with_reducible refine' r_boolint ?_)) | fail "none")
  k_with "call type:int" => (first | (k_dflt (first | ((with_reducible refine' r_intbool ?_); intro zia zib) | (with_reducible refine' r_intint ?_))) | fail "none")
  k_with "call type:bytes" => (first | (k_dflt (first | (((focus ((with_reducible refine' r_bytes_zero ?_ ?_ ?_); rotate_right 3; (case _ => k_extra "sz"); (case _ => k_extra "sz")))); intro zia zib) | (((focus ((with_reducible refine' r_bytes_ba ?_ ?_ ?_ ?_); rotate_right 4; (case _ => k_extra "asm"); (case _ => k_extra "lk"); (case _ => k_extra "sz")))); intro zia zib) | ((rename RC _ _ _ _ _ _ => zr0); ((focus ((with_reducible refine' r_bytes_ints zr0 ?_ ?_ ?_ ?_ ?_ ?_); rotate_right 6; rotate_left 1; (case _ => k_extra "lk"); rotate_right 1; (case _ => exact Ok.hd (by first | k_extra "ok2" | fail "none")); (case _ => k_extra "intsare"); (case _ => k_extra "inr"); (case _ => k_extra "sz")))); intro zia zib zic zr1; clear zr0))) | fail "none")
  k_with "ok2" => (first | (first | with_reducible assumption | ((focus ((refine' Ok.deep (j := 0) ?_ ?_); rotate_right 2; (case _ => with_reducible assumption); (case _ => decide))))) | fail "none")
  k_with "inr" => (first | (first | exact List.forall_mem_nil _ | exact List.forall_mem_cons.mpr ⟨⟨(by first | k_extra "sz" | fail "none"), (by first | k_extra "sz" | fail "none")⟩, (by first | k_extra "inr" | fail "none")⟩) | fail "none")
  k_with "call builtin:max" => (first | (k_dflt ((rename RC _ _ _ _ _ _ => zr0); ((focus ((with_reducible refine' r_max ?_ zr0 ?_); rotate_right 2; (case _ => exact Ok.hd (by first | k_extra "ok2" | fail "none"))))); intro zia zib zic zr1; clear zr0)) | fail "none")
  k_with "getMethod int" => (first | (k_dflt (with_reducible refine' r_to_bytes_m ?_)) | fail "none")
  k_with "call builtin:int.to_bytes" => (first | (k_dflt (((focus ((with_reducible refine' r_to_bytes ?_ ?_ ?_ ?_ ?_); rotate_right 5; (case _ => k_extra "sz"); (case _ => k_extra "sz"); (case _ => k_extra "sz"); (case _ => k_extra "sz")))); intro zia zib)) | fail "none")
  k_with "getMethod type:int" => (first | (k_dflt ((rename RC _ _ _ _ _ _ => zr0); ((focus ((with_reducible refine' r_fb_m zr0 ?_ ?_ ?_ ?_); rotate_right 4; (case _ => k_extra "asm"); (case _ => k_extra "sz"); (case _ => k_is)))); intro zia zib zic zr1; clear zr0)) | fail "none")
  k_with "newList" => (first | (k_dflt ((rename RC _ _ _ _ _ _ => zr0); ((focus ((with_reducible refine' r_newlist zr0 ?_ ?_ ?_); rotate_right 3; (case _ => k_extra "sz"); (case _ => k_extra "sz")))); intro zia zib zic zr1; clear zr0)) | fail "none")
  k_with "newTuple" => (first | (k_dflt ((rename RC _ _ _ _ _ _ => zr0); ((focus ((with_reducible refine' r_newtuple zr0 ?_ ?_ ?_); rotate_right 3; (case _ => k_extra "sz"); (case _ => k_extra "sz")))); intro zia zib zic zr1; clear zr0)) | fail "none")
  k_with "binaryOp Add ref ref" => (first | (k_dflt ((rename RC _ _ _ _ _ _ => zr0); ((focus ((with_reducible refine' r_addlist zr0 ?_ ?_ ?_ ?_ ?_); rotate_right 5; (case _ => k_extra "sz"); (case _ => k_extra "lk"); (case _ => k_extra "lk"); (case _ => k_extra "sz")))); intro zia zib zic zr1; clear zr0)) | fail "none")
  k_with "exec AugAssign Subscript" => (first | ((k_dflt ((focus ((with_reducible refine' wpAny_AugAssign_SubscriptAny ?_ ?_); rotate_right 2; rotate_left 1; (case _ => intro zia zib zic; exact rfl); rotate_right 1))))) | fail "none")
  k_with "assign Tuple" => (first | (k_dflt ((rename RC _ _ _ _ _ _ => zr0); ((focus ((with_reducible refine' r_unpack zr0 ?_ ?_ ?_ ?_ ?_); rotate_right 5; (case _ => exact Ok.hd (by first | k_extra "ok2" | fail "none")); (case _ => k_extra "istup"); (case _ => exact rfl); (case _ => exact rfl)))); intro zia zr1; clear zr0; (try dsimp only [assignEach, List.map]))) | fail "none")
  k_with "istup" => (first | (first | exact RC.tup (by with_reducible assumption) (by first | k_extra "lk" | fail "none") | exact istup_ext (by with_reducible assumption) (by with_reducible assumption)) | fail "none")
  k_with "assignInOrder" => (first | (first | (with_reducible refine' assignInOrder_nil ?_) | (with_reducible refine' assignInOrder_cons ?_)) | fail "none")
  k_with "assignInOrder nil nil" => (first | ((with_reducible refine' assignInOrder_nil ?_)) | fail "none")
  k_with "assignInOrder cons cons" => (first | ((with_reducible refine' assignInOrder_cons ?_)) | fail "none")
  k_with "callWith ref" => (first | (k_dflt (first | ((focus ((with_reducible refine' r_callK ?_ ?_ ?_ ?_ ?_); rotate_right 5; rotate_left 3; (case _ => exact rfl); rotate_right 3; rotate_left 3; (case _ => exact rfl); rotate_right 3; (case _ => k_extra "asm"); (case _ => k_is)))) | ((focus ((with_reducible refine' r_callK0 ?_ ?_ ?_ ?_); rotate_right 4; (case _ => k_extra "asm"); (case _ => k_extra "asm"); (case _ => k_is)))) | ((focus ((with_reducible refine' r_callKW ?_ ?_ ?_ ?_ ?_ ?_); rotate_right 6; rotate_left 5; (case _ => exact rfl); rotate_right 5; rotate_left 4; (case _ => exact rfl); rotate_right 4; rotate_left 2; (case _ => exact rfl); rotate_right 2; (case _ => k_extra "asm"); (case _ => k_is)))) | ((focus ((with_reducible refine' r_callKW0 ?_ ?_ ?_ ?_ ?_); rotate_right 5; rotate_left 4; (case _ => exact rfl); rotate_right 4; rotate_left 2; (case _ => exact rfl); rotate_right 2; (case _ => k_extra "asm"); (case _ => k_is)))) | ((focus ((with_reducible refine' r_bb_cw ?_ ?_ ?_); rotate_right 3; rotate_left 1; (case _ => exact rfl); rotate_right 1; rotate_left 1; (case _ => exact rfl); rotate_right 1))))) | fail "none")
  k_with "And" => (first | (k_dflt (first | ((with_reducible show Frag.In _ _ ∧ _); (refine' ⟨?_, ?_⟩; (exact Gd.at (by with_reducible assumption) (by with_reducible assumption)))) | ((with_reducible show StandsB _ _ ∧ _); (refine' ⟨?_, ?_⟩; (first | exact r_stands_fb (by with_reducible assumption) (by first | k_extra "lk" | fail "none") | exact r_stands_fh (by with_reducible assumption) (by first | k_extra "lk" | fail "none")))))) | fail "none")
  k_with "call ref" => (first | (k_dflt (((focus ((with_reducible refine' r_fb ?_ ?_ ?_ ?_); rotate_right 4; (case _ => k_extra "asm"); (case _ => k_extra "lk"); (case _ => k_extra "sz")))); intro zia zib)) | fail "none")
  k_with "exec For" => (first | (k_dflt ((focus ((with_reducible refine' wpAny_For_noraise ?_ ?_); rotate_right 2; rotate_left 1; (case _ => intro zia; exact rfl); rotate_right 1)))) | fail "none")
  k_with "exec For Name" => (first | (k_dflt ((focus ((with_reducible refine' wpAny_For_noraise ?_ ?_); rotate_right 2; rotate_left 1; (case _ => intro zia; exact rfl); rotate_right 1)))) | fail "none")
  k_with "exec For Name Call" => (first | (k_dflt ((focus ((with_reducible refine' wpAny_For_noraise ?_ ?_); rotate_right 2; rotate_left 1; (case _ => intro zia; exact rfl); rotate_right 1)))) | fail "none")
  k_with "exec For Name Call cons nil" => (first | (k_dflt ((focus ((with_reducible refine' wpAny_For_noraise ?_ ?_); rotate_right 2; rotate_left 1; (case _ => intro zia; exact rfl); rotate_right 1)))) | fail "none")
  k_with "call type:range" => (first | (k_dflt ((rename RC _ _ _ _ _ _ => zr0); ((focus ((with_reducible refine' r_range zr0 ?_ ?_); rotate_right 2; (case _ => k_extra "sz")))); intro zia zib zic zid zie zif zr1; clear zr0)) | fail "none")
  k_with "pyIter ref" => (first | (k_dflt ((rename RC _ _ _ _ _ _ => zr0); ((focus ((with_reducible refine' r_iter_range zr0 ?_ ?_ ?_ ?_ ?_); rotate_right 5; (case _ => k_extra "sz"); (case _ => k_extra "lk"); (case _ => k_extra "sz"); (case _ => k_extra "sz")))); intro zia zib zic zr1; clear zr0)) | fail "none")
  k_with "binaryOp RShift int int" => (first | (k_dflt (((focus ((with_reducible refine' r_shr ?_ ?_); rotate_right 2; (case _ => k_extra "sz")))); intro zia zib)) | fail "none")
  k_with "compareOp IsNot ref ref" => (first | (k_dflt (first | (with_reducible refine' r_isnot_self ?_) | ((focus ((with_reducible refine' r_isnot_inst ?_ ?_ ?_ ?_ ?_); rotate_right 5; (case _ => k_extra "asm"); (case _ => k_extra "lk"); (case _ => k_extra "lk"); (case _ => k_extra "ne")))))) | fail "none")
  k_with "s" => (first | (first | (((with_reducible show wpAny _ _ _ _ _ _) <;> walk1)) | (((with_reducible show _ ∧ _) <;> walk1)) | (with_reducible refine' ite_tt ?_) | (with_reducible refine' ite_ff ?_) | (dsimp only [List.nil_append, List.cons_append]; ((with_reducible show wpAny _ _ _ _ _ _) <;> walk1))) | fail "none")
  k_with "go" => (((repeat k_extra "s"); try dsimp only))
  k_with "def" => (first | (( (case G => k_extra "asm"); (case ho => k_is); (case hcd => k_is); (case hbind => exact BindsTo.of_eq rfl); (case hloc => exact rfl); (case hco => exact rfl); (case hgen => exact rfl); (case hk => exact rfl); (case hcell => decide))) | fail "none")
  k_with "new" => (first | (( (case G => k_extra "asm"); (case hkk => decide); (case hm => k_is); (case hi => k_is); (case hf => k_is); (case ho => k_is); (case hcd => k_is); (case hbind => first | exact fun _ _ _ => BindsTo.of_eq rfl | exact fun _ _ X => binds_K X rfl (by k_is) rfl rfl rfl); (case hloc => intro zia; exact rfl); (case hco => exact rfl); (case hgen => exact rfl); (case hk => exact rfl); (case hcell => decide))) | fail "none")
  k_with "ne" => (first | exact NE.ne (by with_reducible assumption) | exact NE.en (by with_reducible assumption) | fail "none")
  k_with "assign Subscript" => (first | (with_reducible refine' kas_sub ?_) | fail "none")
  k_with "nn" => (first | ((focus ((with_reducible refine' Bnd.nn ?_ ?_); rotate_right 2; (case _ => with_reducible assumption); (case _ => k_extra "om")))) | fail "none")
  k_with "le" => (first | ((focus ((with_reducible refine' PH.le_new ?_ ?_); rotate_right 2; rotate_left 1; (case _ => k_extra "nn"); rotate_right 1; (case _ => k_extra "le")))) | fail "none")
  k_with "keepi" => (first | ((focus ((with_reducible refine' KeepI.new ?_ ?_); rotate_right 2; rotate_left 1; (case _ => k_extra "nn"); rotate_right 1; (case _ => k_extra "keepi")))) | fail "none")
  k_with "only" => (first | ((focus ((with_reducible refine' Only.new _ ?_ ?_); rotate_right 2; rotate_left 1; (case _ => k_extra "nn"); rotate_right 1; (case _ => k_extra "only")))) | fail "none")
  k_with "eval Name" => (first | (k_dflt (first | (focus ((with_reducible refine' r_globG ?_ ?_ ?_ ?_ ?_ ?_ ?_); rotate_right 7; (case _ => k_extra "asm"); (case _ => k_extra "asm"); (case _ => k_is); rotate_left 1; (case _ => kernel_rfl); rotate_right 1; rotate_left 1; (case _ => kernel_rfl); rotate_right 1; rotate_left 1; (case _ => kernel_rfl))) | (focus ((with_reducible refine' r_localG ?_ ?_ ?_ ?_ ?_ ?_); rotate_right 6; (case _ => k_extra "asm"); (case _ => first | exact rfl | with_reducible assumption); rotate_left 1; (case _ => kernel_rfl); rotate_right 1; rotate_left 1; (case _ => kernel_rfl); rotate_right 1; rotate_left 1; (case _ => kernel_rfl))) | (focus ((with_reducible refine' r_cellG ?_ ?_ ?_ ?_ ?_ ?_ ?_); rotate_right 7; (case _ => k_extra "asm"); (case _ => exact rfl); (case _ => k_extra "lk"); rotate_left 1; (case _ => kernel_rfl); rotate_right 1; rotate_left 1; (case _ => kernel_rfl); rotate_right 1; rotate_left 1; (case _ => kernel_rfl))) | (focus ((with_reducible refine' r_builtG ?_ ?_ ?_ ?_ ?_ ?_ ?_ ?_ ?_); rotate_right 9; (case _ => k_extra "asm"); (case _ => k_extra "asm"); (case _ => k_is); (case _ => first | with_reducible exact boot_ba | boot_fast); rotate_left 1; (case _ => decide); rotate_right 1; rotate_left 1; (case _ => kernel_rfl); rotate_right 1; rotate_left 1; (case _ => kernel_rfl); rotate_right 1; rotate_left 1; (case _ => kernel_rfl))) | (focus ((with_reducible refine' r_localG ?_ ?_ ?_ ?_ ?_ ?_); rotate_right 6; rotate_left 4; (case _ => exact rfl); rotate_right 4; (case _ => k_extra "asm"); (case _ => assumption); rotate_left 1; (case _ => kernel_rfl); rotate_right 1; rotate_left 1; (case _ => kernel_rfl))))) | fail "none")
  k_with "storeName" => (first | (k_dflt (first | ((rename RC _ _ _ _ _ _ => zr0); ((focus ((with_reducible refine' r_storeCG zr0 ?_ ?_ ?_ ?_ ?_); rotate_right 5; (case _ => exact rfl); (case _ => k_extra "lk"); rotate_left 1; (case _ => kernel_rfl); rotate_right 1; rotate_left 1; (case _ => kernel_rfl))); intro zia zr1); clear zr0) | ((rename RC _ _ _ _ _ _ => zr0); ((focus ((with_reducible refine' r_storeG zr0 ?_ ?_ ?_); rotate_right 3; rotate_left 1; (case _ => kernel_rfl); rotate_right 1; rotate_left 1; (case _ => kernel_rfl))); intro zia zib zr1); clear zr0))) | fail "none")
  k_with "subscriptTail" => (first | (k_dflt (first | (focus ((with_reducible refine' r_item_tup ?_ ?_ ?_ ?_ ?_ ?_ ?_); rotate_right 7; rotate_left 6; (case _ => with_unfolding_all exact rfl); rotate_right 6; (case _ => k_extra "asm"); (case _ => k_extra "lk"); (case _ => decide); (case _ => decide); (case _ => exact rfl))))) | fail "none")
  k_with "pyIter ref" => (first | (k_dflt (first | ((rename RC _ _ _ _ _ _ => zr0); ((focus ((with_reducible refine' r_iter_list zr0 ?_ ?_ ?_); rotate_right 3; (case _ => k_extra "sz"); (case _ => k_extra "lk"))); intro zia zib zic zr1); clear zr0))) | fail "none")
  k_with "getMethod type:bytes" => (first | (k_dflt (first | ((rename RC _ _ _ _ _ _ => zr0); ((focus ((with_reducible refine' r_fh_m zr0 ?_ ?_ ?_ ?_); rotate_right 4; (case _ => k_extra "asm"); (case _ => k_extra "sz"); (case _ => k_is))); intro zia zib zic zr1); clear zr0))) | fail "none")
  k_with "0" => (try dsimp only)
  k_with "1" => ((iterate 1 k_extra "s"); try dsimp only)
  k_with "2" => ((iterate 2 k_extra "s"); try dsimp only)
  k_with "3" => ((iterate 3 k_extra "s"); try dsimp only)
  k_with "4" => ((iterate 4 k_extra "s"); try dsimp only)
  k_with "5" => ((iterate 5 k_extra "s"); try dsimp only)
  k_with "6" => ((iterate 6 k_extra "s"); try dsimp only)
  k_with "7" => ((iterate 7 k_extra "s"); try dsimp only)
  k_with "8" => ((iterate 8 k_extra "s"); try dsimp only)
  k_with "9" => ((iterate 9 k_extra "s"); try dsimp only)
  k_with "10" => ((iterate 10 k_extra "s"); try dsimp only)
  k_with "11" => ((iterate 11 k_extra "s"); try dsimp only)
  k_with "12" => ((iterate 12 k_extra "s"); try dsimp only)
  k_with "13" => ((iterate 13 k_extra "s"); try dsimp only)
  k_with "14" => ((iterate 14 k_extra "s"); try dsimp only)
  k_with "15" => ((iterate 15 k_extra "s"); try dsimp only)
  k_with "16" => ((iterate 16 k_extra "s"); try dsimp only)
  k_with "17" => ((iterate 17 k_extra "s"); try dsimp only)
  k_with "18" => ((iterate 18 k_extra "s"); try dsimp only)
  k_with "19" => ((iterate 19 k_extra "s"); try dsimp only)
  k_with "20" => ((iterate 20 k_extra "s"); try dsimp only)
  k_with "21" => ((iterate 21 k_extra "s"); try dsimp only)
  k_with "22" => ((iterate 22 k_extra "s"); try dsimp only)
  k_with "23" => ((iterate 23 k_extra "s"); try dsimp only)
  k_with "24" => ((iterate 24 k_extra "s"); try dsimp only)
  k_with "25" => ((iterate 25 k_extra "s"); try dsimp only)
  k_with "26" => ((iterate 26 k_extra "s"); try dsimp only)
  k_with "27" => ((iterate 27 k_extra "s"); try dsimp only)
  k_with "28" => ((iterate 28 k_extra "s"); try dsimp only)
  k_with "29" => ((iterate 29 k_extra "s"); try dsimp only)
  k_with "30" => ((iterate 30 k_extra "s"); try dsimp only)
  k_with "31" => ((iterate 31 k_extra "s"); try dsimp only)
  k_with "32" => ((iterate 32 k_extra "s"); try dsimp only)
  k_with "33" => ((iterate 33 k_extra "s"); try dsimp only)
  k_with "34" => ((iterate 34 k_extra "s"); try dsimp only)
  k_with "36" => ((iterate 36 k_extra "s"); try dsimp only)
  k_with "37" => ((iterate 37 k_extra "s"); try dsimp only)
  k_with "39" => ((iterate 39 k_extra "s"); try dsimp only)
  k_with "40" => ((iterate 40 k_extra "s"); try dsimp only)
  k_with "42" => ((iterate 42 k_extra "s"); try dsimp only)
  k_with "44" => ((iterate 44 k_extra "s"); try dsimp only)
  k_with "45" => ((iterate 45 k_extra "s"); try dsimp only)
  k_with "47" => ((iterate 47 k_extra "s"); try dsimp only)
  k_with "49" => ((iterate 49 k_extra "s"); try dsimp only)
  k_with "52" => ((iterate 52 k_extra "s"); try dsimp only)
  k_with "62" => ((iterate 62 k_extra "s"); try dsimp only)
  trivial
theorem nle_tr {a b c : Nat} (h1 : a ≤ b) (h2 : b ≤ c) : a ≤ c := Nat.le_trans h1 h2
theorem nlt_le {a b c : Nat} (h1 : a < b) (h2 : b ≤ c) : a < c := Nat.lt_of_lt_of_le h1 h2
theorem runs_size_le {M : Model} {Γ : PySem.Ctx} {p : Pos} {t : Sem Fin} {fs : List Frame} {s s' : Shared} {e : End} (h : Runs M Γ p t fs s e s') : s.heap.objs.size ≤ s'.heap.objs.size := by
  induction h <;> (try simp only [Shared.setGen, Heap.size_push, Heap.size_after_update] at *) <;> walk_at "om"
theorem wakes_size_le {M : Model} {Γ : PySem.Ctx} {p : Pos} {g : Nat} {r : Resume} {s s' : Shared} {res : GenResult} (h : Wakes M Γ p g r s res s') : s.heap.objs.size ≤ s'.heap.objs.size := by
  unfold Wakes at h
  split at h
  · exact h.elim
  · split at h
    · obtain ⟨e₁, s₁, hr, _, _, rfl⟩ := h; exact (runs_size_le hr : (s.setGen g .running).heap.objs.size ≤ s₁.heap.objs.size)
    · rw [h.2]; exact Nat.le_refl _
    · rw [h.2]; exact Nat.le_refl _
  · obtain ⟨e₁, s₁, hr, _, _, rfl⟩ := h; exact (runs_size_le hr : (s.setGen g .running).heap.objs.size ≤ s₁.heap.objs.size)
  · rw [h.2]; exact Nat.le_refl _
  · rw [h.2]; exact Nat.le_refl _
theorem wp_size {α : Type} (M : Model) (Γ : PySem.Ctx) (n : Nat) (t : Sem α) : ∀ (Q : α → Pos → Shared → Prop) (E : Value → Pos → Shared → Prop) (p : Pos) (s : Shared), n ≤ s.heap.objs.size → Sem.wp M Γ t Q E p s →
    Sem.wp M Γ t (fun a p' s' => n ≤ s'.heap.objs.size ∧ Q a p' s') (fun e p' s' => n ≤ s'.heap.objs.size ∧ E e p' s') p s := by
  induction t with
  | pure a => intro Q E p s hn h; exact ⟨hn, h⟩
  | raise e => intro Q E p s hn h; exact ⟨hn, h⟩
  | unsupported _ => intro Q E p s _ h; exact h
  | finish _ => intro Q E p s _ h; exact h
  | rule _ k ih => intro Q E p s hn h; exact ih () Q E p s hn h
  | «at» p' k ih => intro Q E p s hn h; exact ih () Q E p' s hn h
  | load a _ k ih => intro Q E p s hn h; obtain ⟨o, ho, h⟩ := h; exact ⟨o, ho, ih o Q E p s hn h⟩
  | update a _ f k ih => intro Q E p s hn h; exact ⟨h.1, ih () Q E p _ (by simpa using hn) h.2⟩
  | loadIfAlive a k ih => intro Q E p s hn h; exact ih _ Q E p s hn h
  | point _ k ih => intro Q E p s hn h; exact ih () Q E p s hn h
  | register _ _ => intro Q E p s _ h; exact h
  | alloc o k ih => intro Q E p s hn h; exact ih _ Q E p _ (by rw [Heap.size_push]; walk_at "om") h
  | fresh k ih => intro Q E p s hn h; exact ih _ Q E p _ hn h
  | ask k ih => intro Q E p s hn h; exact ih _ Q E p s hn h
  | choose src m k ih => intro Q E p s hn h; exact ⟨h.1, ih _ Q E p _ hn h.2⟩
  | os q _ k ih => intro Q E p s hn h; exact ih _ Q E p _ hn h
  | call c hd _ _ k ih => intro Q E p s hn h; obtain ⟨r, s', hr, h⟩ := h; exact ⟨r, s', hr, ih r Q E p s' (Nat.le_trans hn (runs_size_le hr)) h⟩
  | handled own k ih => intro Q E p s hn h; exact ih _ Q E p s hn h
  | genState g k ih => intro Q E p s hn h; obtain ⟨st, hs, h⟩ := h; exact ⟨st, hs, ih _ Q E p s hn h⟩
  | newGen c k ih => intro Q E p s hn h; exact ih _ Q E p _ hn h
  | resume g r _ k ih => intro Q E p s hn h; obtain ⟨res, s', hw, h⟩ := h; exact ⟨res, s', hw, ih res Q E p s' (Nat.le_trans hn (wakes_size_le hw)) h⟩
  | yield _ _ _ _ => intro Q E p s _ h; exact h
  | stack k ih => intro Q E p s hn h; exact ih _ Q E p s hn h
  | fork _ _ => intro Q E p s _ h; exact h
  | thread k ih => intro Q E p s hn h; exact ih _ Q E p s hn h
  | await _ _ _ _ _ => intro Q E p s _ h; exact h
theorem with_size {α : Type} {M : Model} {A : Around} {s : Shared} {t : Sem α} {Q : α → Shared → Prop} {E : Value → Shared → Prop}
    (h : wpAny M A t (fun a s' => s.heap.objs.size ≤ s'.heap.objs.size → Q a s') (fun e s' => s.heap.objs.size ≤ s'.heap.objs.size → E e s') s) : wpAny M A t Q E s :=
  fun Γ p hΓ => Sem.wp_mono M Γ t (fun _ _ _ x => x.2 x.1) (fun _ _ _ x => x.2 x.1) p s (wp_size M Γ _ t _ _ p s (Nat.le_refl _) (h Γ p hΓ))
abbrev Map := Str → Option Value
noncomputable def upd (m : Map) (x : Str) (v : Value) : Map := fun y => if y = x then some v else m y
theorem ltsz {h : Heap} {a : Nat} {o : Obj} (e : h.get? a = some o) : a < h.objs.size := Heap.lt_size e
inductive AO where
  | inst (C d : Nat)
  | dic (fs : List (Str × Value))
  | lst (vs : List Value)
  | tup (vs : List Value)
  | ba (b : List UInt8)
  | raw (o : Obj)
  | prp (p : Obj → Prop)
noncomputable def Ent (P : Params) (e : DictEntry) (f : Str × Value) : Prop := e.hash = PyData.keyHash P f.1 ∧ (∃ t, e.key = .str f.1 t) ∧ e.val = f.2
inductive Ents (P : Params) : List DictEntry → List (Str × Value) → Prop
  | nil : Ents P [] []
  | cons {e f es fs} : Ent P e f → Ents P es fs → Ents P (e :: es) (f :: fs)
noncomputable def AO.Is (P : Params) : AO → Obj → Prop
  | .inst C d, o => o = instObj C d
  | .dic fs, o => ∃ es k, o = dictOf es k ∧ Ents P es fs
  | .lst vs, o => ∃ k, o = { cls := .type "list", data := .seq vs.toArray k }
  | .tup vs, o => ∃ k, o = { cls := .type "tuple", data := .seq vs.toArray k }
  | .ba b, o => o = { cls := .type "bytearray", data := .bytearray b.toArray 0 }
  | .raw o', o => o = o'
  | .prp p, o => p o
abbrev PH := Nat → Option AO
noncomputable def PH.set (H : PH) (a : Nat) (x : AO) : PH := fun b => if b = a then some x else H b
theorem PH.set_self (H : PH) (a : Nat) (x : AO) : (H.set a x) a = some x := by simp [PH.set]
theorem PH.set_ne {H : PH} {a b : Nat} {x : AO} (h : b ≠ a) : (H.set a x) b = H b := by simp [PH.set, h]
theorem PH.set_at {H : PH} {a b : Nat} {x y : AO} (h : b ≠ a) (e : H b = some y) : (H.set a x) b = some y := by rw [PH.set_ne h, e]
theorem PH.set_set (H : PH) (a : Nat) (x y : AO) : (H.set a x).set a y = H.set a y := by
  funext b; simp only [PH.set]; split <;> rfl
noncomputable def PH.le (H H' : PH) : Prop := ∀ a x, H a = some x → H' a = some x
theorem PH.le_refl (H : PH) : H.le H := fun _ _ e => e
theorem PH.le_trans {H H' H'' : PH} (a : H.le H') (b : H'.le H'') : H.le H'' := fun x y e => b x y (a x y e)
theorem PH.le_set {H H' : PH} (a : Nat) (x : AO) (h : H.le H') : (H.set a x).le (H'.set a x) := fun b y e => by
  simp only [PH.set] at e ⊢
  split at e <;> simp_all
  exact h _ _ e
theorem PH.le_new {H H' : PH} {a : Nat} {x : AO} (h : H.le H') (ha : H a = none) : H.le (H'.set a x) := fun b y e => by
  simp only [PH.set]
  split
  · rename_i q; subst q; rw [ha] at e; cases e
  · exact h _ _ e
structure RC (P : Params) (H0 : Heap) (fs : List (Nat × Map)) (H : PH) (n : Nat) (h : Heap) : Prop where
  ext : ∀ b o, H0.get? b = some o → h.get? b = some o
  sz : n ≤ h.objs.size
  at_ : ∀ a x, H a = some x → (∃ o, h.get? a = some o ∧ x.Is P o) ∧ H0.objs.size ≤ a ∧ a < n ∧ ∀ p ∈ fs, a ≠ p.1
  fr : ∀ p ∈ fs, h.Ns p.1 p.2 ∧ H0.objs.size ≤ p.1 ∧ p.1 < n
  nd : fs.Pairwise (fun p q => p.1 ≠ q.1)
section
variable {P : Params} {H0 h : Heap} {fs : List (Nat × Map)} {H : PH} {n : Nat} {L : Nat} {m : Map}
theorem RC.lt (R : RC P H0 fs H n h) {a : Nat} {x : AO} (e : H a = some x) : a < n := (R.at_ a x e).2.2.1
theorem RC.ge (R : RC P H0 fs H n h) {a : Nat} {x : AO} (e : H a = some x) : H0.objs.size ≤ a := (R.at_ a x e).2.1
theorem RC.obj (R : RC P H0 fs H n h) {a : Nat} {x : AO} (e : H a = some x) : ∃ o, h.get? a = some o ∧ x.Is P o := (R.at_ a x e).1
theorem RC.Fr (R : RC P H0 ((L, m) :: fs) H n h) : Fr H0 L h m := ⟨(R.fr _ (.head _)).1, R.ext, (R.fr _ (.head _)).2.1⟩
theorem RC.none_new (R : RC P H0 fs H n h) {a : Nat} (ha : n ≤ a) : H a = none := by
  cases e : H a with
  | none => rfl
  | some x => have := R.lt e; walk_at "om"
theorem RC.old_none (_R : RC P H0 fs H n h) {a : Nat} (ha : H0.objs.size ≤ a) : H0.get? a = none := by
  cases e : H0.get? a with
  | none => rfl
  | some x => have := ltsz e; walk_at "om"
theorem RC.kept {h' : Heap} (R : RC P H0 fs H n h) (k : ∀ b o, h.get? b = some o → h'.get? b = some o) (hs : h.objs.size ≤ h'.objs.size) : RC P H0 fs H n h' where
  ext := fun b o e => k b o (R.ext b o e)
  sz := Nat.le_trans R.sz hs
  at_ := fun a x e => let ⟨⟨o, ho, hi⟩, r⟩ := R.at_ a x e; ⟨⟨o, k _ _ ho, hi⟩, r⟩
  fr := fun p hp => let ⟨a, b⟩ := R.fr p hp; ⟨let ⟨o, es, ep, ho, r⟩ := a; ⟨o, es, ep, k _ _ ho, r⟩, b⟩
  nd := R.nd
theorem RC.weak {H' : PH} (R : RC P H0 fs H n h) (l : H'.le H) : RC P H0 fs H' n h where
  ext := R.ext
  sz := R.sz
  at_ := fun a x e => R.at_ a x (l a x e)
  fr := R.fr
  nd := R.nd
theorem RC.pop {p : Nat × Map} (R : RC P H0 (p :: fs) H n h) : RC P H0 fs H n h where
  ext := R.ext
  sz := R.sz
  at_ := fun a x e => let ⟨p, q, r, t⟩ := R.at_ a x e; ⟨p, q, r, fun y hy => t y (.tail _ hy)⟩
  fr := fun p hp => R.fr p (.tail _ hp)
  nd := (List.pairwise_cons.mp R.nd).2
theorem RC.push {o : Obj} {x : AO} (R : RC P H0 fs H n h) (hx : x.Is P o) (hf : o.isFreed = false := by rfl) (hz : H0.objs.size ≤ h.objs.size) : RC P H0 fs (H.set h.objs.size x) (h.objs.size + 1) (h.push o) where
  ext := fun b o' e => Heap.get?_push_of_some _ (R.ext b o' e)
  sz := by rw [Heap.size_push]; exact Nat.le_refl _
  at_ := fun a y e => by
    simp only [PH.set] at e
    split at e
    · rename_i q; subst q; cases e
      refine ⟨⟨o, Heap.get?_push_size _ hf, hx⟩, hz, Nat.lt_succ_self _, fun p hp q => ?_⟩
      have := (R.fr p hp).2.2
      have := R.sz
      walk_at "om"
    · obtain ⟨⟨o', ho, hi⟩, g, l, t⟩ := R.at_ a y e
      exact ⟨⟨o', Heap.get?_push_of_some _ ho, hi⟩, g, by have := R.sz; omega, t⟩
  fr := fun p hp => by
    obtain ⟨⟨o', es, ep, ho, r⟩, b, c⟩ := R.fr p hp
    exact ⟨⟨o', es, ep, Heap.get?_push_of_some _ ho, r⟩, b, by have := R.sz; walk_at "om"⟩
  nd := R.nd
theorem RC.pushed {o : Obj} (R : RC P H0 fs H n h) : RC P H0 fs H n (h.push o) :=
  R.kept (fun _ _ e => Heap.get?_push_of_some _ e) (by rw [Heap.size_push]; walk_at "om")
theorem RC.put {h' : Heap} {a : Nat} {x y : AO} {o' : Obj} (R : RC P H0 fs H n h) (e : H a = some x) (ho : h'.get? a = some o') (hy : y.Is P o')
    (k : ∀ b o, b ≠ a → h.get? b = some o → h'.get? b = some o) (hs : h.objs.size ≤ h'.objs.size) : RC P H0 fs (H.set a y) n h' where
  ext := fun b o e' => by
    refine k b o (fun q => ?_) (R.ext b o e')
    subst q
    have := ltsz e'
    have := R.ge e
    walk_at "om"
  sz := Nat.le_trans R.sz hs
  at_ := fun b z e' => by
    simp only [PH.set] at e'
    split at e'
    · rename_i q; subst q; cases e'
      exact ⟨⟨o', ho, hy⟩, (R.at_ _ _ e).2⟩
    · rename_i q
      obtain ⟨⟨o, ho', hi⟩, r⟩ := R.at_ b z e'
      exact ⟨⟨o, k _ _ q ho', hi⟩, r⟩
  fr := fun p hp => by
    obtain ⟨⟨o, es, ep, ho', r⟩, b⟩ := R.fr p hp
    exact ⟨⟨o, es, ep, k _ _ (fun q => (R.at_ _ _ e).2.2.2 p hp q.symm) ho', r⟩, b⟩
  nd := R.nd
theorem RC.store {h' : Heap} {m' : Map} (R : RC P H0 ((L, m) :: fs) H n h) (hn : h'.Ns L m') (k : Heap.SameBut L h h') : RC P H0 ((L, m') :: fs) H n h' where
  ext := fun b o e => by
    refine (k.2 b fun q => ?_).trans (R.ext b o e)
    subst q
    have := ltsz e
    have := (R.fr _ (.head _)).2.1
    walk_at "om"
  sz := by rw [k.1]; exact R.sz
  at_ := fun a x e => by
    obtain ⟨⟨o, ho, hi⟩, g, l, t⟩ := R.at_ a x e
    refine ⟨⟨o, (k.2 a (t (L, m) (.head _))).trans ho, hi⟩, g, l, fun p hp => ?_⟩
    rcases List.mem_cons.mp hp with rfl | hp
    · exact t (L, m) (.head _)
    · exact t p (.tail _ hp)
  fr := fun p hp => by
    rcases List.mem_cons.mp hp with rfl | hp
    · exact ⟨hn, (R.fr (L, m) (.head _)).2⟩
    · obtain ⟨a, b⟩ := R.fr p (.tail _ hp)
      exact ⟨a.sameBut k fun q => (List.pairwise_cons.mp R.nd).1 p hp q.symm, b⟩
  nd := by
    have := List.pairwise_cons.mp R.nd
    exact List.pairwise_cons.mpr ⟨this.1, this.2⟩
theorem RC.enter {h' : Heap} {m' : Map} (R : RC P H0 fs H n h) (hz : H0.objs.size ≤ h.objs.size) (hn : h'.Ns h.objs.size m') (k : ∀ b o, h.get? b = some o → h'.get? b = some o) :
    RC P H0 ((h.objs.size, m') :: fs) H (h.objs.size + 1) h' where
  ext := fun b o e => k b o (R.ext b o e)
  sz := hn.lt
  at_ := fun a x e => by
    obtain ⟨⟨o, ho, hi⟩, g, l, t⟩ := R.at_ a x e
    have := R.sz
    refine ⟨⟨o, k _ _ ho, hi⟩, g, by omega, fun p hp => ?_⟩
    rcases List.mem_cons.mp hp with rfl | hp
    · show a ≠ h.objs.size; walk_at "om"
    · exact t p hp
  fr := fun p hp => by
    have := R.sz
    rcases List.mem_cons.mp hp with rfl | hp
    · exact ⟨hn, hz, Nat.lt_succ_self _⟩
    · obtain ⟨⟨o, es, ep, ho, r⟩, b, c⟩ := R.fr p hp
      exact ⟨⟨o, es, ep, k _ _ ho, r⟩, b, by walk_at "om"⟩
  nd := List.pairwise_cons.mpr ⟨fun p hp q => by have := (R.fr p hp).2.2; have := R.sz; simp only at q; omega, R.nd⟩
end
structure Gd (K : Frag) (H0 : Heap) : Prop where
  X : K.In H0
  T : ∃ p loose mg mb, TopRead p loose mg mb H0
structure Ok (A : Around) (k : Nat) : Prop where
  hd : A.handled = none
  dp : A.depth + k < 900
  un : A.units + 10 * k < 9000
theorem Ok.room {A : Around} {k : Nat} (O : Ok A k) : A.depth < recursionLimit := by have := O.dp; show _ < 1000; walk_at "om"
theorem Ok.deep {A : Around} {k j : Nat} {env : Env} (O : Ok A k) (h : j + 1 ≤ k) : Ok (A.deeper env) j :=
  ⟨O.hd, by have := O.dp; show A.depth + 1 + j < 900; omega, by have := O.un; show A.units + 3 + 10 * j < 9000; walk_at "om"⟩
theorem Ok.le {A : Around} {k j : Nat} (O : Ok A k) (h : j ≤ k) : Ok A j := ⟨O.hd, by have := O.dp; omega, by have := O.un; walk_at "om"⟩
theorem Ok.make {A : Around} {k j : Nat} {C : Addr} {rest : List Value} {kw : List (Str × Value)} (O : Ok A k) (h : j + 1 ≤ k) : Ok (A.under (.builtin "type.__call__" ⟨.ref C :: rest, kw⟩)) j :=
  ⟨O.hd, by have := O.dp; rw [depth_under_kw]; omega, by have := O.un; show A.units + 1 + 10 * j < 9000; walk_at "om"⟩
section
variable {prog : Program} {w : World} {A : Around} {K : Frag} {H0 h : Heap} {fs : List (Nat × Map)} {H : PH} {n : Nat} {L : Nat} {m : Map} {g : Array GenState} {d : Drawn} {tk : Nat} {os : OsState}
  {E : Value → Shared → Prop} {P : Params}
theorem Gd.at (G : Gd K H0) (R : RC P H0 fs H n h) : K.In h := G.X.keeps R.ext
theorem Gd.nolimit (G : Gd K H0) (R : RC P H0 fs H n h) : h.NoLimit := let ⟨_, _, _, _, T⟩ := G.T; T.nolimit.keeps R.ext
theorem q_abs {α : Type} {M : Model} {A : Around} {t : Sem α} {Q : α → Shared → Prop} {E : Value → Shared → Prop} {s : Shared} (h : ∀ Q' : α → Shared → Prop, (∀ a s, Q a s → Q' a s) → wpAny M A t Q' E s) : wpAny M A t Q E s := h Q (fun _ _ x => x)
theorem r_local {cn : Str} {cs : Scope} {f : Addr} {cdv : Value} {x : Str} {pos : Pos} {v : Value} {Q : Value → Shared → Prop} (R : RC P H0 ((L, m) :: fs) H n h) (hv : m x = some v) (k : Q v ⟨h, g, d, tk, os⟩)
    (hk : cs.kind = .function := by rfl) (hl : (envOf cn cs L f cdv).kindOf x = some .local := by rfl) (hd : (x == ("__debug__" : Str)) = false := by decide) :
    wpAny (model prog w) A (eval (.Name x pos) (envOf cn cs L f cdv)) Q E ⟨h, g, d, tk, os⟩ := ld R.Fr hv k hk hl hd
theorem r_glob {cn : Str} {cs : Scope} {f : Addr} {cdv : Value} {x : Str} {pos : Pos} {v : Value} {Q : Value → Shared → Prop} (R : RC P H0 ((L, m) :: fs) H n h) (G : Gd K H0) (e : nsIn K mainGlobals x = some (some v)) (k : Q v ⟨h, g, d, tk, os⟩)
    (hk : cs.kind = .function := by rfl) (hx : (envOf cn cs L f cdv).kindOf x = some .globalImplicit := by rfl) (hd : (x == ("__debug__" : Str)) = false := by decide) :
    wpAny (model prog w) A (eval (.Name x pos) (envOf cn cs L f cdv)) Q E ⟨h, g, d, tk, os⟩ :=
  let ⟨_, _, _, _, T⟩ := G.T; name_K (s := ⟨h, g, d, tk, os⟩) R.Fr G.X T e k hk hx hd
theorem r_built {cn : Str} {cs : Scope} {f : Addr} {cdv : Value} {x : Str} {pos : Pos} {v : Value} {Q : Value → Shared → Prop} (R : RC P H0 ((L, m) :: fs) H n h) (G : Gd K H0) (e : nsIn K mainGlobals x = some none) (hv : bootBuiltins x = some v) (k : Q v ⟨h, g, d, tk, os⟩)
    (hn : x ≠ "__name__" := by decide) (hk : cs.kind = .function := by rfl) (hx : (envOf cn cs L f cdv).kindOf x = some .globalImplicit := by rfl) (hd : (x == ("__debug__" : Str)) = false := by decide) :
    wpAny (model prog w) A (eval (.Name x pos) (envOf cn cs L f cdv)) Q E ⟨h, g, d, tk, os⟩ :=
  let ⟨_, _, _, _, T⟩ := G.T; name_B (s := ⟨h, g, d, tk, os⟩) R.Fr G.X T e hv hn k hk hx hd
theorem r_store {cn : Str} {cs : Scope} {f : Addr} {cdv : Value} {x : Str} {v : Value} {Q : Unit → Shared → Prop} (R : RC P H0 ((L, m) :: fs) H n h)
    (k : ∀ h' tk', RC P H0 ((L, upd m x v) :: fs) H n h' → Q () ⟨h', g, d, tk', os⟩)
    (hk : cs.kind = .function := by rfl) (hl : (envOf cn cs L f cdv).kindOf x = some .local := by rfl) :
    wpAny (model prog w) A (storeName (envOf cn cs L f cdv) x v) Q E ⟨h, g, d, tk, os⟩ :=
  wpAny_storeName_local hl R.Fr.ns (fun h' hn hs => k h' _ (R.store hn hs))
    (by show (cs.kind == .class || (cs.kind == .module && L != mainGlobals)) = false; rw [hk]; rfl)
theorem r_int {i : Int} {k : Nat} {pos : Pos} {env : Env} {Q : Value → Shared → Prop} (q : ∀ t tk', Q (.int i t) ⟨h, g, d, tk', os⟩) : wpAny (model prog w) A (eval (.Constant (.int i) k pos) env) Q E ⟨h, g, d, tk, os⟩ :=
  fun _ _ _ => q tk (tk + 1)
theorem r_str {i : Str} {k : Nat} {pos : Pos} {env : Env} {Q : Value → Shared → Prop} (q : ∀ t tk', Q (.str i t) ⟨h, g, d, tk', os⟩) : wpAny (model prog w) A (eval (.Constant (.str i) k pos) env) Q E ⟨h, g, d, tk, os⟩ :=
  fun _ _ _ => q tk (tk + 1)
theorem r_bytes {i : List UInt8} {k : Nat} {pos : Pos} {env : Env} {Q : Value → Shared → Prop} (q : ∀ t tk', Q (.bytes i.toArray t) ⟨h, g, d, tk', os⟩) : wpAny (model prog w) A (eval (.Constant (.bytes i) k pos) env) Q E ⟨h, g, d, tk, os⟩ :=
  fun _ _ _ => q tk (tk + 1)
theorem r_none {k : Nat} {pos : Pos} {env : Env} {Q : Value → Shared → Prop} (q : Q .none ⟨h, g, d, tk, os⟩) : wpAny (model prog w) A (eval (.Constant .none k pos) env) Q E ⟨h, g, d, tk, os⟩ :=
  fun _ _ _ => q
theorem r_bool {b : Bool} {k : Nat} {pos : Pos} {env : Env} {Q : Value → Shared → Prop} (q : Q (.bool b) ⟨h, g, d, tk, os⟩) : wpAny (model prog w) A (eval (.Constant (.bool b) k pos) env) Q E ⟨h, g, d, tk, os⟩ :=
  fun _ _ _ => q
section
variable {a b : Int} {t u : Tok} {Q : Value → Shared → Prop}
theorem r_add (q : ∀ t' tk', Q (.int (a + b) t') ⟨h, g, d, tk', os⟩) : wpAny (model prog w) A (binaryOp .Add (.int a t) (.int b u)) Q E ⟨h, g, d, tk, os⟩ := PyProof.Rows.add_int (q _ _)
theorem r_sub (q : ∀ t' tk', Q (.int (a - b) t') ⟨h, g, d, tk', os⟩) : wpAny (model prog w) A (binaryOp .Sub (.int a t) (.int b u)) Q E ⟨h, g, d, tk, os⟩ := PyProof.Rows.sub_int (q _ _)
theorem fmod_in {a b : Int} (h : 0 < b) : 0 ≤ a.fmod b ∧ a.fmod b < b := ⟨Int.fmod_nonneg_of_pos a h, Int.fmod_lt_of_pos a h⟩
theorem r_modp (hb : 0 < b) (q : 0 ≤ a.fmod b → a.fmod b < b → ∀ t' tk', Q (.int (a.fmod b) t') ⟨h, g, d, tk', os⟩) : wpAny (model prog w) A (binaryOp .Mod (.int a t) (.int b u)) Q E ⟨h, g, d, tk, os⟩ :=
  PyProof.Rows.mod_int' (by walk_at "om") (q (fmod_in hb).1 (fmod_in hb).2 _ _)
theorem r_mul (h1 : -(2 ^ 64) < b) (h2 : b < 2 ^ 64) (q : ∀ t' tk', Q (.int (a * b) t') ⟨h, g, d, tk', os⟩) : wpAny (model prog w) A (binaryOp .Mult (.int a t) (.int b u)) Q E ⟨h, g, d, tk, os⟩ :=
  PySem.P.mul_int (q _ _) (IntMulOk.of_right (intBits_le_64 h1 h2))
theorem r_fdiv (hb : b ≠ 0) (h2 : b.natAbs < 1073741824) (q : ∀ t' tk', Q (.int (a.fdiv b) t') ⟨h, g, d, tk', os⟩) : wpAny (model prog w) A (binaryOp .FloorDiv (.int a t) (.int b u)) Q E ⟨h, g, d, tk, os⟩ :=
  PyProof.Rows.floordiv_int hb (q _ _) (.inl (PyProof.noPylong_small h2))
theorem r_lt (q : Q (.bool (decide (a < b))) ⟨h, g, d, tk, os⟩) : wpAny (model prog w) A (compareOp .Lt (.int a t) (.int b u)) Q E ⟨h, g, d, tk, os⟩ := PyProof.Rows.lt_int q
end
theorem RC.list (R : RC P H0 fs H n h) {a : Nat} {vs : List Value} (e : H a = some (.lst vs)) : h.IsList a vs.toArray := by
  obtain ⟨o, ho, k, rfl⟩ := R.obj e
  exact ⟨_, ho, rfl, k, rfl⟩
theorem RC.tup (R : RC P H0 fs H n h) {a : Nat} {vs : List Value} (e : H a = some (.tup vs)) : IsTup h a vs.toArray := by
  obtain ⟨o, ho, k, rfl⟩ := R.obj e
  exact ⟨_, ho, rfl, k, rfl⟩
theorem r_item_list {value slice : Expr} {l : Nat} {vs : List Value} {i : Int} {u : Tok} {v : Value} {Q : Value → Shared → Prop} (R : RC P H0 fs H n h) (e : H l = some (.lst vs))
    (h0 : 0 ≤ i) (h1 : i < 2 ^ 63) (hx : vs[i.toNat]? = some v) (q : Q v ⟨h, g, d, tk, os⟩)
    (hs : subscripted slice false (.ref l) (.int i u) = operate [.ref l, .int i u] (getItem (.ref l) (.int i u)) := by with_unfolding_all rfl) :
    wpAny (model prog w) A (subscriptTail value slice (.ref l) (.int i u)) Q E ⟨h, g, d, tk, os⟩ :=
  tail_any (R.list e).typeIs slot_list_getitem.lookup (wpAny_getItem_list (R.list e) h0 h1 (by simpa using hx) q) hs
theorem ints_at {vs : List Value} {ns : List Int} (hi : IntsAre vs ns) {j : Nat} (h : j < ns.length) : ∃ t, vs[j]? = some (.int (ns.getD j 0) t) := by
  have e : ns[j]? = some (ns.getD j 0) := by simp [List.getD, List.getElem?_eq_getElem h]
  obtain ⟨t, ht⟩ := hi.get j _ e
  exact ⟨t, ht⟩
theorem r_item_ints {value slice : Expr} {l : Nat} {vs : List Value} {ns : List Int} {i : Int} {u : Tok} {Q : Value → Shared → Prop} (R : RC P H0 fs H n h) (e : H l = some (.lst vs)) (hi : IntsAre vs ns)
    (h0 : 0 ≤ i) (h1 : i < 2 ^ 63) (hx : i < ns.length) (q : ∀ t, Q (.int (ns.getD i.toNat 0) t) ⟨h, g, d, tk, os⟩)
    (hs : subscripted slice false (.ref l) (.int i u) = operate [.ref l, .int i u] (getItem (.ref l) (.int i u)) := by with_unfolding_all rfl) :
    wpAny (model prog w) A (subscriptTail value slice (.ref l) (.int i u)) Q E ⟨h, g, d, tk, os⟩ := by
  obtain ⟨t, ht⟩ := ints_at hi (j := i.toNat) (by walk_at "om")
  exact r_item_list R e h0 h1 ht (q t) hs
theorem r_setitem {l : Nat} {vs : List Value} {i : Int} {u : Tok} {v : Value} {Q : Unit → Shared → Prop} (R : RC P H0 fs H n h) (e : H l = some (.lst vs))
    (h0 : 0 ≤ i) (h1 : i < 2 ^ 63) (hx : i < (vs.length : Int)) (q : ∀ h', RC P H0 fs (H.set l (.lst (vs.set i.toNat v))) n h' → Q () ⟨h', g, d, tk, os⟩) :
    wpAny (model prog w) A (setItem (.ref l) (.int i u) v) Q E ⟨h, g, d, tk, os⟩ := by
  obtain ⟨o, ho, k, rfl⟩ := R.obj e
  refine ki_setAt (n := k) ho h0 h1 (by simpa using hx) (q _ ?_)
  refine R.put e (Heap.get?_update_self _ ho rfl) (y := .lst (vs.set i.toNat v)) ⟨k, ?_⟩ (fun b o' hb e' => (Heap.get?_update_other _ _ (Ne.symm hb)).trans e') (by rw [Heap.size_after_update]; exact Nat.le_refl _)
  show Obj.mapSeq _ (listOf vs.toArray k) = listOf (vs.set i.toNat v).toArray k
  simp only [Obj.mapSeq, Array.size_setIfInBounds, BEq.rfl, if_true]
  congr 2
  apply Array.toList_inj.mp
  simp
theorem r_len_list {l : Nat} {vs : List Value} {Q : Value → Shared → Prop} (R : RC P H0 fs H n h) (e : H l = some (.lst vs)) (hf : vs.length < 2 ^ 62)
    (q : ∀ t tk', Q (.int (vs.length : Nat) t) ⟨h, g, d, tk', os⟩) : wpAny (model prog w) A (call (.builtin "len") [.ref l]) Q E ⟨h, g, d, tk, os⟩ :=
  len_list (R.list e) (by simp; walk_at "om") (by simpa using q _ _)
theorem r_enter {RR : Result → Shared → Prop} {name qual : Str} {params : Arguments} {body : List Stmt} {scope : Scope} {dV kV doc pm cdv ct oc : Value} {an od : Option Addr} {osl : Array (Option Value)} {f : Addr} {args : Args} {binds : List (Str × Value)}
    (R : RC P H0 fs H n h) (G : Gd K H0) (hz : H0.objs.size ≤ n) (hroom : A.depth < recursionLimit)
    (ho : K.lookup f = some ⟨oc, od, .func (fnOf name qual params body scope dV kV doc pm an cdv ct), osl⟩) (hcd : codeIn K cdv qual = true)
    (hbind : BindsTo ⟨h, g, d, tk, os⟩ (fnOf name qual params body scope dV kV doc pm an cdv ct) args binds) (hloc : (binds.all fun x => decide (scope.names.lookup x.1 = some .local)) = true)
    (k : ∀ (L' : Nat) h₁ tk₁, n ≤ L' → RC P H0 ((L', fun y => binds.reverse.lookup y) :: fs) H (L' + 1) h₁ →
      wpAny (model prog w) (A.deeper (envOf qual scope L' f cdv)) (execs body (envOf qual scope L' f cdv))
        (fun fl s' => RR (.ok (.ret (match fl with | .ret v => v | _ => .none))) s')
        (fun e s' => wpAny (model prog w) (A.deeper (envOf qual scope L' f cdv)) (leaving (envOf qual scope L' f cdv) e) (fun _ s'' => RR (.error e) s'') (fun e' s'' => RR (.error e') s'') s')
        ⟨h₁, g, d, tk₁, os⟩)
    (hco : scope.isCoroutine = false := by rfl) (hgen : scope.isGenerator = false := by rfl) (hk : scope.kind = .function := by rfl)
    (hcell : ∀ x ∈ scope.names, x.2 ≠ .cell := by decide) : codeAny (model prog w) A (.call (.ref f) args) RR ⟨h, g, d, tk, os⟩ := by
  refine codeAny_call_def (fd := fnOf name qual params body scope dV kV doc pm an cdv ct) (body := body) (binds := binds) hroom (G.at R _ _ ho) rfl (G.nolimit R) (codeRec_of (G.at R) hcd) rfl hbind hcell (locs hloc) (fun h₁ hns hk₁ => ?_) hco hgen hk
  have hsz := R.sz
  exact k h.objs.size h₁ _ hsz (R.enter (Nat.le_trans hz hsz) hns hk₁)
theorem r_def {Q : Value → Shared → Prop} {name qual : Str} {params : Arguments} {body : List Stmt} {scope : Scope} {dV kV doc pm cdv ct oc : Value} {an od : Option Addr} {osl : Array (Option Value)} {f : Addr} {pos : List Value} {kw : List (Str × Value)} {binds : List (Str × Value)}
    (R : RC P H0 fs H n h) (G : Gd K H0) (hz : H0.objs.size ≤ n) (hroom : A.depth < recursionLimit)
    (ho : K.lookup f = some ⟨oc, od, .func (fnOf name qual params body scope dV kV doc pm an cdv ct), osl⟩) (hcd : codeIn K cdv qual = true)
    (hbind : BindsTo ⟨h, g, d, tk, os⟩ (fnOf name qual params body scope dV kV doc pm an cdv ct) ⟨pos, kw⟩ binds) (hloc : (binds.all fun x => decide (scope.names.lookup x.1 = some .local)) = true)
    (k : ∀ (L' : Nat) h₁ tk₁, n ≤ L' → RC P H0 ((L', fun y => binds.reverse.lookup y) :: fs) H (L' + 1) h₁ →
      wpAny (model prog w) (A.deeper (envOf qual scope L' f cdv)) (execs body (envOf qual scope L' f cdv))
        (fun fl s' => Q (match fl with | .ret v => v | _ => .none) s') (fun _ _ => False) ⟨h₁, g, d, tk₁, os⟩)
    (hco : scope.isCoroutine = false := by rfl) (hgen : scope.isGenerator = false := by rfl) (hk : scope.kind = .function := by rfl)
    (hcell : ∀ x ∈ scope.names, x.2 ≠ .cell := by decide) : wpAny (model prog w) A (call (.ref f) pos kw) Q E ⟨h, g, d, tk, os⟩ :=
  wpAny_call (r_enter R G hz hroom ho hcd hbind hloc (fun L' h₁ tk₁ hl R' => wpAny_mono (k L' h₁ tk₁ hl R') (fun fl s' q => q) fun _ _ x => x.elim) hco hgen hk hcell)
noncomputable def allN (H0 h : Heap) (L x : Nat) : List (Addr × Obj) := (List.range h.objs.size).filterMap fun b => if b = L ∨ b = x ∨ (H0.get? b).isSome = true then none else (h.get? b).map fun o => (b, o)
theorem allN_mem {H0 h : Heap} {L x b : Nat} {o : Obj} (e : h.get? b = some o) (h1 : b ≠ L) (h2 : b ≠ x) (h3 : H0.get? b = none) : (b, o) ∈ allN H0 h L x := by
  unfold allN
  refine List.mem_filterMap.mpr ⟨b, List.mem_range.mpr (ltsz e), ?_⟩
  rw [if_neg (by simp [h1, h2, h3]), e]; rfl
theorem allN_of {H0 h : Heap} {L x : Nat} {p : Addr × Obj} (hp : p ∈ allN H0 h L x) : h.get? p.1 = some p.2 ∧ p.1 ≠ L ∧ p.1 ≠ x ∧ H0.get? p.1 = none := by
  unfold allN at hp
  obtain ⟨b, hb, e⟩ := List.mem_filterMap.mp hp
  split at e
  · cases e
  · rename_i q
    obtain ⟨o, ho, rfl⟩ := Option.map_eq_some_iff.mp e
    simp only [not_or, Bool.not_eq_true, Option.isSome_eq_false_iff, Option.isNone_iff_eq_none] at q
    exact ⟨ho, q.1, q.2.1, q.2.2⟩
theorem allN_news {H0 h : Heap} {L x : Nat} : News H0 L h (allN H0 h L x) := fun p hp => let ⟨a, b, _, c⟩ := allN_of hp; ⟨a, b, c⟩
theorem RC.absSet {h' : Heap} {m' : Map} {x : Nat} {y z : AO} {o' : Obj} (R : RC P H0 ((L, m) :: fs) H n h) (F : PyProof.Rows.Fr H0 L h' m') (e : H x = some y) (ho : h'.get? x = some o') (hz : z.Is P o')
    (N : ∀ p ∈ allN H0 h L x, h'.get? p.1 = some p.2) (hs : h.objs.size ≤ h'.objs.size) : RC P H0 ((L, m') :: fs) (H.set x z) n h' where
  ext := F.keep
  sz := Nat.le_trans R.sz hs
  at_ := fun a u e' => by
    have tf : ∀ {b : Nat}, (∀ p ∈ (L, m) :: fs, b ≠ p.1) → ∀ p ∈ (L, m') :: fs, b ≠ p.1 := fun t p hp => by
      rcases List.mem_cons.mp hp with rfl | hp
      · exact t (L, m) (.head _)
      · exact t p (.tail _ hp)
    simp only [PH.set] at e'
    split at e'
    · rename_i q; subst q; cases e'
      obtain ⟨_, g, l, t⟩ := R.at_ _ _ e
      exact ⟨⟨o', ho, hz⟩, g, l, tf t⟩
    · rename_i q
      obtain ⟨⟨o, ho', hi⟩, g, l, t⟩ := R.at_ a u e'
      exact ⟨⟨o, N _ (allN_mem ho' (t (L, m) (.head _)) q (R.old_none g)), hi⟩, g, l, tf t⟩
  fr := fun p hp => by
    rcases List.mem_cons.mp hp with rfl | hp
    · exact ⟨F.ns, (R.fr (L, m) (.head _)).2⟩
    · obtain ⟨⟨o, es, ep, ho', r⟩, b, c⟩ := R.fr p (.tail _ hp)
      refine ⟨⟨o, es, ep, N _ (allN_mem ho' (fun q => (List.pairwise_cons.mp R.nd).1 p hp q.symm) (fun q => (R.at_ _ _ e).2.2.2 p (.tail _ hp) q.symm) (R.old_none b)), r⟩, b, c⟩
  nd := by
    have := List.pairwise_cons.mp R.nd
    exact List.pairwise_cons.mpr ⟨this.1, this.2⟩
noncomputable def setF (name : Str) (v : Value) : List (Str × Value) → List (Str × Value)
  | [] => [(name, v)]
  | f :: r => if f.1 == name then (f.1, v) :: r else f :: setF name v r
noncomputable def getF (name : Str) : List (Str × Value) → Option Value
  | [] => none
  | f :: r => if f.1 == name then some f.2 else getF name r
theorem Ents.isStr {e : DictEntry} {f : Str × Value} (x : Ent P e f) (name : Str) : e.key.isStr name = (f.1 == name) := by
  obtain ⟨_, ⟨t, hk⟩, _⟩ := x; rw [hk]; rfl
theorem Ents.refKey {e : DictEntry} {f : Str × Value} (x : Ent P e f) : e.refKey = false := by
  obtain ⟨_, ⟨t, hk⟩, _⟩ := x; unfold DictEntry.refKey; rw [hk]
theorem Ents.noRef {es : List DictEntry} {l : List (Str × Value)} (x : Ents P es l) : es.any (·.refKey) = false := by
  induction x with
  | nil => rfl
  | cons a _ ih => rw [List.any_cons, Ents.refKey a, ih]; rfl
theorem Ents.find {es : List DictEntry} {l : List (Str × Value)} (x : Ents P es l) (name : Str) : (es.find? (·.key.isStr name)).map (·.val) = getF name l := by
  induction x with
  | nil => rfl
  | cons a _ ih =>
    rw [List.find?_cons, Ents.isStr a name, getF]
    split
    · rename_i q; rw [q, if_pos rfl]; obtain ⟨_, _, hv⟩ := a; rw [← hv]; rfl
    · rename_i q; rw [q, if_neg (by decide)]; exact ih
theorem Ents.getL {es : List DictEntry} {l : List (Str × Value)} (x : Ents P es l) (name : Str) : getL name es = some (getF name l) := by
  have h1 := x.find name
  unfold PySem.W.getL
  split
  · rename_i e he; rw [he] at h1; rw [← h1]; rfl
  · rename_i he; rw [he] at h1; rw [x.noRef, ← h1]; rfl
theorem Ents.putL {es : List DictEntry} {l : List (Str × Value)} (x : Ents P es l) (name : Str) (t : Tok) (v : Value) : Ents P (putL name (PyData.keyHash P name) (.str name t) v es) (setF name v l) := by
  induction x with
  | nil => exact .cons ⟨rfl, ⟨t, rfl⟩, rfl⟩ .nil
  | cons a r ih =>
    rw [PySem.W.putL, Ents.isStr a name, setF]
    split
    · exact .cons ⟨a.1, a.2.1, rfl⟩ r
    · exact .cons a ih
theorem Ents.length {es : List DictEntry} {l : List (Str × Value)} (x : Ents P es l) : es.length = l.length := by
  induction x with
  | nil => rfl
  | cons a r ih => rw [List.length_cons, List.length_cons, ih]
theorem setF_length (name : Str) (v : Value) : ∀ l, (setF name v l).length ≤ l.length + 1
  | [] => Nat.le_refl _
  | f :: r => by
    rw [setF]; split
    · simp
    · have := setF_length name v r; simp only [List.length_cons]; walk_at "om"
theorem RC.inst (R : RC P H0 fs H n h) {x C dx : Nat} {l : List (Str × Value)} (e : H x = some (.inst C dx)) (e' : H dx = some (.dic l)) :
    ∃ es k, W.InstAt h x (instObj C dx) C (some (dictOf es k)) ∧ Ents P es l := by
  obtain ⟨o, ho, rfl⟩ := R.obj e
  obtain ⟨o', ho', es, k, rfl, hE⟩ := R.obj e'
  exact ⟨es, k, ⟨ho, rfl, rfl, ho'⟩, hE⟩
section
variable {x C dx : Nat} {l : List (Str × Value)} {name : Str} {v : Value}
theorem r_attr {expr : Bool} {Q : Value → Shared → Prop} {attr : Option Value} (R : RC P H0 ((L, m) :: fs) H n h) (G : Gd K H0) (e : H x = some (.inst C dx)) (e' : H dx = some (.dic l))
    (hg : plainGet K C name = true) (hh : hasDictIn K C = true) (ha : findIn K (.ref C) name = some attr) (hn : noGet K attr = true) (hl : getF name l = some v) (hv : handedIn v = true)
    (q : ∀ tk', Q v ⟨h, g, d, tk', os⟩) : wpAny (model prog w) A (getAttr (.ref x) name expr) Q E ⟨h, g, d, tk, os⟩ := by
  obtain ⟨es, k, I, hE⟩ := R.inst e e'
  exact get_own (s := ⟨h, g, d, tk, os⟩) R.Fr G.X I hg hh ha hn (by rw [hE.getL, hl]) hv (q _)
theorem r_meth {pl : Sem Bool} {Q : Value × List Value → Shared → Prop} {f : Addr} (R : RC P H0 ((L, m) :: fs) H n h) (G : Gd K H0) (e : H x = some (.inst C dx)) (e' : H dx = some (.dic l))
    (hg : plainGet K C name = true) (hf : findIn K (.ref C) name = some (some (.ref f))) (ht : isFn K (.ref f) = true) (hl : getF name l = none)
    (q : Q (.ref f, [.ref x]) ⟨h, g, d, tk, os⟩) : wpAny (model prog w) A (getMethod (.ref x) name pl) Q E ⟨h, g, d, tk, os⟩ := by
  obtain ⟨es, k, I, hE⟩ := R.inst e e'
  exact method_inst (s := ⟨h, g, d, tk, os⟩) R.Fr G.X I hg hf ht (by rw [hE.getL, hl]) q
theorem r_methOwn {pl : Sem Bool} {Q : Value × List Value → Shared → Prop} (R : RC P H0 ((L, m) :: fs) H n h) (G : Gd K H0) (e : H x = some (.inst C dx)) (e' : H dx = some (.dic l))
    (hg : plainGet K C name = true) (hh : hasDictIn K C = true) (hf : findIn K (.ref C) name = some none) (hl : getF name l = some v) (hv : handedIn v = true)
    (q : ∀ tk', Q (v, []) ⟨h, g, d, tk', os⟩) : wpAny (model prog w) A (getMethod (.ref x) name pl) Q E ⟨h, g, d, tk, os⟩ := by
  obtain ⟨es, k, I, hE⟩ := R.inst e e'
  exact kmu_own (s := ⟨h, g, d, tk, os⟩) R.Fr G.X I hg hf (get_own (s := ⟨h, g, d, tk, os⟩) R.Fr G.X I hg hh hf rfl (by rw [hE.getL, hl]) hv (q _))
theorem r_setattr {Q : Unit → Shared → Prop} (hP : P = w.params) (R : RC P H0 ((L, m) :: fs) H n h) (G : Gd K H0) (e : H x = some (.inst C dx)) (e' : H dx = some (.dic l))
    (hs : findIn K (.ref C) "__setattr__" = some (some (.builtin "object.__setattr__"))) (hp : plainOver K C = true) (ht : takerIn K C name = some none) (hh : hasDictIn K C = true)
    (hz : l.length ≤ 900) (q : ∀ h' tk', RC P H0 ((L, m) :: fs) (H.set dx (.dic (setF name v l))) n h' → Q () ⟨h', g, d, tk', os⟩) :
    wpAny (model prog w) A (setAttr (.ref x) name v) Q E ⟨h, g, d, tk, os⟩ := by
  subst hP
  obtain ⟨es, k, I, hE⟩ := R.inst e e'
  have hd : h.get? dx = some (dictOf es k) := I.dict
  have hdx := R.at_ _ _ e'
  have N : News H0 L h ((dx, dictOf es k) :: allN H0 h L dx) := fun p hp => by
    rcases List.mem_cons.mp hp with rfl | hp
    · exact ⟨hd, hdx.2.2.2 (L, m) (.head _), R.old_none hdx.2.1⟩
    · exact allN_news p hp
  refine with_size (set_dict (s := ⟨h, g, d, tk, os⟩) (news := (dx, dictOf es k) :: allN H0 h L dx) R.Fr G.X N I rfl hs hp ht hh (by rw [hE.getL]; rfl) rfl (Upd.head fun p hp => (allN_of hp).2.2.1) ?_ ?_)
  · have := (hE.putL name (tk + 1) v).length
    have h2 := setF_length name v l
    show (putL name (PyData.keyHash w.params name) (.str name (tk + 1)) v es).length ≤ 1000
    walk_at "om"
  · intro h' F' N' hs'
    exact q h' _ (R.absSet F' e' (N' _ (.head _)).1 (z := .dic (setF name v l)) ⟨_, _, rfl, hE.putL name _ v⟩ (fun p hp => (N' p (.tail _ hp)).1) hs')
theorem r_clsattr {mc a : Value} {expr : Bool} {Q : Value → Shared → Prop} (R : RC P H0 ((L, m) :: fs) H n h) (G : Gd K H0)
    (hm : typeIn K (.ref C) = some mc) (hr : readsIn K C mc = true) (e : findCls K (.ref C) mc name = some (.val a)) (hh : handedIn a = true)
    (q : ∀ tk', Q a ⟨h, g, d, tk', os⟩) : wpAny (model prog w) A (getAttr (.ref C) name expr) Q E ⟨h, g, d, tk, os⟩ := cls_val (s := ⟨h, g, d, tk, os⟩) R.Fr G.X hm hr e hh (q _)
end
theorem r_new {Q : Value → Shared → Prop} {C fI : Nat} {rest : List Value} {kw : List (Str × Value)} {kk : Nat} {name qual : Str} {params : Arguments} {body : List Stmt} {scope : Scope} {dV kV doc pm cdv ct oc : Value} {an od : Option Addr} {osl : Array (Option Value)} {binds : Nat → List (Str × Value)}
    (R : RC P H0 fs H n h) (G : Gd K H0) (hz : H0.objs.size ≤ n) (O : Ok A kk) (hkk : 3 ≤ kk)
    (hm : makesIn K C = true) (hi : findIn K (.ref C) "__init__" = some (some (.ref fI))) (hf : typeIn K (.ref fI) = some (.type "function"))
    (ho : K.lookup fI = some ⟨oc, od, .func (fnOf name qual params body scope dV kV doc pm an cdv ct), osl⟩) (hcd : codeIn K cdv qual = true)
    (hbind : ∀ x s', K.In s'.heap → BindsTo s' (fnOf name qual params body scope dV kV doc pm an cdv ct) ⟨.ref x :: rest, kw⟩ (binds x)) (hloc : ∀ x, ((binds x).all fun y => decide (scope.names.lookup y.1 = some .local)) = true)
    (k : ∀ (dx L' : Nat) h₁ tk₁, n ≤ dx → dx + 2 ≤ L' → RC P H0 ((L', fun y => (binds (dx + 1)).reverse.lookup y) :: fs) ((H.set dx (.dic [])).set (dx + 1) (.inst C dx)) (L' + 1) h₁ →
      Ok ((A.under (.builtin "type.__call__" ⟨.ref C :: rest, kw⟩)).deeper (envOf qual scope L' fI cdv)) (kk - 2) →
      wpAny (model prog w) ((A.under (.builtin "type.__call__" ⟨.ref C :: rest, kw⟩)).deeper (envOf qual scope L' fI cdv)) (execs body (envOf qual scope L' fI cdv))
        (fun fl s' => (match fl with | .ret v => v | _ => .none) = .none ∧ Q (.ref (dx + 1)) s') (fun _ _ => False) ⟨h₁, g, d, tk₁, os⟩)
    (hco : scope.isCoroutine = false := by rfl) (hgen : scope.isGenerator = false := by rfl) (hk : scope.kind = .function := by rfl)
    (hcell : ∀ x ∈ scope.names, x.2 ≠ .cell := by decide) : wpAny (model prog w) A (call (.ref C) rest kw) Q E ⟨h, g, d, tk, os⟩ := by
  refine wpAny_call (make_core (makes_of (G.at R) hm) (looks_findIn (G.at R) hi) (fun self => bind_fn (G.at R) self hf) (.inl rfl) ?_)
  have hsz := R.sz
  have hz' := Nat.le_trans hz hsz
  have R1 : RC P H0 fs (H.set h.objs.size (.dic [])) (h.objs.size + 1) (h.push emptyDict) := R.push (x := .dic []) ⟨[], 0, rfl, .nil⟩ rfl hz'
  have R2 := R1.push (x := .inst C h.objs.size) (o := instObj C h.objs.size) rfl rfl (by rw [Heap.size_push]; walk_at "om")
  rw [Heap.size_push] at R2
  have O1 : Ok (A.under (.builtin "type.__call__" ⟨.ref C :: rest, kw⟩)) (kk - 1) := O.make (by walk_at "om")
  refine r_enter (RR := InitBack (h.objs.size + 1) _) R2 G (by walk_at "om") O1.room ho hcd (hbind _ _ (G.at R2)) (hloc _) (fun L' h₁ tk₁ hl R' => ?_) hco hgen hk hcell
  refine wpAny_mono (k h.objs.size L' h₁ tk₁ hsz hl R' (O1.deep (by walk_at "om"))) (fun fl s' q => ?_) fun _ _ x => x.elim
  exact q
theorem r_callK {f : Value} {first : List Value} {env : Env} {pos : Pos} {e : Expr} {rest : List Expr} {Q : Value → Shared → Prop} (G : Gd K H0) (hk : keepIn K f = true)
    (q : wpAny (model prog w) A (spliced (backTo pos (starEach (e :: rest) env))) (fun vs s₁ => K.In s₁.heap ∧ wpAny (model prog w) A (call f (first ++ vs)) Q E s₁) E ⟨h, g, d, tk, os⟩)
    (he : starEach (e :: rest) env = (false, eval e env) :: starEach rest env := by rfl) (hplain : (backTo pos (starEach rest env)).any (·.1) = false := by rfl) :
    wpAny (model prog w) A (callWith pos f first (backTo pos (starEach (e :: rest) env)) []) Q E ⟨h, g, d, tk, os⟩ := callWith_K G.X hk q he hplain
theorem r_callK0 {f : Value} {first : List Value} {env : Env} {pos : Pos} {Q : Value → Shared → Prop} (R : RC P H0 fs H n h) (G : Gd K H0) (hk : keepIn K f = true)
    (q : wpAny (model prog w) A (call f (first ++ [])) Q E ⟨h, g, d, tk, os⟩) :
    wpAny (model prog w) A (callWith pos f first (backTo pos (starEach [] env)) []) Q E ⟨h, g, d, tk, os⟩ := callWith_K0 (s := ⟨h, g, d, tk, os⟩) (G.at R) hk q
theorem r_callKW {f : Value} {first : List Value} {env : Env} {pos : Pos} {e : Expr} {rest : List Expr} {kws : List Keyword} {Q : Value → Shared → Prop} (G : Gd K H0) (hk : keepIn K f = true) (hall : (backToKw pos (keywordEach kws env)).all (·.1.isSome) = true)
    (q : wpAny (model prog w) A (spliced (backTo pos (starEach (e :: rest) env))) (fun vs s₁ => wpAny (model prog w) A (evalAll ((backToKw pos (keywordEach kws env)).map (·.2)))
      (fun ks s₂ => K.In s₂.heap ∧ wpAny (model prog w) A (call f (first ++ vs) (((backToKw pos (keywordEach kws env)).filterMap (·.1)).zip ks)) Q E s₂) E s₁) E ⟨h, g, d, tk, os⟩)
    (hplain : ((backTo pos (starEach (e :: rest) env)).any (·.1) || (backToKw pos (keywordEach kws env)).any (·.1.isNone)) = false := by rfl) (he : starEach (e :: rest) env = (false, eval e env) :: starEach rest env := by rfl) :
    wpAny (model prog w) A (callWith pos f first (backTo pos (starEach (e :: rest) env)) (backToKw pos (keywordEach kws env))) Q E ⟨h, g, d, tk, os⟩ := callWith_KW G.X hk hall q hplain he
theorem r_callKW0 {f : Value} {first : List Value} {env : Env} {pos : Pos} {kws : List Keyword} {Q : Value → Shared → Prop} (G : Gd K H0) (hk : keepIn K f = true) (hall : (backToKw pos (keywordEach kws env)).all (·.1.isSome) = true)
    (q : wpAny (model prog w) A (evalAll ((backToKw pos (keywordEach kws env)).map (·.2))) (fun ks s₂ => K.In s₂.heap ∧ wpAny (model prog w) A (call f (first ++ []) (((backToKw pos (keywordEach kws env)).filterMap (·.1)).zip ks)) Q E s₂) E ⟨h, g, d, tk, os⟩)
    (hplain : ((backTo pos (starEach [] env)).any (·.1) || (backToKw pos (keywordEach kws env)).any (·.1.isNone)) = false := by rfl) :
    wpAny (model prog w) A (callWith pos f first (backTo pos (starEach [] env)) (backToKw pos (keywordEach kws env))) Q E ⟨h, g, d, tk, os⟩ := callWith_KW0 (h₀ := H0) G.X hk hall q hplain
section
variable {x y : List UInt8} {t u : Tok} {Q : Value → Shared → Prop}
theorem r_badd (hs : x.length + y.length ≤ 16777216) (q : ∀ t' tk', Q (.bytes (x ++ y).toArray t') ⟨h, g, d, tk', os⟩) :
    wpAny (model prog w) A (binaryOp .Add (.bytes x.toArray t) (.bytes y.toArray u)) Q E ⟨h, g, d, tk, os⟩ :=
  KBy.add_bytes (by simpa using hs) fun t' k => by have := q t' k; simpa using this
theorem r_blen (hs : x.length ≤ 1099511627776) (q : ∀ t' tk', Q (.int (x.length : Nat) t') ⟨h, g, d, tk', os⟩) :
    wpAny (model prog w) A (call (.builtin "len") [.bytes x.toArray t]) Q E ⟨h, g, d, tk, os⟩ := len_bytes (by simpa using hs) (by simpa using q _ _)
theorem r_beq (q : Q (.bool (x == y)) ⟨h, g, d, tk, os⟩) : wpAny (model prog w) A (compareOp .Eq (.bytes x.toArray t) (.bytes y.toArray u)) Q E ⟨h, g, d, tk, os⟩ := eq_bytes q
theorem r_bne (q : Q (.bool (x != y)) ⟨h, g, d, tk, os⟩) : wpAny (model prog w) A (compareOp .NotEq (.bytes x.toArray t) (.bytes y.toArray u)) Q E ⟨h, g, d, tk, os⟩ := ne_bytes q
theorem r_bitem {value slice : Expr} {i : Int} {ui : Tok} (hfit : x.length ≤ 1099511627776) (h0 : 0 ≤ i) (h1 : i < x.length)
    (q : ∀ t' tk', Q (.int ((x.getD i.toNat 0).toNat : Nat) t') ⟨h, g, d, tk', os⟩)
    (hs : subscripted slice false (.bytes x.toArray t) (.int i ui) = operate [.bytes x.toArray t, .int i ui] (getItem (.bytes x.toArray t) (.int i ui)) := by with_unfolding_all rfl) :
    wpAny (model prog w) A (subscriptTail value slice (.bytes x.toArray t) (.int i ui)) Q E ⟨h, g, d, tk, os⟩ := KBy.item_N hfit h0 h1 (q _ _) hs (fun _ => by cases value <;> rfl)
end
theorem r_call0 {M : Model} {s : Shared} {env : Env} {x : Str} {np pos : Pos} {args : List Expr} {Q : Value → Shared → Prop}
    (q : wpAny M A (eval (.Name x np) env) (fun f s₁ => wpAny M A (callWith pos f [] (backTo pos (starEach args env)) []) Q E s₁) E s) :
    wpAny M A (eval (.Call (.Name x np) args [] pos) env) Q E s := wpAny_Call_ofName q
theorem r_mcall0 {M : Model} {s : Shared} {env : Env} {name : Str} {o : Expr} {apos pos : Pos} {args : List Expr} {pl : Sem Bool} {Q : Value → Shared → Prop}
    (q : wpAny M A (eval o env) (fun ov s₁ => wpAny M A (getMethod ov name pl) (fun fx s₂ => wpAny M A (callWith pos fx.1 fx.2 (backTo pos (starEach args env)) []) Q E s₂) E s₁) E s)
    (he : eval (.Call (.Attribute o name apos) args [] pos) env = (do
      let ov ← eval o env
      standAt apos.atName
      let (f, first) ← holding [ov] (getMethod ov name pl)
      callWith pos f first (backTo pos (starEach args env)) (backToKw pos (keywordEach [] env))) := by rfl) :
    wpAny M A (eval (.Call (.Attribute o name apos) args [] pos) env) Q E s := methodCall_KW q he
end
noncomputable def holdsIds : List String := ["bytearray.__contains__", "bytearray.__mod__", "bytearray.__rmod__", "_struct.pack_into.held", "bytearray.find.held"] ++ Builtin.Bytes.decodersThatHold
noncomputable def okCode : Code → Bool
  | .builtin id _ => !holdsIds.contains id
  | _ => true
noncomputable def Cl (Γ : PySem.Ctx) : Prop := okCode Γ.code = true ∧ ∀ x ∈ Γ.below, okCode x.1 = true
noncomputable def wpP {α : Type} (M : Model) (A : Around) (t : Sem α) (Q : α → Shared → Prop) (E : Value → Shared → Prop) (s : Shared) : Prop :=
  ∀ Γ p, Γ.In A → Cl Γ → Sem.wp M Γ t (fun a _ s' => Q a s') (fun e _ s' => E e s') p s
noncomputable def codeP (M : Model) (A : Around) (c : Code) (R : Result → Shared → Prop) (s : Shared) : Prop :=
  ∀ Γ p, Γ.code = c → Γ.Below A → Cl Γ → wpCode M Γ R p s
section
variable {α β : Type} {M : Model} {A : Around} {E : Value → Shared → Prop} {s : Shared}
theorem P_any {t : Sem α} {Q : α → Shared → Prop} (h : wpAny M A t Q E s) : wpP M A t Q E s := fun Γ p hΓ _ => h Γ p hΓ
theorem P_mono {t : Sem α} {Q Q' : α → Shared → Prop} {E' : Value → Shared → Prop} (h : wpP M A t Q E s) (hQ : ∀ a s, Q a s → Q' a s) (hE : ∀ e s, E e s → E' e s) : wpP M A t Q' E' s :=
  fun Γ p hΓ hc => Sem.wp_mono M Γ t (fun a _ s => hQ a s) (fun e _ s => hE e s) p s (h Γ p hΓ hc)
theorem P_bind {m : Sem α} {f : α → Sem β} {Q : β → Shared → Prop} (h : wpP M A m (fun a s' => wpP M A (f a) Q E s') E s) : wpP M A (m >>= f) Q E s := fun Γ p hΓ hc => by
  rw [Sem.wp_bind']
  exact Sem.wp_mono M Γ m (fun a p' s' h' => h' Γ p' hΓ hc) (fun _ _ _ h' => h') p s (h Γ p hΓ hc)
theorem P_bindA {m : Sem α} {f : α → Sem β} {Q : β → Shared → Prop} (h : wpAny M A m (fun a s' => wpP M A (f a) Q E s') E s) : wpP M A (m >>= f) Q E s := P_bind (P_any h)
theorem P_pure {a : α} {Q : α → Shared → Prop} (h : Q a s) : wpP M A (pure a) Q E s := fun _ _ _ _ => h
theorem P_holding {vs : List Value} {m : Sem α} {Q : α → Shared → Prop} (h : wpP M A m Q E s) : wpP M A (holding vs m) Q E s := fun Γ p hΓ hc => by rw [Sem.wp_holding]; exact h Γ p hΓ hc
theorem P_onRaise {m : Sem α} {k : Value → Sem Unit} {Q : α → Shared → Prop} (h : wpP M A m Q (fun e s' => wpAny M A (k e) (fun _ s'' => E e s'') E s') s) : wpP M A (m.onRaise k) Q E s := fun Γ p hΓ hc => by
  rw [Sem.wp_onRaise]
  exact Sem.wp_mono M Γ m (fun _ _ _ h' => h') (fun e p' s' h' => h' Γ p' hΓ) p s (h Γ p hΓ hc)
theorem codeP_mono {c : Code} {R R' : Result → Shared → Prop} (h : codeP M A c R s) (hR : ∀ r s, R r s → R' r s) : codeP M A c R' s :=
  fun Γ p hc hΓ hk => wpCode_mono hR (h Γ p hc hΓ hk)
theorem P_run {c : Code} {h : Option Value} {Q : Flow → Shared → Prop} (ok : okCode c = true)
    (hc : codeP M (A.mark h) c (fun r s' => match r with | .ok f => Q f s' | .error e => E e s') s) (hnb : h ≠ some byPass := by intro x; cases x) : wpP M A (run c h) Q E s :=
  fun Γ p hΓ hk => by
    rw [Sem.wp_run]
    exact hc _ p rfl (hΓ.enter c h p hnb) ⟨ok, fun x hx => by rcases List.mem_cons.mp hx with rfl | hx; exact hk.1; exact hk.2 x hx⟩
theorem P_runValue {c : Code} {Q : Value → Shared → Prop} (ok : okCode c = true)
    (hc : codeP M A c (fun r s' => match r with | .ok (.ret v) => Q v s' | .ok _ => False | .error e => E e s') s) : wpP M A (runValue c) Q E s := fun Γ p hΓ hk => by
  rw [Sem.wp_runValue]
  exact hc _ p rfl (hΓ.enter c none p (by intro x; cases x)) ⟨ok, fun x hx => by rcases List.mem_cons.mp hx with rfl | hx; exact hk.1; exact hk.2 x hx⟩
theorem P_call {f : Value} {pos : List Value} {kw : List (Str × Value)} {Q : Value → Shared → Prop}
    (hc : codeP M A (.call f ⟨pos, kw⟩) (fun r s' => match r with | .ok (.ret v) => Q v s' | .ok _ => False | .error e => E e s') s) : wpP M A (call f pos kw) Q E s := P_runValue rfl hc
theorem codeP_tree {c : Code} {R : Result → Shared → Prop}
    (h : wpP M (A.under c) (M.den c) (fun fin s' => match fin with | .done f => R (.ok f) s' | .again c' => c'.quiet = true ∧ okCode c' = true ∧ codeP M A c' R s')
      (fun e s' => R (.error e) s') s) : codeP M A c R s := fun Γ p hc hΓ hk => by
  rw [wpCode_iff_wp, hc]
  refine Sem.wp_mono M Γ _ (fun fin p' s' h' => ?_) (fun _ _ _ h' => h') p s (h Γ p (hc ▸ hΓ.in) hk)
  cases fin with
  | done f => exact h'
  | again c' => exact ⟨h'.1, h'.2.2 (Γ.goto c') p' rfl (hΓ.goto c') ⟨h'.2.1, hk.2⟩⟩
end
section
variable {prog : Program} {w : World} {A : Around} {E : Value → Shared → Prop} {s : Shared} {R : Result → Shared → Prop}
theorem codeP_func {body : List Stmt} {env : Env}
    (h : wpP (model prog w) (A.deeper env) (execs body env) (fun f s' => R (.ok (.ret (match f with | .ret v => v | _ => .none))) s')
      (fun e s' => wpAny (model prog w) (A.deeper env) (leaving env e) (fun _ s'' => R (.error e) s'') (fun e' s'' => R (.error e') s'') s') s) : codeP (model prog w) A (.func body env) R s := by
  refine codeP_tree ?_
  show wpP _ (A.deeper env) (do point; match ← (execs body env).onRaise (leaving env) with | .ret v => ret v | _ => ret .none) _ _ s
  refine P_bindA (wpAny_point (P_bind (P_onRaise (P_mono h (fun f s' h' => ?_) fun _ _ h' => h'))))
  cases f <;> exact P_pure h'
theorem codeP_function {a : Addr} {args : Args} {o : Obj} {fd : FuncData} {body : List Stmt} (hroom : A.depth < recursionLimit)
    (ho : s.heap.get? a = some o) (hd' : o.data = .func fd) (hco : fd.scope.isCoroutine = false) (hgen : fd.scope.isGenerator = false) (hbody : fd.body = .stmts body) (hcd : s.heap.CodeRec fd.code fd.qualname)
    (h : wpAny (model prog w) A.in1 (bindArgs fd args) (fun binds s₁ =>
      wpAny (model prog w) A.in1 (newFunctionEnv fd.scope fd.globals fd.closure binds (fd.qualname ++ ".<locals>.") (some a) fd.code none fd.builtins)
        (fun env s₂ => s₂.heap.NoLimit ∧ codeP (model prog w) A (.func body env) R s₂) (fun e s' => R (.error e) s') s₁) (fun e s' => R (.error e) s') s) : codeP (model prog w) A (.call (.ref a) args) R s := by
  refine codeP_tree (P_any ?_)
  show wpAny _ A.in1 (callAny (.ref a) args) _ _ s
  simp only [callAny]
  refine wpAny_bind (wpAny_load ho ?_)
  obtain ⟨c, oc, vs, tq, hc, hoc, hdc, hq⟩ := hcd
  simp only [hd', callFunction, hco, hgen, hbody, hc]
  rw [hc] at h
  refine wpAny_bind (m := field (.ref c) 1) (wpAny_field hoc hdc hq (wpAny_bind (wpAny_pure ?_)))
  exact wpAny_bind (wpAny_mono h (fun binds s₁ h₁ => wpAny_bind (wpAny_mono h₁ (fun env s₂ h₂ => wpAny_bind (wpAny_enterFrame h₂.1 hroom
    (wpAny_pure (And.intro rfl ⟨rfl, h₂.2⟩)))) fun _ _ h' => h')) fun _ _ h' => h')
theorem codeP_def {a : Addr} {o : Obj} {fd : FuncData} {body : List Stmt} {args : Args} {binds : List (Str × Value)}
    (hroom : A.depth < recursionLimit) (ho : s.heap.get? a = some o) (hdata : o.data = .func fd) (hlim : s.heap.NoLimit) (hcd : s.heap.CodeRec fd.code fd.qualname)
    (hbody : fd.body = .stmts body) (hbind : BindsTo s fd args binds)
    (hcell : ∀ x ∈ fd.scope.names, x.2 ≠ .cell) (hloc : ∀ x ∈ binds, fd.scope.names.lookup x.1 = some .local)
    (h : ∀ h₀, h₀.Ns s.heap.objs.size (fun x => binds.reverse.lookup x) → (∀ b o, s.heap.get? b = some o → h₀.get? b = some o) →
      wpP (model prog w) (A.deeper (callEnv fd s.heap.objs.size a)) (execs body (callEnv fd s.heap.objs.size a)) (fun f s' => R (.ok (.ret (match f with | .ret v => v | _ => .none))) s')
        (fun e s' => wpAny (model prog w) (A.deeper (callEnv fd s.heap.objs.size a)) (leaving (callEnv fd s.heap.objs.size a) e) (fun _ s'' => R (.error e) s'') (fun e' s'' => R (.error e') s'') s')
        { s with heap := h₀, toks := s.toks + binds.length })
    (hco : fd.scope.isCoroutine = false := by rfl) (hgen : fd.scope.isGenerator = false := by rfl) (hk : fd.scope.kind = .function := by rfl) :
    codeP (model prog w) A (.call (.ref a) args) R s := by
  refine codeP_function hroom ho hdata hco hgen hbody hcd (hbind _ _ _ _ ?_)
  refine wpAny_newFunctionEnv hcell hloc (fun h₀ hns₀ hsb₀ => ⟨hlim.fresh _ hsb₀, codeP_func (h h₀ hns₀ fun b o e => ?_)⟩) hk
  exact hsb₀.extBut b o (Nat.ne_of_lt (Heap.lt_size e)) (Heap.get?_push_of_some _ e)
end
abbrev caller0 : PySem.Ctx := ⟨.builtin "claim.caller" {}, none, none, [], none⟩
theorem caller_clean : Cl caller0 := ⟨by decide +kernel, fun x hx => nomatch hx⟩
theorem callFrom_P {c : ClaimW} {tree : List Value → Sem PySem.Fin} {w : World} {s : Shared} {free : Addr → Prop} {gens : Prop} {kept : Heap → Prop} (hz : s.asleep) (hgens : s.gens = #[])
    (hspec : ∀ args, c.pre args = true → WData.layableAll args = true → ∀ ord : List DictEntry → List DictEntry, (∀ l, (ord l).Perm l) →
      ∃ vs s₁, layAllW c.records (classAt s.heap) w.params ord args s = some (vs, s₁) ∧
        wpP (model c.prog w) callerA (tree vs) (fun fin s' => ∃ f, fin = .done f ∧ (c.Ends s args vs s₁ (.ok f) s' ∧ s'.os = s.os ∧ AllBare s'.gens ∧ kept s'.heap))
          (fun e s' => c.Ends s args vs s₁ (.error e) s' ∧ s'.os = s.os ∧ AllBare s'.gens ∧ kept s'.heap) s₁) :
    c.CallFrom (fun vs => ⟨tree vs, .builtin "claim.caller" {}, default, []⟩) w free gens kept s := by
  intro args hpre hlay ord hord
  obtain ⟨vs, s₁, hlaid, hcode⟩ := hspec args hpre hlay ord hord
  have hal := layAllW_rest _ _ _ hlaid
  have h0 : Sem.wp (model c.prog w) caller0 (tree vs) (Sem.finPost (model c.prog w) caller0 fun r s' => (c.Ends s args vs s₁ r s' ∧ s'.os = s.os ∧ kept s'.heap) ∧ leftWithCleanup s'.gens = false)
      (fun e _ s' => (c.Ends s args vs s₁ (.error e) s' ∧ s'.os = s.os ∧ kept s'.heap) ∧ leftWithCleanup s'.gens = false) default s₁ := by
    refine Sem.wp_mono _ _ _ (fun fin p' s' h' => ?_) (fun e _ s' h' => ⟨⟨h'.1, h'.2.1, h'.2.2.2⟩, leftWithCleanup_false_of_bare h'.2.2.1⟩) _ _ (hcode caller0 default caller_in caller_clean)
    obtain ⟨f, rfl, h1, h2, h3, h4⟩ := h'
    exact ⟨⟨h1, h2, h4⟩, leftWithCleanup_false_of_bare h3⟩
  obtain ⟨k, r, s', s'', hsched, hrun, hfo, hcase, hos, hkp⟩ := wp_halts_full (M := model c.prog w) (R := fun r s' => c.Ends s args vs s₁ r s' ∧ s'.os = s.os ∧ kept s'.heap) (Shared.asleep_of_life hal.2.2.2 hz) h0
  obtain ⟨eh, _, _, eo, _⟩ := Shared.forget_eq hfo
  have hcase := hcase.congr eh
  have hkp : kept s''.heap := by rw [eh]; exact hkp
  rw [← eo] at hos
  have hlife : s''.heap.life = s.heap.life := (runN_life _ _ _ hrun).trans hal.2.2.2
  refine ⟨vs, s₁, hlaid, k, _, s'', hsched, ?_, (fun _ i x hx => by rw [hgens] at hx; simp at hx), hkp, by rw [hlife], Shared.rest_eq hos⟩
  rcases hcase with ⟨v, rfl, d1, d2, d3, d4, d5⟩ | ⟨e, ob, cls, rfl, d1, d2, d3, d4, d5⟩
  · exact .inl ⟨v, rfl, d1, d2, d3, fun b o y _ => d4 b o y, d5⟩
  · exact .inr ⟨e, ob, cls, rfl, d1, d2, d3, d4, fun b o y _ => d5 b o y⟩
abbrev WalkP (q : Program) (loose : List Str) (XP : (Str → Option Value) → Heap → Prop) (YP : World → Heap → Prop) (r : RowW) (d : DefRec) (kwd : List (Str × Expr)) : Prop :=
  ∀ (w : World) (s₀ s₁ : Shared) (mg mb : Str → Option Value), Ground q loose r.records XP w s₀ mg mb s₁.heap → YP w s₁.heap → ∀ (a : Addr) (o : Obj) (pm cd doc dV kV : Value), s₁.heap.get? a = some o →
    o.data = .func { docDef d.name d.params d.body d.scope pm cd doc with defaults := dV, kwdefaults := kV } → s₁.heap.CodeRec cd d.name → Dflts mg s₁.heap d.params kwd dV kV → mg d.name = some (.ref a) → s₁.gens = #[] →
    ∀ (args : List WData) (vals : List Value) (as : List Addr), r.claim.pre args = true → WData.layableAll args = true → ReadsAllW r.records (classAt s₀.heap) s₁.heap vals args as → WellAll w.params s₁.heap vals args → (∀ a ∈ as, (a == sysModules) = false) →
      wpP (model r.prog w) callerA (call (.ref a) vals) (fun v s' => GoodWG r.claim (classAt s₀.heap) (ExcName.means s₀.heap) args s₁ (.ok (.ret v)) s')
        (fun e s' => GoodWG r.claim (classAt s₀.heap) (ExcName.means s₀.heap) args s₁ (.error e) s') s₁
theorem PySem.W.holds_open {r : OpenRow} {q : Program} {loose : List Str} {Xt : Shared → Bool} {XP : (Str → Option Value) → Heap → Prop} {α : Type} {Yf : Shared → α} {Ya : World → α} {YP : World → Heap → Prop} {d : DefRec} {kwd : List (Str × Expr)} {N : Nat}
    (left : LeftO r.prog q loose Xt Yf Ya N) (hY : ∀ w s, Yf s = Ya w → YP w s.heap) (hYk : ∀ w h h', YP w h → (∀ b o, h.get? b = some o → h'.get? b = some o) → YP w h')
    (hX : ∀ s, Xt s = true → XP (s.heap.nsMap mainGlobals) s.heap) (hXk : ∀ mg h h', XP mg h → (∀ b o, h.get? b = some o → h'.get? b = some o) → XP mg h')
    (hdef : defOf q r.name = some (d, kwd)) (hp : r.prog.theDef r.name = some (d.params, d.body, d.scope)) (hk : kwWritten? d.params.kwonlyargs d.params.kw_defaults = some kwd) (hRf : ∀ s, Xt s = true → RecFacts r.records s.heap) (hwr : (!r.writes || r.records.isEmpty) = true)
    (k1 : r.wellSaid = true) (ok : (chainsOk q && opensWell r.prog && (frees r.toRowW && r.within.isEmpty)) = true) (hb : r.prog.bare) (hw : r.toRowW.promised)
    (call : WalkP q loose XP YP r.toRowW d kwd) : r.Holds := by
  obtain ⟨ok, k5⟩ := Bool.and_eq_true_iff.mp ok
  obtain ⟨hch, o1⟩ := Bool.and_eq_true_iff.mp ok
  obtain ⟨k5, k6⟩ := Bool.and_eq_true_iff.mp k5
  obtain ⟨hsame, hu, ha, hap, hm⟩ := frees_parts k5
  refine ⟨k1, hw, ⟨hb, o1, by show r.makers.map _ = []; rw [hm]; rfl⟩, hw.witness, fun w => ⟨(left.behind hX hch w).1, fun s' hs' => ?_⟩⟩
  obtain ⟨s₀, hf, hg0, s, hT, hz, hgens, hg, G00, y⟩ := (left.behind (XP := fun mg h => XP mg h ∧ RecFacts r.records h) (fun s hs => ⟨hX s hs, hRf s hs⟩) hch w).2 s' hs'
  have G0 : Ground q loose [] XP w s (s.heap.nsMap mainGlobals) (s.heap.nsMap builtinsNs) s.heap := ⟨G00.T, G00.B, G00.D, G00.TE, G00.TD, G00.W, G00.X.1, G00.cls, G00.has, G00.apart, G00.once, G00.K⟩
  have RF := G00.X.2
  have pin : ∀ n ∈ (if r.pinned then [r.name] else []), isTheDefsW r.prog s.heap n := fun n hn => by
    obtain rfl : n = r.name := by split at hn <;> simp_all
    exact pinned_of_view hg G0 hdef hp hk
  refine ⟨s₀, hf, hg0, s, hT, pin, RF.1, RF.2.1, ?_⟩
  have hgens : s.gens = #[] := Array.eq_empty_of_size_eq_zero (beq_iff_eq.mp hgens)
  have G : Ground q loose r.records XP w s _ _ s.heap := RF.ground G0
  refine callFrom_P (c := r.toRowW.claim) hz hgens fun args hpre hlay ord hord => ?_
  obtain ⟨⟨vs, s₁⟩, hlaid⟩ := Option.isSome_iff_exists.mp (layAllW_isSome (P := w.params) (ord := ord) G.has args r.args s (pre_splitW hpre).1)
  have keeps := layAllW_keeps _ _ _ hlaid
  have hal := layAllW_rest _ _ _ hlaid
  obtain ⟨as, hrd, hin, hold⟩ := reads_layAllW hord _ _ _ hlaid hlay s₁.heap (fun _ _ e => e)
  have L : Laid r.records w s s₁ args vs as := ⟨⟨ord, hord, hlaid⟩, hrd, hin, hold, keeps, hal.1.trans hgens, hal.2.2.1⟩
  have G₁ := G.keeps hXk keeps
  have hi := ident_freeW hu ha hap
  have hwi : r.toRowW.claim.within = [] := List.isEmpty_iff.mp k6
  obtain ⟨a, o, pm, cd, doc, dV, kV, h1, h2, h3, h4, h5⟩ := G₁.fn hdef
  have h := call w s s₁ _ _ G₁ (hYk _ _ _ (hY w s y) keeps) a o pm cd doc dV kV h2 h3 h4 h5 (defOf_name hdef ▸ h1) L.gens args vs as hpre hlay L.reads L.well (L.low G.low)
  refine ⟨vs, s₁, hlaid, P_bindA (wpAny_nsGet G₁.T.g ?_)⟩
  rw [h1]
  refine P_bind (P_mono h (fun v s' g => P_pure ⟨_, rfl, ?_⟩) fun e s' g => ?_)
  · have z := g.laid (c := r.toRowW.claim) hsame hwi hi L
    exact ⟨z.1, z.2.1, z.2.2, fun q => ⟨namesKept_of hT hg _ keeps g.2.1.old, noTable hwr q⟩⟩
  · have z := g.laid (c := r.toRowW.claim) hsame hwi hi L
    exact ⟨z.1, z.2.1, z.2.2, fun q => ⟨namesKept_of hT hg _ keeps g.2.1.old, noTable hwr q⟩⟩
noncomputable def toBE : Nat → Nat → List UInt8
  | 0, _ => []
  | n + 1, x => toBE n (x / 256) ++ [UInt8.ofNat (x % 256)]
noncomputable def beI (l : List UInt8) : Nat := l.foldl (fun a b => a * 256 + b.toNat) 0
theorem u8lt (x : UInt8) : ((x.toNat : Nat) : Int) < 256 := by have := x.toNat_lt; walk_at "om"
theorem u8nat (x : UInt8) : (((x.toNat : Nat) : Int).toNat).toUInt8 = x := by
  rw [Int.toNat_natCast]; exact UInt8.ofNat_toNat
theorem toBE_length : ∀ n x, (toBE n x).length = n
  | 0, _ => rfl
  | n + 1, x => by rw [toBE, List.length_append, toBE_length n]; rfl
theorem toBE_low (n : Nat) : ∀ (x : Nat), x < 256 ^ n → (KTBy.low (x : Int) n).reverse = toBE n x := by
  intro x hx
  have h1 := KTBy.low_ints (x := (x : Int)) (n := n) (by walk_at "om") (by rw [KTBy.p256]; walk_at "om")
  have inj : ∀ {a b : List UInt8}, a.map (fun c => ((c.toNat : Nat) : Int)) = b.map (fun c => ((c.toNat : Nat) : Int)) → a = b := by
    intro a
    induction a with
    | nil => intro b h; cases b; rfl; simp at h
    | cons c r ih =>
      intro b h
      cases b with
      | nil => simp at h
      | cons c' r' =>
        simp only [List.map_cons, List.cons.injEq] at h
        rw [ih h.2]
        congr 1
        exact UInt8.toNat.inj (by walk_at "om")
  apply inj
  rw [List.map_reverse, h1]
  clear h1 hx inj
  induction n generalizing x with
  | zero => rfl
  | succ n ih =>
    rw [List.range_succ_eq_map, List.map_cons, List.map_map, List.reverse_cons, toBE, List.map_append, ← ih (x / 256)]
    congr 1
    · congr 1
      refine List.map_congr_left fun i _ => ?_
      show (x : Int) / 256 ^ (i + 1) % 256 = ((x / 256 : Nat) : Int) / 256 ^ i % 256
      rw [KTBy.p256, KTBy.p256]
      have : x / 256 ^ (i + 1) = x / 256 / 256 ^ i := by rw [Nat.pow_succ, Nat.mul_comm, Nat.div_div_eq_div_mul]
      rw [← Int.natCast_ediv, ← Int.natCast_ediv, this]
    · simp only [List.map_cons, List.map_nil, List.cons.injEq, and_true]
      rw [Int.pow_zero, Int.ediv_one]
      have : (UInt8.ofNat (x % 256)).toNat = x % 256 := by rw [UInt8.toNat_ofNat']; walk_at "om"
      rw [this]; walk_at "om"
section
variable {prog : Program} {w : World} {A : Around} {K : Frag} {H0 h : Heap} {fs : List (Nat × Map)} {H : PH} {n : Nat} {L : Nat} {m : Map} {g : Array GenState} {d : Drawn} {tk : Nat} {os : OsState}
  {E : Value → Shared → Prop} {P : Params}
theorem eqd {a b : Int} : (a == b) = decide (a = b) := by
  by_cases q : a = b <;> simp [q]
theorem ned {a b : Int} : (a != b) = decide (a ≠ b) := by
  by_cases q : a = b <;> simp [q]
section
variable {a b : Int} {t u : Tok} {Q : Value → Shared → Prop}
theorem r_and (q : ∀ t' tk', Q (.int (Builtin.bitAnd a b) t') ⟨h, g, d, tk', os⟩) : wpAny (model prog w) A (binaryOp .BitAnd (.int a t) (.int b u)) Q E ⟨h, g, d, tk, os⟩ := and_int (q _ _)
theorem r_or (q : ∀ t' tk', Q (.int (Builtin.bitOr a b) t') ⟨h, g, d, tk', os⟩) : wpAny (model prog w) A (binaryOp .BitOr (.int a t) (.int b u)) Q E ⟨h, g, d, tk, os⟩ := or_int (q _ _)
theorem r_xor (q : ∀ t' tk', Q (.int (Builtin.bitXor a b) t') ⟨h, g, d, tk', os⟩) : wpAny (model prog w) A (binaryOp .BitXor (.int a t) (.int b u)) Q E ⟨h, g, d, tk, os⟩ := xor_int (q _ _)
theorem r_ixor (q : ∀ t' tk', Q (.int (Builtin.bitXor a b) t') ⟨h, g, d, tk', os⟩) : wpAny (model prog w) A (inplaceOp .BitXor (.int a t) (.int b u)) Q E ⟨h, g, d, tk, os⟩ := ixor_int (q _ _)
theorem r_inv (q : ∀ t' tk', Q (.int (Builtin.bitNot a) t') ⟨h, g, d, tk', os⟩) : wpAny (model prog w) A (unaryOp .Invert (.int a t)) Q E ⟨h, g, d, tk, os⟩ := invert_int (q _ _)
theorem r_neg (q : ∀ t' tk', Q (.int (-a) t') ⟨h, g, d, tk', os⟩) : wpAny (model prog w) A (unaryOp .USub (.int a t)) Q E ⟨h, g, d, tk, os⟩ := PyProof.Rows.neg_int (q _ _)
theorem r_shl (h0 : 0 ≤ b) (h1 : b ≤ 1000000) (h2 : a.natAbs < 2 ^ 64) (q : ∀ t' tk', Q (.int (a * 2 ^ b.toNat) t') ⟨h, g, d, tk', os⟩) : wpAny (model prog w) A (binaryOp .LShift (.int a t) (.int b u)) Q E ⟨h, g, d, tk, os⟩ := lshift_int_small h0 h1 h2 (q _ _)
theorem r_pow (h0 : 0 ≤ b) (h1 : b ≤ 1000) (h2 : a.natAbs < 2 ^ 64) (q : ∀ t' tk', Q (.int (a ^ b.toNat) t') ⟨h, g, d, tk', os⟩) : wpAny (model prog w) A (binaryOp .Pow (.int a t) (.int b u)) Q E ⟨h, g, d, tk, os⟩ := by
  refine pow_int h0 ?_ (q _ _)
  have h3 : Builtin.Int.intBits a ≤ 64 := intBits_le_iff.mpr h2
  have h5 : ((Builtin.Int.intBits a : Nat) : Int) * b ≤ 64 * b := Int.mul_le_mul_of_nonneg_right (by walk_at "om") h0
  walk_at "om"
theorem r_eqi (q : Q (.bool (decide (a = b))) ⟨h, g, d, tk, os⟩) : wpAny (model prog w) A (compareOp .Eq (.int a t) (.int b u)) Q E ⟨h, g, d, tk, os⟩ := PyProof.Rows.eq_int (by rw [eqd]; exact q)
theorem r_nei (q : Q (.bool (decide (a ≠ b))) ⟨h, g, d, tk, os⟩) : wpAny (model prog w) A (compareOp .NotEq (.int a t) (.int b u)) Q E ⟨h, g, d, tk, os⟩ := PyProof.Rows.ne_int (by rw [ned]; exact q)
theorem r_gt (q : Q (.bool (decide (b < a))) ⟨h, g, d, tk, os⟩) : wpAny (model prog w) A (compareOp .Gt (.int a t) (.int b u)) Q E ⟨h, g, d, tk, os⟩ := PyProof.Rows.gt_int q
theorem r_le (q : Q (.bool (decide (a ≤ b))) ⟨h, g, d, tk, os⟩) : wpAny (model prog w) A (compareOp .LtE (.int a t) (.int b u)) Q E ⟨h, g, d, tk, os⟩ := PyProof.Rows.le_int q
theorem r_ge (q : Q (.bool (decide (b ≤ a))) ⟨h, g, d, tk, os⟩) : wpAny (model prog w) A (compareOp .GtE (.int a t) (.int b u)) Q E ⟨h, g, d, tk, os⟩ := PyProof.Rows.ge_int q
theorem r_truthy_int {Q : Bool → Shared → Prop} (q : Q (decide (a ≠ 0)) ⟨h, g, d, tk, os⟩) : wpAny (model prog w) A (truthy (.int a t)) Q E ⟨h, g, d, tk, os⟩ := PyProof.Rows.truthy_int (by rw [ned]; exact q)
theorem r_boolint (q : Q (.bool (decide (a ≠ 0))) ⟨h, g, d, tk, os⟩) : wpAny (model prog w) A (call (.type "bool") [.int a t]) Q E ⟨h, g, d, tk, os⟩ := call_bool_int (by rw [ned]; exact q)
theorem r_intbool {c : Bool} (q : ∀ t' tk', Q (.int (if c then 1 else 0) t') ⟨h, g, d, tk', os⟩) : wpAny (model prog w) A (call (.type "int") [.bool c]) Q E ⟨h, g, d, tk, os⟩ := call_int_bool (q _ _)
theorem r_max (hh : A.handled = none) (R : RC P H0 fs H n h) (q : ∀ h' t' tk', RC P H0 fs H n h' → Q (.int (max a b) t') ⟨h', g, d, tk', os⟩) :
    wpAny (model prog w) A (call (.builtin "max") [.int a t, .int b u]) Q E ⟨h, g, d, tk, os⟩ := by
  refine with_size (max_two_ints hh fun h' tk' hk => ?_)
  have e : (if b > a then Value.int b u else Value.int a t) = .int (max a b) (if b > a then u else t) := by
    by_cases c : b > a
    · rw [if_pos c, if_pos c]; congr 1; walk_at "om"
    · rw [if_neg c, if_neg c]; congr 1; walk_at "om"
  rw [e]
  exact fun hs => q _ _ _ (R.kept hk hs)
end
theorem r_newlist {vs : List Value} {Q : Value → Shared → Prop} (R : RC P H0 fs H n h) (hz : H0.objs.size ≤ n) (hs : vs.length ≤ 1000000)
    (q : ∀ (a : Nat) h', n ≤ a → RC P H0 fs (H.set a (.lst vs)) (a + 1) h' → Q (.ref a) ⟨h', g, d, tk, os⟩) : wpAny (model prog w) A (newList vs) Q E ⟨h, g, d, tk, os⟩ :=
  wpAny_newList (q _ _ R.sz (R.push (x := .lst vs) ⟨_, rfl⟩ rfl (Nat.le_trans hz R.sz))) (by rw [sizeLine_eq]; walk_at "om")
theorem r_newtuple {vs : List Value} {Q : Value → Shared → Prop} (R : RC P H0 fs H n h) (hz : H0.objs.size ≤ n) (hs : vs.length ≤ 1000000)
    (q : ∀ (a : Nat) h', n ≤ a → RC P H0 fs (H.set a (.tup vs)) (a + 1) h' → Q (.ref a) ⟨h', g, d, tk, os⟩) : wpAny (model prog w) A (newTuple vs) Q E ⟨h, g, d, tk, os⟩ :=
  wpAny_newTuple (q _ _ R.sz (R.push (x := .tup vs) ⟨_, rfl⟩ rfl (Nat.le_trans hz R.sz))) (by rw [sizeLine_eq]; walk_at "om")
theorem r_truthy_list {l : Nat} {vs : List Value} {Q : Bool → Shared → Prop} (R : RC P H0 fs H n h) (e : H l = some (.lst vs)) (hs : vs.length < 2 ^ 62)
    (q : ∀ tk', Q (!vs.isEmpty) ⟨h, g, d, tk', os⟩) : wpAny (model prog w) A (truthy (.ref l)) Q E ⟨h, g, d, tk, os⟩ :=
  wpAny_truthy_list (R.list e) (by simp; walk_at "om") (by have := q (tk + 1 + 1); simpa using this)
theorem r_in_ints {l : Nat} {vs : List Value} {ns : List Int} {k : Int} {t : Tok} {Q : Value → Shared → Prop} (R : RC P H0 fs H n h) (e : H l = some (.lst vs)) (hi : IntsAre vs ns)
    (q : Q (.bool (ns.any (· == k))) ⟨h, g, d, tk, os⟩) : wpAny (model prog w) A (compareOp .In (.int k t) (.ref l)) Q E ⟨h, g, d, tk, os⟩ := in_list_ints (R.list e) hi q
section
variable {x y : List UInt8} {t u : Tok} {Q : Value → Shared → Prop}
theorem r_to_bytes_m {a : Int} {pl : Sem Bool} {Q : Value × List Value → Shared → Prop} (q : Q (.builtin "int.to_bytes", [.int a t]) ⟨h, g, d, tk, os⟩) :
    wpAny (model prog w) A (getMethod (.int a t) (PySem.Str.ofString "to_bytes") pl) Q E ⟨h, g, d, tk, os⟩ := KTBy.method q
theorem r_to_bytes {a k : Int} {v : Tok} (h0 : 0 ≤ a) (h1 : a.toNat < 256 ^ k.toNat) (hk0 : 0 ≤ k) (hk : k ≤ 100000) (q : ∀ t' tk', Q (.bytes (toBE k.toNat a.toNat).toArray t') ⟨h, g, d, tk', os⟩) :
    wpAny (model prog w) A (call (.builtin "int.to_bytes") [.int a t, .int k u, .str (PySem.Str.ofString "big") v]) Q E ⟨h, g, d, tk, os⟩ := by
  obtain ⟨x, rfl⟩ := Int.eq_ofNat_of_zero_le h0
  obtain ⟨k, rfl⟩ := Int.eq_ofNat_of_zero_le hk0
  simp only [Int.toNat_natCast] at h1 q
  have hlow := toBE_low k x h1
  have hll := KTBy.low_length (x : Int) k
  have hlow' : List.reverse (KTBy.low (x : Int) (Int.toNat (k : Int))) = toBE k x := by rw [Int.toNat_natCast]; exact hlow
  refine wpAny_call_entry KTBy.slot (typeIs_int _ _ _) KTBy.entry ?_ (KTBy.args _ _ _)
  have hb := KTBy.bits_le (x := (x : Int)) (k := k) rfl (by walk_at "om") (by rw [KTBy.p256]; walk_at "om")
  show wpAny _ _ (Builtin.Int.intOfSelf (.int (x : Int) t) >>= fun y => _) _ _ _
  refine wpAny_bind (wpAny_of_eq (a := (x : Int)) rfl ?_)
  show wpAny _ _ (Builtin.Int.intBindNamed "to_bytes" ["length", "byteorder", "signed"] 0 2 [.int (k : Int) u, .str (PySem.Str.ofString "big") v] [] >>= fun l => _) _ _ _
  refine wpAny_bind (wpAny_of_eq (a := [some (.int (k : Int) u), some (.str (PySem.Str.ofString "big") v), none]) (by kernel_rfl) ?_)
  show wpAny _ _ (Builtin.Int.intIndex "int.to_bytes" (.int (k : Int) u) >>= fun n => _) _ _ _
  refine wpAny_bind (wpAny_of_eq (a := (k : Int)) rfl ?_)
  refine KTBy.if_not (by show (decide ((k : Int) < -(2 ^ 63 : Int)) || decide ((k : Int) ≥ 2 ^ 63)) = false; rw [decide_eq_false (show ¬ ((k : Int) < -(2 ^ 63 : Int)) by walk_at "om"), decide_eq_false (show ¬ ((k : Int) ≥ 2 ^ 63) by walk_at "om")]; rfl) ?_
  refine wpAny_bind (wpAny_of_eq (a := PySem.Str.ofString "big") (by kernel_rfl) ?_)
  refine wpAny_bind (wpAny_of_eq (a := false) rfl ?_)
  refine wpAny_bind (wpAny_of_eq (a := false) (by kernel_rfl) ?_)
  refine wpAny_ite_false (decide_eq_false (show ¬ ((k : Int) < 0) by walk_at "om")) ?_
  refine wpAny_ite_false (decide_eq_false (show ¬ ((k : Int) > 2 ^ 63 - 1 - 33) by walk_at "om")) ?_
  refine wpAny_ite_false (decide_eq_false (show ¬ ((k : Int) > (sizeLine : Int)) by rw [sizeLine_eq]; walk_at "om")) ?_
  refine KTBy.if_not (by show (decide ((x : Int) < 0) && !false) = false; rw [decide_eq_false (show ¬ (x : Int) < 0 by walk_at "om")]; rfl) ?_
  refine KTBy.if_not (by show (_ && decide ((Builtin.Int.intBits (x : Int) : Int) > 8 * (k : Int))) = false; rw [decide_eq_false (show ¬ ((Builtin.Int.intBits (x : Int) : Int) > 8 * (k : Int)) by walk_at "om"), Bool.and_false]) ?_
  refine wpAny_bind (wpAny_mkBytes (wpAny_pure ⟨_, rfl, ?_⟩) ?_)
  · show Q (.bytes (List.toArray (List.reverse (KTBy.low (x : Int) (Int.toNat (k : Int))))) _) _
    rw [hlow']
    exact q _ _
  · show (List.reverse (KTBy.low (x : Int) (Int.toNat (k : Int)))).length ≤ sizeLine
    rw [hlow', toBE_length, sizeLine_eq]; walk_at "om"
theorem picked_lo {i : Int} (h0 : 0 ≤ i) : (KBy.picked x.toArray (some i) none) = (x.drop i.toNat).toArray := by
  obtain ⟨k, rfl⟩ := Int.eq_ofNat_of_zero_le h0
  rw [KBc.picked_eq]
  congr 1
  simp only [Option.elim, List.size_toArray]
  rw [clipAt_nat]
  by_cases c : k ≤ x.length
  · rw [Nat.min_eq_left c, Int.toNat_natCast]; exact List.take_of_length_le (by simp)
  · have a1 : x.drop (min k x.length) = [] := by rw [List.drop_eq_nil_iff]; walk_at "om"
    have a2 : x.drop k = [] := by rw [List.drop_eq_nil_iff]; walk_at "om"
    rw [a1, Int.toNat_natCast, a2, List.take_nil]
theorem picked_hi {i : Int} (h0 : 0 ≤ i) : (KBy.picked x.toArray none (some i)) = (x.take i.toNat).toArray := by
  obtain ⟨k, rfl⟩ := Int.eq_ofNat_of_zero_le h0
  rw [KBc.picked_eq]
  congr 1
  simp only [Option.elim, List.size_toArray, List.drop_zero, Nat.sub_zero]
  rw [clipAt_nat, Int.toNat_natCast]
  by_cases c : k ≤ x.length
  · rw [Nat.min_eq_left c]
  · rw [Nat.min_eq_right (by walk_at "om"), List.take_of_length_le (by simp), List.take_of_length_le (by walk_at "om")]
theorem picked_both {i j : Int} (h0 : 0 ≤ i) (h1 : 0 ≤ j) : (KBy.picked x.toArray (some i) (some j)) = ((x.take j.toNat).drop i.toNat).toArray := by
  obtain ⟨k, rfl⟩ := Int.eq_ofNat_of_zero_le h0
  obtain ⟨l, rfl⟩ := Int.eq_ofNat_of_zero_le h1
  rw [KBc.picked_eq]
  congr 1
  simp only [Option.elim, List.size_toArray]
  rw [clipAt_nat, clipAt_nat, Int.toNat_natCast, Int.toNat_natCast, List.drop_take]
  by_cases c : k ≤ x.length
  · rw [Nat.min_eq_left c]
    by_cases c2 : l ≤ x.length
    · rw [Nat.min_eq_left c2]
    · rw [Nat.min_eq_right (by walk_at "om"), List.take_of_length_le (by simp), List.take_of_length_le (by simp; walk_at "om")]
  · have a1 : x.drop (min k x.length) = [] := by rw [List.drop_eq_nil_iff]; walk_at "om"
    have a2 : x.drop k = [] := by rw [List.drop_eq_nil_iff]; walk_at "om"
    rw [a1, a2]; simp
theorem r_bslice {value slice : Expr} {l v : Value} {lo hi : Option Int} (R : RC P H0 fs H n h) (hl : IsPart l lo) (hu : IsPart v hi) (hz : x.length ≤ 1000000)
    (q : ∀ h' t' tk', RC P H0 fs H n h' → Q (.bytes (KBy.picked x.toArray lo hi) t') ⟨h', g, d, tk', os⟩)
    (hs : ∀ a, subscripted slice false (.bytes x.toArray t) (.ref a) = operate [.ref a, .bytes x.toArray t] (getItem (.bytes x.toArray t) (.ref a))) (ht : ∀ r, letTemporaryGo value (.bytes x.toArray t) r = pure ()) :
    wpAny (model prog w) A (subscriptTail value slice (.bytes x.toArray t) (.ref h.objs.size)) Q E ⟨h.push { cls := .type "slice", data := .fields #[l, v, .none] }, g, d, tk, os⟩ :=
  tail_of_ItemOn ⟨"bytes", _, FB.slot_bytes_getitem.lookup, typeIs_bytes _ _ _, getItem_meets (typeIs_bytes _ _ _) (by decide) FB.slot_bytes_getitem FB.entry_bytes_getitem (FB.args_bytes_getitem_2 _ _) (KBc.meets_slice2 _ t _ hl hu)
    ⟨Heap.IsSliceOf.new _ _ _ _, Nat.le_trans (KBc.size_picked_le _ lo hi) (by rw [sizeLine_eq]; simp; walk_at "om"), fun t' k => q _ _ _ R.pushed⟩⟩ (hs _) ht
end
end
section
variable {prog : Program} {w : World} {A : Around} {K : Frag} {H0 h : Heap} {fs : List (Nat × Map)} {H : PH} {n : Nat} {L : Nat} {m : Map} {g : Array GenState} {d : Drawn} {tk : Nat} {os : OsState}
  {E : Value → Shared → Prop} {P : Params}
theorem r_fb_m {pl : Sem Bool} {Q : Value × List Value → Shared → Prop} (R : RC P H0 fs H n h) (G : Gd K H0) (hz : H0.objs.size ≤ n)
    (e : findCls K (.type "int") (.type "type") (PySem.Str.ofString "from_bytes") = some (.get (.builtin "classmethod_descriptor.__get__") (.builtin "int.from_bytes") .none (.type "int")))
    (q : ∀ (a : Nat) h', n ≤ a → RC P H0 fs (H.set a (.raw KFB.bound)) (a + 1) h' → Q (.ref a, []) ⟨h', g, d, tk + 1, os⟩) :
    wpAny (model prog w) A (getMethod (.type "int") (PySem.Str.ofString "from_bytes") pl) Q E ⟨h, g, d, tk, os⟩ := by
  have X := G.at R
  have hstub : opaqueClassAbove (.type "int") = pure none := by unfold opaqueClassAbove; dsimp only; rw [show Manifest.isStub "int" = false by decide +kernel]; rfl
  have ht : typeOf (.type "int") = pure (.type "type") := by first | rfl | kernel_rfl
  have L0 : Looks (model prog w) h (typeOf (.type "int")) (.type "type") := Looks.of_pure ht
  have hg : findIn K (.type "type") "__getattribute__" = some (some (.builtin "type.__getattribute__")) := type_tga
  unfold getMethod specialOf
  refine wpAny_bind (wpAny_bind (L0.here ((looks_findIn X hg).here ?_)))
  dsimp only
  rw [if_pos canon_tga]
  refine wpAny_bind (wpAny_mono (Q := fun v => Q (v, [])) (E := E) ?_ (fun _ _ z => wpAny_pure z) fun _ _ z => z)
  have LO : Looks (model prog w) h (opaqueClassAbove (.type "int")) none := Looks.of_pure hstub
  refine cls_open (s := ⟨h, g, d, tk, os⟩) X LO L0 hg (looks_hook X (r := none) (by rfl)) (by show subIn K _ _ = _; rfl) e ?_
  show wpAny _ _ (holding [.builtin "int.from_bytes"] (call (.builtin "classmethod_descriptor.__get__") [.builtin "int.from_bytes", .none, .type "int"]) >>= fun v => ret v) _ _ _
  exact wpAny_bind (wpAny_holding (wpAny_call_entry KFB.slot_get KFB.type_fb KFB.entry_get (KFB.run_get ⟨_, rfl, wpAny_pure (wpAny_pure (q _ _ R.sz (R.push (x := .raw KFB.bound) rfl rfl (Nat.le_trans hz R.sz))))⟩) (KFB.args_get _ _ _)))
theorem r_fb_stands {a : Nat} (R : RC P H0 fs H n h) (e : H a = some (.raw KFB.bound)) : KFB.StandsAt a h := by
  obtain ⟨o, ho, rfl⟩ := R.obj e; exact ho
theorem beI_lt (l : List UInt8) : beI l < 256 ^ l.length := by
  have := KFB.fold_lt l 0
  simpa [beI] using this
theorem grown' {M : Model} {s : Shared} {n N : Nat} {Q : Value → Shared → Prop} (hN : N ≤ 10000) (hn : n < 256 ^ N) (h : Q (.int (n : Int) s.toks) { s with toks := s.toks + 1 }) : wpAny M A (mkIntGrown (n : Int)) Q E s := by
  unfold mkIntGrown
  have hl : ¬ ((n : Int).natAbs.log2 ≥ bitsLine) := by
    rw [Int.natAbs_natCast]
    have hb : bitsLine = 134217728 := by first | rfl | decide
    by_cases hz : n = 0
    · subst hz
      rw [hb]
      decide
    · have e : 256 ^ N = 2 ^ (8 * N) := by rw [Nat.pow_mul]
      have h1 := (Nat.log2_lt hz).mpr (Nat.lt_of_lt_of_eq hn e)
      walk_at "om"
  rw [if_neg hl]
  exact wpAny_mkInt h
theorem fb_tree {M : Model} {s : Shared} {b : List UInt8} {t u : Tok} {P : Fin → Shared → Prop} (hl : b.length ≤ 10000) (h : P (.done (.ret (.int (beI b : Nat) s.toks))) { s with toks := s.toks + 1 }) :
    wpAny M A (Builtin.«int.from_bytes» ⟨[.type "int", .bytes b.toArray t, .str (PySem.Str.ofString "big") u], []⟩) P E s := by
  have hn : beI b < 256 ^ b.length := beI_lt b
  unfold Builtin.«int.from_bytes»
  refine wpAny_bind (wpAny_of_eq (a := true) KFB.type_int ?_)
  refine KFB.if_not rfl ?_
  refine wpAny_bind (wpAny_of_eq (a := true) F.conv_sub_int ?_)
  refine KFB.if_not rfl ?_
  refine wpAny_bind (wpAny_of_eq (a := [some (.bytes b.toArray t), some (.str (PySem.Str.ofString "big") u), none]) (by kernel_rfl) ?_)
  refine wpAny_bind (wpAny_of_eq (a := PySem.Str.ofString "big") (by kernel_rfl) ?_)
  refine wpAny_bind (wpAny_of_eq (a := false) rfl ?_)
  refine wpAny_bind (wpAny_of_eq (a := false) (by kernel_rfl) ?_)
  refine wpAny_bind (wpAny_of_eq (a := b.toArray) rfl ?_)
  show wpAny _ _ (mkIntGrown (b.toArray.toList.foldl (fun (acc : Int) (b : UInt8) => acc * 256 + (b.toNat : Int)) ((0 : Nat) : Int)) >>= fun v => _) _ _ _
  rw [KFB.foldI_eq]
  refine wpAny_bind (grown' hl hn ?_)
  refine KFB.if_so (by decide +kernel) ?_
  exact wpAny_bind (wpAny_pure (wpAny_pure h))
theorem r_fb {a : Nat} {b : List UInt8} {t u : Tok} {Q : Value → Shared → Prop} (R : RC P H0 fs H n h) (e : H a = some (.raw KFB.bound)) (hl : b.length ≤ 10000)
    (q : ∀ t' tk', Q (.int (beI b : Nat) t') ⟨h, g, d, tk', os⟩) : wpAny (model prog w) A (call (.ref a) [.bytes b.toArray t, .str (PySem.Str.ofString "big") u]) Q E ⟨h, g, d, tk, os⟩ :=
  KFB.call_of (s := ⟨h, g, d, tk, os⟩) (r_fb_stands R e) (fun z => fb_tree hl z) (q _ _)
theorem r_bytes_ints {l : Nat} {vs : List Value} {ns : List Int} {Q : Value → Shared → Prop} (R : RC P H0 fs H n h) (hh : A.handled = none) (e : H l = some (.lst vs)) (hi : IntsAre vs ns) (hr : ∀ k ∈ ns, 0 ≤ k ∧ k < 256) (hs : ns.length ≤ 100000)
    (q : ∀ h' t tk', RC P H0 fs H n h' → Q (.bytes (ns.map fun k => k.toNat.toUInt8).toArray t) ⟨h', g, d, tk', os⟩) : wpAny (model prog w) A (call (.type "bytes") [.ref l]) Q E ⟨h, g, d, tk, os⟩ := by
  refine with_size (call_bytes_ints (R.list e) hi hr (by rw [hi.length, sizeLine_eq]; walk_at "om") hh fun h' t k hk => ?_)
  exact fun hs => q _ _ _ (R.kept hk hs)
theorem fits_of {i : Int} (h0 : 0 ≤ i) (h1 : i < 2 ^ 62) : Builtin.Bytes.fitsIndex i = true := by
  unfold Builtin.Bytes.fitsIndex
  rw [decide_eq_true (show -(2 ^ 63 : Int) ≤ i by walk_at "om"), decide_eq_true (show i < 2 ^ 63 by walk_at "om")]; rfl
end
inductive D where
  | b (x : List UInt8)
  | i (x : Int)
  | s (x : Str)
  | none
  | bool (x : Bool)
  deriving DecidableEq
inductive DIs : Value → D → Prop
  | b (x : List UInt8) (t : Tok) : DIs (.bytes x.toArray t) (.b x)
  | i (x : Int) (t : Tok) : DIs (.int x t) (.i x)
inductive DAre : List Value → List D → Prop
  | nil : DAre [] []
  | cons {v d vs ds} : DIs v d → DAre vs ds → DAre (v :: vs) (d :: ds)
inductive BytesAre : List Value → List (List UInt8) → Prop
  | nil : BytesAre [] []
  | cons (x : List UInt8) (t : Tok) {vs xs} : BytesAre vs xs → BytesAre (.bytes x.toArray t :: vs) (x :: xs)
section
variable {prog : Program} {w : World} {A : Around} {E : Value → Shared → Prop} {s : Shared}
theorem eqBool_bytes {x y : Array UInt8} {t u : Tok} {Q : Bool → Shared → Prop} (h : Q (x.toList == y.toList) s) : wpAny (model prog w) A (eqBool (.bytes x t) (.bytes y u)) Q E s := by
  unfold eqBool
  show wpAny _ _ (if (Value.bytes x t == Value.bytes y u) = true then _ else _) Q E s
  by_cases hab : (Value.bytes x t == Value.bytes y u) = true
  · rw [if_pos hab]
    have e : x = y := by have := eq_of_beq hab; injection this
    subst e
    exact wpAny_bind (wpAny_rule (wpAny_pure (by simpa using h)))
  · rw [if_neg hab]
    exact wpAny_bind (eq_bytes (wpAny_truthy_bool h))
theorem eqG_bytes (x y : List UInt8) (t u : Tok) : MeetsSeq.EqGives (.bytes x.toArray t) (.bytes y.toArray u) (x == y) := fun _ _ _ _ _ _ h => eqBool_bytes (by simpa using h)
noncomputable def dEq : Value → Value → Bool
  | .bytes x _, .bytes y _ => x.toList == y.toList
  | .int x _, .int y _ => x == y
  | _, _ => false
end
section
variable {prog : Program} {w : World} {A : Around} {K : Frag} {H0 h : Heap} {fs : List (Nat × Map)} {H : PH} {n : Nat} {L : Nat} {m : Map} {g : Array GenState} {d : Drawn} {tk : Nat} {os : OsState}
  {E : Value → Shared → Prop} {P : Params}
noncomputable def isB (k : List UInt8) : Value → Bool
  | .bytes b _ => b.toList == k
  | _ => false
theorem isB_any (k : List UInt8) : ∀ {vs : List Value} {xs : List (List UInt8)}, BytesAre vs xs → vs.any (isB k) = xs.any (· == k)
  | _, _, .nil => rfl
  | _, _, .cons x t r => by rw [List.any_cons, List.any_cons, isB_any k r]; rfl
theorem isB_eq (k : List UInt8) (t : Tok) : ∀ {vs : List Value} {xs : List (List UInt8)}, BytesAre vs xs → ∀ y, y ∈ vs → MeetsSeq.EqGives y (.bytes k.toArray t) (isB k y)
  | _, _, .nil => fun y hy => nomatch hy
  | _, _, .cons x u r => fun y hy => by
    rcases List.mem_cons.mp hy with rfl | hy
    · exact eqG_bytes x k u t
    · exact isB_eq k t r y hy
theorem RC.tupO (R : RC P H0 fs H n h) {a : Nat} {vs : List Value} (e : H a = some (.tup vs)) : ∃ k, h.get? a = some { cls := .type "tuple", data := .seq vs.toArray k } := by
  obtain ⟨o, ho, k, rfl⟩ := R.obj e; exact ⟨k, ho⟩
theorem r_notin_btup {a : Nat} {vs : List Value} {xs : List (List UInt8)} {k : List UInt8} {t : Tok} {Q : Value → Shared → Prop} (R : RC P H0 fs H n h) (e : H a = some (.tup vs)) (hi : BytesAre vs xs)
    (q : Q (.bool (!(xs.any (· == k)))) ⟨h, g, d, tk, os⟩) : wpAny (model prog w) A (compareOp .NotIn (.bytes k.toArray t) (.ref a)) Q E ⟨h, g, d, tk, os⟩ := by
  obtain ⟨kk, ho⟩ := R.tupO e
  exact SeqRoads2.notIn_tuple (isB k) (fun y hy => isB_eq k t hi y (by simpa using hy)) ho (by rw [← Array.any_toList]; show Q (.bool (!(vs.any (isB k)))) _; rw [isB_any k hi]; exact q)
inductive Kin : List D → List D → Prop
  | nil : Kin [] []
  | b (x y : List UInt8) {ds es} : Kin ds es → Kin (.b x :: ds) (.b y :: es)
  | i (x y : Int) {ds es} : Kin ds es → Kin (.i x :: ds) (.i y :: es)
theorem dEq_all {x y : D} {vs us : List Value} {v u : Value} {ds es : List D} (e : dEq v u = decide (x = y)) (h3 : (List.range vs.length).all (fun j => dEq (vs.getD j .none) (us.getD j .none)) = decide (ds = es)) :
    (List.range (v :: vs).length).all (fun j => dEq ((v :: vs).getD j .none) ((u :: us).getD j .none)) = decide (x :: ds = y :: es) := by
  rw [List.length_cons, List.range_succ_eq_map, List.all_cons, List.all_map]
  show (dEq v u && List.all (List.range vs.length) (fun j => dEq (vs.getD j .none) (us.getD j .none))) = _
  rw [h3, e]
  by_cases c : x = y
  · subst c; simp
  · simp [c]
theorem eqG_all {vs us : List Value} {v u : Value} (e : MeetsSeq.EqGives v u (dEq v u)) (h : ∀ j (h1 : j < vs.length) (h2 : j < us.length), MeetsSeq.EqGives vs[j] us[j] (dEq vs[j] us[j])) :
    ∀ j (h1 : j < (v :: vs).length) (h2 : j < (u :: us).length), MeetsSeq.EqGives (v :: vs)[j] (u :: us)[j] (dEq (v :: vs)[j] (u :: us)[j])
  | 0, _, _ => e
  | j + 1, j1, j2 => h j (Nat.lt_of_succ_lt_succ j1) (Nat.lt_of_succ_lt_succ j2)
theorem Kin.all {ds es : List D} (k : Kin ds es) : ∀ {vs us : List Value}, DAre vs ds → DAre us es →
    vs.length = us.length ∧ (∀ j (h1 : j < vs.length) (h2 : j < us.length), MeetsSeq.EqGives vs[j] us[j] (dEq vs[j] us[j])) ∧
    ((List.range vs.length).all (fun j => dEq (vs.getD j .none) (us.getD j .none)) = decide (ds = es)) := by
  induction k with
  | nil =>
    intro vs us p q
    cases p; cases q
    exact ⟨rfl, fun j h1 => absurd h1 (Nat.not_lt_zero _), rfl⟩
  | b x y r ih =>
    intro vs us p q
    cases p with | cons a p =>
    cases q with | cons a' q =>
    cases a; cases a'
    obtain ⟨h1, h2, h3⟩ := ih p q
    exact ⟨congrArg Nat.succ h1, eqG_all (eqG_bytes x y _ _) h2, dEq_all (by show (x == y) = _; by_cases c : x = y <;> simp [c]) h3⟩
  | i x y r ih =>
    intro vs us p q
    cases p with | cons a p =>
    cases q with | cons a' q =>
    cases a; cases a'
    obtain ⟨h1, h2, h3⟩ := ih p q
    exact ⟨congrArg Nat.succ h1, eqG_all (MeetsSeq.EqGives.int x y _ _) h2, dEq_all (by show (x == y) = _; by_cases c : x = y <;> simp [c]) h3⟩
end
section
variable {prog : Program} {w : World} {A : Around} {K : Frag} {H0 h : Heap} {fs : List (Nat × Map)} {H : PH} {n : Nat} {L : Nat} {m : Map} {g : Array GenState} {d : Drawn} {tk : Nat} {os : OsState}
  {E : Value → Shared → Prop} {P : Params}
theorem of_rcne' {s : Shared} {x y : Value} {b : Bool} {Q : Value → Shared → Prop} (hr : SeqAt.RcNeAt A s x y b) (q : Q (.bool b) s) : wpAny (model prog w) A (compareOp .NotEq x y) Q E s := hr prog w E Q q
theorem r_ne_tup {a b : Nat} {vs us : List Value} {ds es : List D} {Q : Value → Shared → Prop} {k : Nat} (R : RC P H0 fs H n h) (O : Ok A k) (e : H a = some (.tup vs)) (e' : H b = some (.tup us)) (hv : DAre vs ds) (hu : DAre us es) (hk : Kin ds es)
    (q : Q (.bool (decide (ds ≠ es))) ⟨h, g, d, tk, os⟩) : wpAny (model prog w) A (compareOp .NotEq (.ref a) (.ref b)) Q E ⟨h, g, d, tk, os⟩ := by
  obtain ⟨k1, ho1⟩ := R.tupO e
  obtain ⟨k2, ho2⟩ := R.tupO e'
  obtain ⟨h1, h2, h3⟩ := hk.all hv hu
  have t1 : h.IsTuple a vs.toArray := ⟨_, ho1, rfl, _, rfl⟩
  have t2 : h.IsTuple b us.toArray := ⟨_, ho2, rfl, _, rfl⟩
  refine of_rcne' (SeqAt.RcNeAt.tuples (s := ⟨h, g, d, tk, os⟩) (e := fun j => dEq (vs.getD j .none) (us.getD j .none)) t1 t2 (by have := O.un; show _ < 9900; walk_at "om") (fun j j1 j2 => ?_)) ?_
  · have j1' : j < vs.length := by simpa using j1
    have j2' : j < us.length := by simpa using j2
    have e1 : dEq (vs.getD j .none) (us.getD j .none) = dEq vs[j] us[j] := by simp [List.getD, j1', j2']
    rw [e1]
    exact (h2 j j1' j2').at _ _
  · have : (!(List.all (List.range (min vs.toArray.size us.toArray.size)) (fun j => dEq (vs.getD j .none) (us.getD j .none)) && vs.toArray.size == us.toArray.size)) = decide (ds ≠ es) := by
      simp only [List.size_toArray, ← h1, Nat.min_self]
      rw [h3]; simp
    rw [this]; exact q
theorem r_addlist {a b : Nat} {vs us : List Value} {Q : Value → Shared → Prop} (R : RC P H0 fs H n h) (hz : H0.objs.size ≤ n) (e : H a = some (.lst vs)) (e' : H b = some (.lst us)) (hs : vs.length + us.length ≤ 1000000)
    (q : ∀ (c : Nat) h', n ≤ c → RC P H0 fs (H.set c (.lst (vs ++ us))) (c + 1) h' → Q (.ref c) ⟨h', g, d, tk, os⟩) : wpAny (model prog w) A (binaryOp .Add (.ref a) (.ref b)) Q E ⟨h, g, d, tk, os⟩ := by
  obtain ⟨o1, ho1, k1, rfl⟩ := R.obj e
  obtain ⟨o2, ho2, k2, rfl⟩ := R.obj e'
  refine PySem.P.add_list (items := vs.toArray) (items2 := us.toArray) (n := k1) (n2 := k2) ho1 ho2 ?_ (by rw [sizeLine_eq]; simp; walk_at "om")
  exact q _ _ R.sz (R.push (x := .lst (vs ++ us)) ⟨0, by simp⟩ rfl (Nat.le_trans hz R.sz))
theorem r_item_neg {value slice : Expr} {l : Nat} {vs : List Value} {i : Int} {u : Tok} {v : Value} {Q : Value → Shared → Prop} (R : RC P H0 fs H n h) (e : H l = some (.lst vs))
    (h0 : i < 0) (h1 : -(vs.length : Int) ≤ i) (hf : vs.length < 2 ^ 62) (hx : vs[(i + vs.length).toNat]? = some v) (q : Q v ⟨h, g, d, tk, os⟩)
    (hs : subscripted slice false (.ref l) (.int i u) = operate [.ref l, .int i u] (getItem (.ref l) (.int i u)) := by with_unfolding_all rfl) :
    wpAny (model prog w) A (subscriptTail value slice (.ref l) (.int i u)) Q E ⟨h, g, d, tk, os⟩ :=
  tail_any (R.list e).typeIs slot_list_getitem.lookup (wpAny_getItem_list_neg (R.list e) h0 (by simpa using h1) (by walk_at "om") (by simpa using hx) q) hs
theorem r_lslice {value slice : Expr} {l : Addr} {vs : List Value} {i : Int} {t : Tok} {Q : Value → Shared → Prop} (R : RC P H0 fs H n h) (hz' : H0.objs.size ≤ n) (e : h.IsList l vs.toArray) (hz : vs.length ≤ 1000000) (h0 : 0 ≤ i)
    (q : ∀ (b : Nat) h', n ≤ b → RC P H0 fs (H.set b (.lst (vs.take i.toNat))) (b + 1) h' → Q (.ref b) ⟨h', g, d, tk, os⟩)
    (hs : ∀ b : Addr, subscripted slice false (.ref l) (.ref b) = operate [.ref b, .ref l] (getItem (.ref l) (.ref b)) := by intro b; with_unfolding_all rfl) :
    wpAny (model prog w) A (subscriptTail value slice (.ref l) (.ref h.objs.size)) Q E ⟨h.push { cls := .type "slice", data := .fields #[.none, .int i t, .none] }, g, d, tk, os⟩ := by
  have R1 : RC P H0 fs H n (h.push { cls := .type "slice", data := .fields #[.none, .int i t, .none] }) := R.pushed
  have e1 : (h.push { cls := .type "slice", data := .fields #[.none, .int i t, .none] }).IsList l vs.toArray := e.push _
  refine tail_any (e1.typeIs (s := ⟨_, g, d, tk, os⟩)) slot_list_getitem.lookup (wpAny_getItem_list_slice (s := ⟨_, g, d, tk, os⟩) e1 (Heap.IsSliceOf.new _ _ _ _) .none (.int _ _) .none (fun x => nomatch x) ?_ (by rw [sizeLine_eq]; simp; walk_at "om")) (hs _)
  have e2 : slicePick vs.toArray none (some i) none = (vs.take i.toNat).toArray := by
    obtain ⟨k, rfl⟩ := Int.eq_ofNat_of_zero_le h0
    unfold slicePick
    rw [sliceBounds_plain]
    simp only [sliceRange_one, pick_run]
    simp only [Option.elim, List.size_toArray, List.drop_zero, Nat.sub_zero]
    rw [clipAt_nat, Int.toNat_natCast]
    congr 1
    by_cases c : k ≤ vs.length
    · rw [Nat.min_eq_left c]
    · rw [Nat.min_eq_right (by walk_at "om"), List.take_of_length_le (by simp), List.take_of_length_le (by walk_at "om")]
  rw [e2]
  exact q _ _ R1.sz (R1.push (x := .lst (vs.take i.toNat)) ⟨_, rfl⟩ rfl (Nat.le_trans hz' R1.sz))
theorem r_unpack {elts : List Expr} {k : Nat} {pos : Pos} {env : Env} {t : Addr} {vs : List Value} {Q : Unit → Shared → Prop} (R : RC P H0 fs H n h) (hh : A.handled = none) (e : IsTup h t vs.toArray)
    (hl : (assignEach elts env).length = vs.length) (hi : (assignEach elts env).findIdx? (·.1) = none)
    (q : ∀ h', RC P H0 fs H n h' → wpAny (model prog w) A (assignInOrder ((assignEach elts env).map (·.2)) vs) Q E ⟨h', g, d, tk, os⟩) :
    wpAny (model prog w) A (assign (.Tuple elts k pos) env (.ref t)) Q E ⟨h, g, d, tk, os⟩ := by
  rw [assign_Tuple]
  refine wpAny_bind (wpAny_standAt ?_)
  unfold unpack
  rw [hi, hl]
  refine wpAny_bind (wpAny_holding (with_size (wpAny_mono (unpackItems_tuple (s := ⟨h, g, d, tk, os⟩) (items := vs.toArray) hh e (Q := fun items s' => items = vs ∧ ∃ h', s' = ⟨h', g, d, tk, os⟩ ∧ Heap.ExtBut h.objs.size h h') fun h' hk => ⟨by simp, h', rfl, hk⟩) (fun items s' x hs => ?_) fun _ _ x _ => x)))
  obtain ⟨rfl, h', rfl, hk⟩ := x
  exact q h' (R.kept (fun b o e => hk b o (Nat.ne_of_lt (ltsz e)) e) hs)
abbrev SD (prog : Program) (w : World) (kvs : List (Str × Value)) : AO := .prp fun o => o.IsDictOf (PySem.strKind prog w) kvs
abbrev ID (prog : Program) (w : World) (kvs : List (Int × Value)) : AO := .prp fun o => o.IsDictOf (intKind prog w) kvs
theorem RC.idd (R : RC P H0 fs H n h) {a : Nat} {kvs : List (Int × Value)} (e : H a = some (ID prog w kvs)) : h.DictOf (intKind prog w) a kvs := by
  obtain ⟨o, ho, hi⟩ := R.obj e; exact Heap.dictOf_iff.mpr ⟨o, ho, hi⟩
theorem r_eqs {x y : Str} {t u : Tok} {b : Bool} {Q : Value → Shared → Prop} (hb : (x == y) = b) (q : Q (.bool b) ⟨h, g, d, tk, os⟩) : wpAny (model prog w) A (compareOp .Eq (.str x t) (.str y u)) Q E ⟨h, g, d, tk, os⟩ :=
  PySem.P.eq_str (by rw [eq_meets, hb]; exact q)
theorem setF_nil {name : Str} {v : Value} : setF name v [] = [(name, v)] := rfl
theorem setF_hit {name a : Str} {v x : Value} {r : List (Str × Value)} (h : (a == name) = true) : setF name v ((a, x) :: r) = (a, v) :: r := by rw [setF, if_pos h]
theorem setF_miss {name a : Str} {v x : Value} {r r' : List (Str × Value)} (h : (a == name) = false) (e : setF name v r = r') : setF name v ((a, x) :: r) = (a, x) :: r' := by rw [setF, if_neg (by rw [h]; decide), e]
theorem r_setattr2 {x C dx : Nat} {l l' : List (Str × Value)} {name : Str} {v : Value} {Q : Unit → Shared → Prop} (hP : P = w.params) (R : RC P H0 ((L, m) :: fs) H n h) (G : Gd K H0) (e : H x = some (.inst C dx)) (e' : H dx = some (.dic l)) (hl : setF name v l = l')
    (hs : findIn K (.ref C) "__setattr__" = some (some (.builtin "object.__setattr__"))) (hp : plainOver K C = true) (ht : takerIn K C name = some none) (hh : hasDictIn K C = true)
    (hz : l.length ≤ 900) (q : ∀ h' tk', RC P H0 ((L, m) :: fs) (H.set dx (.dic l')) n h' → Q () ⟨h', g, d, tk', os⟩) :
    wpAny (model prog w) A (setAttr (.ref x) name v) Q E ⟨h, g, d, tk, os⟩ := r_setattr hP R G e e' hs hp ht hh hz (by rw [hl]; exact q)
end
theorem ba_mro : mroOf (.type "bytearray") = pure [.type "bytearray", .type "object"] := by rw [mroOf_type]; kernel_rfl
theorem ba_lookup_new : typeLookup (.type "bytearray") "__new__" = pure (some (.builtin "bytearray.__new__")) := by rw [typeLookup_type, builtinLookup_eq_fast]; kernel_rfl
theorem ba_slot_init : Slot "bytearray" "__init__" "bytearray.__init__" :=
  .of (owner := "bytearray") (n := "__init__") (by rw [typeLookup_type, builtinLookup_eq_fast]; kernel_rfl) (by decide +kernel) (by decide +kernel) (by decide +kernel)
    (by first | exact .inl (by decide +kernel) | exact .inr (by decide +kernel)) (by rw [isSubtype_type]; kernel_rfl)
theorem ba_called : TypeCalled "bytearray" "bytearray.__new__" "bytearray.__init__" :=
  ⟨by decide +kernel, by decide +kernel, ⟨_, _, ba_mro⟩, madeBy_type ba_mro ba_lookup_new (by decide +kernel), by decide +kernel, by rw [isSubtype_type]; kernel_rfl, ba_slot_init⟩
theorem ba_typeCall (a : Value) : checkTypeCall "bytearray" ⟨[a], []⟩ = pure () := by kernel_rfl
theorem ba_newCall (a : Value) : checkBuiltinCall "bytearray.__new__" ⟨[.type "bytearray", a], []⟩ = pure () := by kernel_rfl
theorem ba_entry_new : entryFor table "bytearray.__new__" = some Builtin.«list.__new__» := entryFor_alias (id' := "list.__new__") (by kernel_rfl) rfl (by decide +kernel) (by kernel_rfl)
theorem ba_entry_init : entryFor table "bytearray.__init__" = some Builtin.«bytearray.__init__» := by first | exact entryFor_of_fast (by kernel_rfl) | exact entryFor_of_tree (by kernel_rfl)
theorem ba_plain_new : plainId "bytearray.__new__" = true := by decide +kernel
theorem ba_args_init (a b : Value) : argsOk "bytearray.__init__" ⟨[a, b], []⟩ := by unfold argsOk; kernel_rfl
theorem ba_sub : isSubtype (.type "bytearray") (.type "bytearray") = pure true := by rw [isSubtype_type]; kernel_rfl
set_option maxRecDepth 1000000 in
set_option maxHeartbeats 4000000 in
theorem ba_owner : ("bytearray.__new__".splitOn ".__new__").headD "" = "bytearray" := by simp +decide [String.splitOn, String.splitOnAux]
section
variable {prog : Program} {w : World} {A : Around} {E : Value → Shared → Prop} {s : Shared}
theorem ba_new (a : Value) {Q₁ : Value → Shared → Prop}
    (h : Q₁ (.ref s.heap.objs.size) { s with heap := s.heap.push { cls := .type "bytearray", data := .bytearray #[] } }) :
    codeAny (model prog w) A (.call (.builtin "bytearray.__new__") ⟨[.type "bytearray", a], []⟩) (wants Q₁ E) s := by
  refine codeAny_of_tree ?_
  show wpAny _ A.in1 (do checkBuiltinCall "bytearray.__new__" ⟨[.type "bytearray", a], []⟩; again (.builtin "bytearray.__new__" ⟨[.type "bytearray", a], []⟩)) _ _ s
  refine wpAny_bind (wpAny_of_eq (ba_newCall a) (wpAny_pure ⟨plainId_quiet ba_plain_new _, codeAny_builtin_stack ba_entry_new rfl fun p st => ?_⟩))
  rw [Around.under_plainId ba_plain_new _]
  have hsub := ba_sub
  have hown := ba_owner
  obtain ⟨hp, g, d, tk, os⟩ := s
  simp only [hown]
  wp_walk
  exact h
end
theorem okCode_b {id : String} {args : Args} (h : okCode (.builtin id args) = true) : holdsIds.contains id = false := by
  have h2 : (!holdsIds.contains id) = true := h
  simpa using h2
theorem exported_P {M : Model} {A : Around} {E : Value → Shared → Prop} {s : Shared} {v : Value} {Q : Bool → Shared → Prop} (q : Q false s) : wpP M A (Builtin.Bytes.exported v) Q E s := fun Γ p hΓ hk => by
  unfold Builtin.Bytes.exported
  show Sem.wp _ Γ (Sem.bind stack _) _ _ p s
  unfold stack
  rw [Sem.wp_bind, Sem.wp_stack]
  rw [Sem.wp_pure]
  show Sem.wp _ Γ (Sem.pure (List.any ((Γ.code, p) :: Γ.below) _)) _ _ p s
  rw [Sem.wp_pure]
  show Q (List.any ((Γ.code, p) :: Γ.below) _) s
  have e : ∀ (f : Code × Pos → Bool) (l : List (Code × Pos)), (∀ x, okCode x.1 = true → f x = false) → (∀ x ∈ l, okCode x.1 = true) → l.any f = false := by
    intro f l hf hl
    rw [List.any_eq_false]
    intro x hx
    rw [hf x (hl x hx)]; decide
  rw [e _ _ ?_ ?_]
  · exact q
  · rintro ⟨c, p⟩ hc
    cases c with
    | builtin id args =>
      have hc' := okCode_b hc
      obtain ⟨pos, kw⟩ := args
      have n1 : id ≠ "bytearray.__contains__" := fun e => by subst e; exact absurd hc' (by decide +kernel)
      have n2 : id ≠ "bytearray.__mod__" := fun e => by subst e; exact absurd hc' (by decide +kernel)
      have n3 : id ≠ "bytearray.__rmod__" := fun e => by subst e; exact absurd hc' (by decide +kernel)
      have n4 : id ≠ "_struct.pack_into.held" := fun e => by subst e; exact absurd hc' (by decide +kernel)
      have n5 : id ≠ "bytearray.find.held" := fun e => by subst e; exact absurd hc' (by decide +kernel)
      have n6 : Builtin.Bytes.decodersThatHold.contains id = false := by
        simp only [holdsIds, List.contains_eq_mem, List.mem_append, decide_eq_false_iff_not, not_or] at hc'
        rw [List.contains_eq_mem]
        exact decide_eq_false hc'.2
      cases pos with
      | nil => delta Builtin.Bytes.exported.match_1; simp only [n1, n2, n3, n4, n5, dif_neg, not_false_eq_true]
      | cons v r => delta Builtin.Bytes.exported.match_1; simp only [n1, n2, n3, n4, n5, n6, dif_neg, not_false_eq_true, Bool.and_false]
    | _ => rfl
  · intro x hx
    rcases List.mem_cons.mp hx with rfl | hx
    · exact hk.1
    · exact hk.2 x hx
theorem P_if_false {α : Type} {M : Model} {A : Around} {E : Value → Shared → Prop} {s : Shared} {c : Prop} [Decidable c] {a b : Sem α} {Q : α → Shared → Prop} (hc : ¬ c) (h : wpP M A b Q E s) : wpP M A (if c then a else b) Q E s := by
  rw [if_neg hc]; exact h
theorem codeP_builtin {prog : Program} {w : World} {A : Around} {s : Shared} {R : Result → Shared → Prop} {id : String} {args : Args} {b : Builtin} (hb : entryFor table id = some b)
    (h : wpP (model prog w) (A.under (.builtin id args)) (b args)
      (fun fin s' => match fin with | .done f => R (.ok f) s' | .again c' => c'.quiet = true ∧ okCode c' = true ∧ codeP (model prog w) A c' R s') (fun e s' => R (.error e) s') s) :
    codeP (model prog w) A (.builtin id args) R s := by
  refine codeP_tree ?_
  show wpP _ _ (match entryFor table id with | some b => b args | none => unsupported ((withoutEnding? id "#data").getD id)) _ _ s
  rw [hb]; exact h
theorem ba_look_release : typeLookup (.type "bytearray") "__release_buffer__" = pure (some (.builtin "bytearray.__release_buffer__")) := by rw [typeLookup_type, builtinLookup_eq_fast]; kernel_rfl
theorem ba_look_buffer : typeLookup (.type "bytearray") "__buffer__" = pure (some (.builtin "bytearray.__buffer__")) := by rw [typeLookup_type, builtinLookup_eq_fast]; kernel_rfl
theorem bytes_no_index : typeLookup (.type "bytes") "__index__" = pure none := by rw [typeLookup_type, builtinLookup_eq_fast]; kernel_rfl
theorem ba_bind (v : Value) : Builtin.Bytes.bindOptional "bytearray.__init__" "bytearray" ["source", "encoding", "errors"] [v] [] = pure [some v, none, none] := by kernel_rfl
theorem ba_ends : ("bytearray.__release_buffer__".endsWith ("." ++ "__release_buffer__")) = true := by decide +kernel
theorem ba_drop : "bytearray.__release_buffer__".dropRight ("__release_buffer__".length + 1) = "bytearray" := by decide +kernel
theorem ba_ends2 : ("bytearray.__buffer__".endsWith ("." ++ "__buffer__")) = true := by decide +kernel
theorem ba_drop2 : "bytearray.__buffer__".dropRight ("__buffer__".length + 1) = "bytearray" := by decide +kernel
section
variable {prog : Program} {w : World} {A : Around} {E : Value → Shared → Prop} {s : Shared} {a : Addr} {x y : Array UInt8}
abbrev baObj (b : Array UInt8) : Obj := { cls := .type "bytearray", data := .bytearray b 0 }
theorem ba_type (ho : s.heap.get? a = some (baObj x)) : s.TypeIs (.ref a) "bytearray" := ⟨_, ho, rfl⟩
theorem ba_ownRelease {Q : Bool → Shared → Prop} (ho : s.heap.get? a = some (baObj x)) (q : Q false s) : wpAny (model prog w) A (Builtin.Bytes.ownRelease (.ref a)) Q E s := by
  unfold Builtin.Bytes.ownRelease Builtin.Bytes.slotIsOwn
  refine wpAny_bind (wpAny_bind (wpAny_specialOf (ba_type ho) ba_look_release ?_))
  dsimp only
  refine bm_if_false (by rw [ba_ends]; rfl) ?_
  rw [ba_drop]
  exact wpAny_isInstance (ba_type ho) ba_sub (wpAny_pure q)
theorem ba_slotBuffer {Q : Bool → Shared → Prop} (ho : s.heap.get? a = some (baObj x)) (q : Q true s) : wpAny (model prog w) A (Builtin.Bytes.slotIsOwn (.ref a) "__buffer__") Q E s := by
  unfold Builtin.Bytes.slotIsOwn
  refine wpAny_bind (wpAny_specialOf (ba_type ho) ba_look_buffer ?_)
  dsimp only
  refine bm_if_false (by rw [ba_ends2]; rfl) ?_
  rw [ba_drop2]
  exact wpAny_isInstance (ba_type ho) ba_sub q
theorem ba_payload {Q : Array UInt8 → Shared → Prop} (ho : s.heap.get? a = some (baObj x)) (q : Q x s) : wpAny (model prog w) A (Builtin.Bytes.payload (.ref a)) Q E s := by
  unfold Builtin.Bytes.payload Builtin.Bytes.payload?
  exact wpAny_bind (wpAny_bind (wpAny_load ho (wpAny_pure (wpAny_pure q))))
theorem ba_exports {Q : Nat → Shared → Prop} (ho : s.heap.get? a = some (baObj x)) (q : Q 0 s) : wpAny (model prog w) A (Builtin.Bytes.exportsOf (.ref a)) Q E s := by
  unfold Builtin.Bytes.exportsOf
  exact wpAny_bind (wpAny_load ho (wpAny_pure q))
theorem ba_write {f : Array UInt8 → Array UInt8} {Q : Unit → Shared → Prop} (ho : s.heap.get? a = some (baObj x)) (hz : (f x).size ≤ sizeLine)
    (q : Q () { s with heap := s.heap.update a (Obj.mapBytearray f) }) : wpAny (model prog w) A (Builtin.Bytes.write (.ref a) f) Q E s := by
  show wpAny _ _ (updateBytearray a f) _ _ _
  unfold updateBytearray
  refine wpAny_bind (wpAny_load ho ?_)
  show wpAny _ _ (update a (Obj.mapBytearray f) >>= fun _ => lookBehind a) _ _ _
  refine wpAny_bind (wpAny_update ho ?_)
  refine wpAny_lookBehind (Heap.get?_update_self (Obj.mapBytearray f) ho rfl) ?_ q
  show (if (f x).size > sizeLine then some "bytearray:memory" else none) = none
  rw [if_neg (by walk_at "om")]
theorem ba_after (f : Array UInt8 → Array UInt8) (ho : s.heap.get? a = some (baObj x)) : (s.heap.update a (Obj.mapBytearray f)).get? a = some (baObj (f x)) := Heap.get?_update_self (Obj.mapBytearray f) ho rfl
theorem ba_init {t : Tok} {R : Result → Shared → Prop} (ho : s.heap.get? a = some (baObj #[])) (hz : x.size ≤ 1000000)
    (q : R (.ok (.ret .none)) { s with heap := (s.heap.update a (Obj.mapBytearray fun _ => #[])).update a (Obj.mapBytearray fun _ => x) }) :
    codeP (model prog w) A (.call (.builtin "bytearray.__init__") ⟨[.ref a, .bytes x t], []⟩) R s := by
  refine codeP_tree ?_
  show wpP _ A.in1 (do checkBuiltinCall "bytearray.__init__" ⟨[.ref a, .bytes x t], []⟩; again (.builtin "bytearray.__init__" ⟨[.ref a, .bytes x t], []⟩)) _ _ s
  refine P_bindA (ba_slot_init.check _ _ _ _ _ _ _ _ (ba_type ho) (ba_args_init _ _) ?_)
  refine P_pure ⟨plainId_quiet ba_slot_init.plain _, (by show (!holdsIds.contains "bytearray.__init__") = true; decide +kernel), codeP_builtin ba_entry_init ?_⟩
  unfold Builtin.«bytearray.__init__»
  refine P_bindA (ba_ownRelease ho ?_)
  refine P_if_false (by decide) ?_
  refine P_bindA (wpAny_of_eq (ba_bind _) ?_)
  refine P_bindA (wpAny_of_eq (a := ()) rfl ?_)
  refine P_bindA (wpAny_of_eq (a := ()) rfl ?_)
  refine P_bind (P_bind (exported_P ?_))
  show wpP _ _ (Builtin.Bytes.exportsOf (.ref a) >>= fun y => pure (decide (y > 0))) _ _ _
  refine P_bindA (ba_exports ho ?_)
  refine P_pure ?_
  refine P_if_false (by decide) ?_
  refine P_bindA (ba_write ho (by simp) ?_)
  have ho1 := ba_after (fun _ => #[]) ho
  refine P_any ?_
  refine wpAny_bind (wpAny_of_eq (a := none) rfl ?_)
  refine bm_if_false rfl ?_
  refine wpAny_bind ?_
  refine bm_if_false rfl ?_
  refine bm_if_false rfl ?_
  refine wpAny_pure ?_
  refine wpAny_bind (wpAny_specialOf (T := "bytes") (PySem.W.typeIs_bytes _ _ _) bytes_no_index ?_)
  refine bm_if_false rfl ?_
  refine wpAny_bind (wpAny_of_eq KBy.buffer_eq ?_)
  refine wpAny_bind (wpAny_rule ?_)
  refine wpAny_bind (ba_write ho1 (by rw [sizeLine_eq]; walk_at "om") ?_)
  exact wpAny_pure q
end
section
variable {prog : Program} {w : World} {A : Around} {E : Value → Shared → Prop} {s : Shared}
theorem ba_call {x : Array UInt8} {t : Tok} {Q : Value → Shared → Prop} (hz : x.size ≤ 1000000)
    (q : Q (.ref s.heap.objs.size) { s with heap := ((s.heap.push (baObj #[])).update s.heap.objs.size (Obj.mapBytearray fun _ => #[])).update s.heap.objs.size (Obj.mapBytearray fun _ => x) }) :
    wpP (model prog w) A (call (.type "bytearray") [.bytes x t]) Q E s := by
  have ft := ba_called
  obtain ⟨c, tl, hmro⟩ := ft.mro
  have hmade := ft.made
  have hsub := ft.sub
  refine P_call (codeP_tree ?_)
  show wpP _ _ (callAny (.type "bytearray") _) _ _ _
  refine P_pure ⟨Code.quiet_builtin _ (by decide +kernel), by show (!holdsIds.contains "type.__call__") = true; decide +kernel, codeP_builtin F.entry_type_call ?_⟩
  rw [Around.under_plain (weight_type_call_type "bytearray" [.bytes x t] []) rfl]
  have h1 := ft.notType
  have h2 := ft.canCreate
  have hct := ba_typeCall (.bytes x t)
  unfold Builtin.«type.__call__»
  dsimp only
  refine P_if_false (by decide) ?_
  refine P_if_false (by rw [h2]; decide) ?_
  refine P_bindA (wpAny_of_eq hct ?_)
  refine P_bindA (wpAny_of_eq hmro ?_)
  refine P_if_false (by simp) ?_
  refine P_bindA (wpAny_of_eq hmade ?_)
  refine P_bindA (wpAny_pure ?_)
  refine P_bindA (wpAny_holding (wpAny_call ?_))
  refine codeAny_mono (ba_new (.bytes x t) (Q₁ := fun v s' => v = .ref s.heap.objs.size ∧ s' = { s with heap := s.heap.push { cls := .type "bytearray", data := .bytearray #[] } }) (E := fun _ _ => False) ⟨rfl, rfl⟩) fun r s₁ hr => ?_
  cases r with
  | error e => exact hr.elim
  | ok fl =>
    cases fl with
    | ret obj =>
      obtain ⟨rfl, rfl⟩ := hr
      have ho : (s.heap.push { cls := .type "bytearray", data := .bytearray #[] }).get? s.heap.objs.size = some (baObj #[]) := Heap.get?_push_size _ rfl
      refine P_bindA (wpAny_isInstance (T := "bytearray") ⟨_, ho, rfl⟩ hsub ?_)
      refine P_if_false (by decide) ?_
      refine P_bind (P_holding ?_)
      unfold callSpecial?
      refine P_bindA (wpAny_specialOf (T := "bytearray") ⟨_, ho, rfl⟩ ft.init.lookup ?_)
      dsimp only
      refine P_holding ?_
      refine P_bindA (wpAny_of_eq (ft.init.bind _) ?_)
      refine P_bind (P_call ?_)
      refine codeP_mono (ba_init (s := { s with heap := s.heap.push { cls := .type "bytearray", data := .bytearray #[] } }) (x := x) (t := t) (R := fun r s' => r = .ok (.ret .none) ∧ s' = { s with heap := ((s.heap.push (baObj #[])).update s.heap.objs.size (Obj.mapBytearray fun _ => #[])).update s.heap.objs.size (Obj.mapBytearray fun _ => x) }) ho hz ⟨rfl, rfl⟩) fun r s₂ hr => ?_
      obtain ⟨rfl, rfl⟩ := hr
      refine P_pure ?_
      dsimp only
      refine P_if_false (by decide) ?_
      exact P_pure q
    | _ => exact hr.elim
end
section
variable {prog : Program} {w : World} {A : Around} {K : Frag} {H0 h : Heap} {fs : List (Nat × Map)} {H : PH} {n : Nat} {L : Nat} {m : Map} {g : Array GenState} {d : Drawn} {tk : Nat} {os : OsState}
  {E : Value → Shared → Prop} {P : Params}
theorem r_bytearray {x : List UInt8} {t : Tok} {Q : Value → Shared → Prop} (R : RC P H0 fs H n h) (hz : H0.objs.size ≤ n) (hs : x.length ≤ 1000000)
    (q : ∀ (a : Nat) h', n ≤ a → RC P H0 fs (H.set a (.ba x)) (a + 1) h' → Q (.ref a) ⟨h', g, d, tk, os⟩) : wpP (model prog w) A (call (.type "bytearray") [.bytes x.toArray t]) Q E ⟨h, g, d, tk, os⟩ := by
  refine ba_call (by simpa using hs) (q h.objs.size _ R.sz ?_)
  have R1 : RC P H0 fs (H.set h.objs.size (.ba [])) (h.objs.size + 1) (h.push (baObj #[])) := R.push (x := .ba []) rfl rfl (Nat.le_trans hz R.sz)
  have ho : (h.push (baObj #[])).get? h.objs.size = some (baObj #[]) := Heap.get?_push_size _ rfl
  have ho1 := ba_after (s := ⟨h.push (baObj #[]), g, d, tk, os⟩) (fun _ => #[]) ho
  have ho2 := ba_after (s := ⟨(h.push (baObj #[])).update h.objs.size (Obj.mapBytearray fun _ => #[]), g, d, tk, os⟩) (fun _ => x.toArray) ho1
  have R2 := R1.put (y := .ba x) (PH.set_self _ _ _) ho2 rfl (fun b o' hb e' => (Heap.get?_update_other _ _ (Ne.symm hb)).trans ((Heap.get?_update_other _ _ (Ne.symm hb)).trans e')) (by rw [Heap.size_after_update, Heap.size_after_update]; exact Nat.le_refl _)
  rw [PH.set_set] at R2
  exact R2
end
theorem ba_slot_get : Slot "bytearray" "__getitem__" "bytearray.__getitem__" :=
  .of (owner := "bytearray") (n := "__getitem__") (by rw [typeLookup_type, builtinLookup_eq_fast]; kernel_rfl) (by decide +kernel) (by decide +kernel) (by decide +kernel)
    (by first | exact .inl (by decide +kernel) | exact .inr (by decide +kernel)) (by rw [isSubtype_type]; kernel_rfl)
theorem ba_slot_set : Slot "bytearray" "__setitem__" "bytearray.__setitem__" :=
  .of (owner := "bytearray") (n := "__setitem__") (by rw [typeLookup_type, builtinLookup_eq_fast]; kernel_rfl) (by decide +kernel) (by decide +kernel) (by decide +kernel)
    (by first | exact .inl (by decide +kernel) | exact .inr (by decide +kernel)) (by rw [isSubtype_type]; kernel_rfl)
theorem ba_entry_get : entryFor table "bytearray.__getitem__" = some Builtin.«bytearray.__getitem__» := by first | exact entryFor_of_fast (by kernel_rfl) | exact entryFor_of_tree (by kernel_rfl)
theorem ba_entry_set : entryFor table "bytearray.__setitem__" = some Builtin.«bytearray.__setitem__» := by first | exact entryFor_of_fast (by kernel_rfl) | exact entryFor_of_tree (by kernel_rfl)
theorem ba_args_get (a b : Value) : argsOk "bytearray.__getitem__" ⟨[a, b], []⟩ := by unfold argsOk; kernel_rfl
theorem ba_args_set (a b c : Value) : argsOk "bytearray.__setitem__" ⟨[a, b, c], []⟩ := by unfold argsOk; kernel_rfl
theorem ba_no_bytes : typeLookup (.type "bytearray") "__bytes__" = pure none := by rw [typeLookup_type, builtinLookup_eq_fast]; kernel_rfl
theorem ba_no_index : typeLookup (.type "bytearray") "__index__" = pure none := by rw [typeLookup_type, builtinLookup_eq_fast]; kernel_rfl
section
variable {prog : Program} {w : World} {A : Around} {E : Value → Shared → Prop} {s : Shared} {a : Addr} {x y : Array UInt8}
theorem ba_subscript {M : Model} {i : Int} {t : Tok} {Q : Option Int → Shared → Prop} (h0 : 0 ≤ i) (h1 : i < 2 ^ 62) (q : Q (some i) s) : wpAny M A (Builtin.Bytes.subscript? (.int i t)) Q E s := by
  unfold Builtin.Bytes.subscript?
  refine wpAny_bind (wpAny_specialOf (T := "int") (typeIs_int _ _ _) F.slot_int_index.lookup ?_)
  refine bm_if_false rfl ?_
  refine wpAny_bind (wpAny_of_eq (a := i) rfl ?_)
  refine bm_if_false (by rw [fits_of h0 h1]; rfl) ?_
  exact wpAny_pure q
theorem seqIndex_in {i : Int} {k : Nat} (h0 : 0 ≤ i) (h1 : i < k) : seqIndex? i k = some i.toNat := by
  have h3 : ¬ i < 0 := by walk_at "om"
  simp [seqIndex?, h0, h1, h3]
theorem ba_getItem {i : Int} {t : Tok} {Q : Value → Shared → Prop} (ho : s.heap.get? a = some (baObj x)) (h0 : 0 ≤ i) (h1 : i < x.size) (hz : x.size ≤ 1000000)
    (q : Q (.int (x.getD i.toNat 0).toNat s.toks) { s with toks := s.toks + 1 }) : wpAny (model prog w) A (getItem (.ref a) (.int i t)) Q E s := by
  refine wpAny_getItem_slot (ba_type ho) (by decide) ba_slot_get (wpAny_call_entry ba_slot_get (ba_type ho) ba_entry_get ?_ (ba_args_get _ _))
  unfold Builtin.«bytearray.__getitem__»
  refine wpAny_bind (wpAny_of_eq (a := (.ref a, [.int i t])) rfl ?_)
  dsimp only
  refine wpAny_bind (ba_subscript h0 (by walk_at "om") ?_)
  dsimp only
  refine wpAny_bind (ba_payload ho ?_)
  rw [seqIndex_in h0 h1]
  have hx : x[i.toNat]? = some (x.getD i.toNat 0) := by
    have : i.toNat < x.size := by walk_at "om"
    simp [Array.getD, this]
  dsimp only [Option.bind]
  rw [hx]
  dsimp only
  exact wpAny_bind (wpAny_mkInt (wpAny_pure ⟨_, rfl, q⟩))
theorem ba_setItem {i : Int} {t : Tok} {v : Int} {u : Tok} {Q : Unit → Shared → Prop} (ho : s.heap.get? a = some (baObj x)) (h0 : 0 ≤ i) (h1 : i < x.size) (hz : x.size ≤ 1000000) (v0 : 0 ≤ v) (v1 : v < 256)
    (q : Q () { s with heap := s.heap.update a (Obj.mapBytearray (·.setIfInBounds i.toNat v.toNat.toUInt8)) }) : wpAny (model prog w) A (setItem (.ref a) (.int i t) (.int v u)) Q E s := by
  unfold setItem
  try with_reducible refine wpAny_holding ?_
  first | refine wpAny_bind (wpAny_pure ?_) | skip
  refine wpAny_bind (wpAny_sequenceKey (ba_type ho) (by decide) ?_)
  refine wpAny_bind (wpAny_callSpecial?_slot (name := Str.ofString "__setitem__") (ba_type ho) ba_slot_set (wpAny_call_entry ba_slot_set (ba_type ho) ba_entry_set ?_ (ba_args_set _ _ _)))
  unfold Builtin.«bytearray.__setitem__»
  refine bm_if_false rfl ?_
  dsimp only
  refine wpAny_bind (ba_subscript h0 (by walk_at "om") ?_)
  dsimp only
  refine wpAny_bind (m := Builtin.Bytes.byteValue (.int v u)) ?_
  unfold Builtin.Bytes.byteValue
  refine wpAny_bind (wpAny_of_eq (a := v) rfl ?_)
  refine bm_if_false (by rw [decide_eq_false (show ¬ v < 0 by walk_at "om"), decide_eq_false (show ¬ v ≥ 256 by walk_at "om")]; rfl) ?_
  refine wpAny_pure ?_
  refine wpAny_bind (ba_payload ho ?_)
  rw [seqIndex_in h0 h1]
  dsimp only
  refine wpAny_bind (ba_write ho (by simp; rw [sizeLine_eq]; walk_at "om") ?_)
  exact wpAny_bind (wpAny_pure (wpAny_pure ⟨_, rfl, wpAny_pure q⟩))
theorem ba_slice {i : Addr} {l u : Value} {lo hi : Option Int} {Q : Value → Shared → Prop} (ho : s.heap.get? a = some (baObj x)) (hi' : s.heap.IsSliceOf i l u .none) (hl : IsPart l lo) (hu : IsPart u hi)
    (hsz : (KBy.picked x lo hi).size ≤ sizeLine)
    (q : Q (.ref s.heap.objs.size) { s with heap := s.heap.push (baObj (KBy.picked x lo hi)) }) : wpAny (model prog w) A (getItem (.ref a) (.ref i)) Q E s := by
  obtain ⟨o, hoi, hc, hd⟩ := hi'
  have hT : s.TypeIs (.ref i) "slice" := ⟨o, hoi, hc⟩
  refine wpAny_getItem_slot (ba_type ho) (by decide) ba_slot_get (wpAny_call_entry ba_slot_get (ba_type ho) ba_entry_get ?_ (ba_args_get _ _))
  unfold Builtin.«bytearray.__getitem__»
  refine wpAny_bind (wpAny_of_eq (a := (.ref a, [.ref i])) rfl ?_)
  dsimp only
  refine wpAny_bind ?_
  unfold Builtin.Bytes.subscript?
  refine wpAny_bind (wpAny_specialOf hT slice_no_index (wpAny_pure ?_))
  dsimp only
  refine wpAny_bind (wpAny_typeOf hT ?_)
  refine bm_if_false (by decide) ?_
  show wpAny _ _ (Builtin.Bytes.sliceParts (.ref i) >>= fun r => _) _ _ _
  refine wpAny_bind ?_
  unfold Builtin.Bytes.sliceParts
  refine wpAny_bind (wpAny_field (x := .none) hoi hd rfl ?_)
  kby_none
  refine wpAny_ite (KBy.ite_no (show ¬ ((Value.none == rawInt 0) = true) from Bool.false_ne_true) ?_)
  refine wpAny_bind (wpAny_field (x := l) hoi hd rfl ?_)
  have go : wpAny (model prog w) A.in1 (sliceIndices (rawPart lo) (rawPart hi) (rawPart none) x.size) (fun r s' => r = sliceBounds lo hi none x.size ∧ s' = s) (fun _ _ => False) s :=
    wpAny_of_eq (sliceIndices_raw lo hi none x.size (fun e => nomatch e)) ⟨rfl, rfl⟩
  cases hl <;> cases hu <;> (first
    | (kby_none; (refine wpAny_bind (wpAny_field (x := .none) hoi hd rfl ?_)); kby_none)
    | (kby_none; (refine wpAny_bind (wpAny_field (x := .int _ _) hoi hd rfl ?_)); kby_int)
    | (kby_int; (refine wpAny_bind (wpAny_field (x := .none) hoi hd rfl ?_)); kby_none)
    | (kby_int; (refine wpAny_bind (wpAny_field (x := .int _ _) hoi hd rfl ?_)); kby_int)) <;> refine wpAny_pure ?_
  all_goals
    refine wpAny_bind (ba_payload ho ?_)
    refine wpAny_bind (wpAny_mono go (fun r s' hr => ?_) fun _ _ e => e.elim)
    obtain ⟨hr1, hr2⟩ := hr
    subst hr1 hr2
    refine wpAny_bind ?_
    unfold Builtin.Bytes.newBytearray
    refine wpAny_newObj_type ?_ hsz
    exact wpAny_pure ⟨_, rfl, q⟩
theorem bytes_of_ba {Q : Value → Shared → Prop} (ho : s.heap.get? a = some (baObj x)) (hz : x.size ≤ 1000000)
    (q : Q (.bytes x s.toks) { s with toks := s.toks + 1 }) : wpAny (model prog w) A (call (.type "bytes") [.ref a]) Q E s := by
  refine callType_codes (Q₁ := fun obj s₁ => s₁.TypeIs obj "bytes" ∧ Q obj s₁) F.bm_called (F.bm_typeCall _) F.entry_object_init ?_ fun obj s₁ h₁ => ?_
  · refine codeAny_of_tree ?_
    show wpAny _ A.in1.in1 (do checkBuiltinCall "bytes.__new__" ⟨[.type "bytes", .ref a], []⟩; again (.builtin "bytes.__new__" ⟨[.type "bytes", .ref a], []⟩)) _ _ _
    refine wpAny_bind (wpAny_of_eq (F.bm_newCall _) (wpAny_pure ⟨plainId_quiet F.bm_plain _, codeAny_builtin F.bm_entry ?_⟩))
    rw [Around.under_plainId F.bm_plain _]
    unfold Builtin.«bytes.__new__»
    refine wpAny_bind (wpAny_of_eq (a := true) rfl ?_)
    refine bm_if_false rfl ?_
    refine wpAny_bind (wpAny_of_eq F.bm_sub ?_)
    refine bm_if_false rfl ?_
    refine wpAny_bind (wpAny_of_eq (F.bm_bind _) ?_)
    refine wpAny_bind (wpAny_of_eq (a := ()) rfl ?_)
    refine wpAny_bind (wpAny_of_eq (a := ()) rfl ?_)
    refine bm_if_false rfl ?_
    refine wpAny_bind (wpAny_specialOf (ba_type ho) ba_no_bytes ?_)
    refine wpAny_bind (wpAny_bind ?_)
    show wpAny _ _ (load a >>= _) _ _ _
    refine wpAny_bind (wpAny_load ho ?_)
    refine wpAny_pure (wpAny_pure ?_)
    refine bm_if_false rfl ?_
    refine wpAny_bind (wpAny_specialOf (ba_type ho) ba_no_index ?_)
    refine bm_if_true rfl ?_
    first
      | show wpAny _ _ (Builtin.Bytes.buffer? "bytes.__new__" (.ref a) true >>= _) _ _ _
      | (refine wpAny_bind ?_; show wpAny _ _ (Builtin.Bytes.buffer? "bytes.__new__" (.ref a) true >>= _) _ _ _)
    refine wpAny_bind ?_
    unfold Builtin.Bytes.buffer?
    refine wpAny_bind (wpAny_specialOf (ba_type ho) ba_look_buffer ?_)
    dsimp only
    refine wpAny_bind (ba_slotBuffer ho ?_)
    refine bm_if_false rfl ?_
    refine wpAny_bind (wpAny_specialOf (ba_type ho) ba_look_buffer ?_)
    refine wpAny_bind (ba_ownRelease ho ?_)
    refine bm_if_false rfl ?_
    refine wpAny_bind (ba_payload ho ?_)
    refine wpAny_pure ?_
    dsimp only
    first
      | (refine wpAny_bind (wpAny_rule ?_); refine wpAny_bind ?_; refine wpAny_bind (wpAny_mkBytes ?_ (by rw [sizeLine_eq]; walk_at "om")))
      | (refine wpAny_bind (wpAny_rule ?_); refine wpAny_bind (wpAny_mkBytes ?_ (by rw [sizeLine_eq]; walk_at "om")))
    exact wpAny_pure ⟨PySem.W.typeIs_bytes _ _ _, q⟩
  · exact ⟨h₁.1, F.args_object_init_2 obj _, object_init_meets F.bm_called.init.lookup F.bm_called.made (by decide) prog w A.in1 _ s₁ ⟨h₁.1, rfl, h₁.2⟩⟩
end
section
variable {prog : Program} {w : World} {A : Around} {K : Frag} {H0 h : Heap} {fs : List (Nat × Map)} {H : PH} {n : Nat} {L : Nat} {m : Map} {g : Array GenState} {d : Drawn} {tk : Nat} {os : OsState}
  {E : Value → Shared → Prop} {P : Params} {a : Nat} {x : List UInt8} {i : Int} {t : Tok}
theorem RC.bar (R : RC P H0 fs H n h) (e : H a = some (.ba x)) : h.get? a = some (baObj x.toArray) := by
  obtain ⟨o, ho, rfl⟩ := R.obj e; exact ho
theorem r_bagetitem {Q : Value → Shared → Prop} (R : RC P H0 fs H n h) (e : H a = some (.ba x)) (hz : x.length ≤ 1000000) (h0 : 0 ≤ i) (h1 : i < x.length)
    (q : ∀ t' tk', Q (.int ((x.getD i.toNat 0).toNat : Nat) t') ⟨h, g, d, tk', os⟩) : wpAny (model prog w) A (getItem (.ref a) (.int i t)) Q E ⟨h, g, d, tk, os⟩ :=
  ba_getItem (R.bar e) h0 (by simpa using h1) (by simpa using hz) (by have := q tk (tk + 1); simpa using this)
theorem r_baitem {value slice : Expr} {Q : Value → Shared → Prop} (R : RC P H0 fs H n h) (e : H a = some (.ba x)) (hz : x.length ≤ 1000000) (h0 : 0 ≤ i) (h1 : i < x.length)
    (q : ∀ t' tk', Q (.int ((x.getD i.toNat 0).toNat : Nat) t') ⟨h, g, d, tk', os⟩)
    (hs : subscripted slice false (.ref a) (.int i t) = operate [.ref a, .int i t] (getItem (.ref a) (.int i t)) := by with_unfolding_all rfl) :
    wpAny (model prog w) A (subscriptTail value slice (.ref a) (.int i t)) Q E ⟨h, g, d, tk, os⟩ :=
  tail_any (ba_type (R.bar e)) ba_slot_get.lookup (r_bagetitem R e hz h0 h1 q) hs
theorem r_basetitem {v : Int} {u : Tok} {Q : Unit → Shared → Prop} (R : RC P H0 fs H n h) (e : H a = some (.ba x)) (hz : x.length ≤ 1000000) (h0 : 0 ≤ i) (h1 : i < x.length) (v0 : 0 ≤ v) (v1 : v < 256)
    (q : ∀ h', RC P H0 fs (H.set a (.ba (x.set i.toNat v.toNat.toUInt8))) n h' → Q () ⟨h', g, d, tk, os⟩) : wpAny (model prog w) A (setItem (.ref a) (.int i t) (.int v u)) Q E ⟨h, g, d, tk, os⟩ := by
  refine ba_setItem (R.bar e) h0 (by simpa using h1) (by simpa using hz) v0 v1 (q _ ?_)
  refine R.put e (ba_after (s := ⟨h, g, d, tk, os⟩) (fun b => b.setIfInBounds i.toNat v.toNat.toUInt8) (R.bar e)) ?_ (fun b o' hb e' => (Heap.get?_update_other _ _ (Ne.symm hb)).trans e') (by rw [Heap.size_after_update]; exact Nat.le_refl _)
  show baObj _ = baObj _
  congr 1
  simp
theorem r_baslice_hi {value slice : Expr} {Q : Value → Shared → Prop} (R : RC P H0 fs H n h) (hz' : H0.objs.size ≤ n) (e : H a = some (.ba x)) (hz : x.length ≤ 1000000) (h0 : 0 ≤ i)
    (q : ∀ (b : Nat) h' tk', n ≤ b → RC P H0 fs (H.set b (.ba (x.take i.toNat))) (b + 1) h' → Q (.ref b) ⟨h', g, d, tk', os⟩)
    (hs : ∀ b : Addr, subscripted slice false (.ref a) (.ref b) = operate [.ref b, .ref a] (getItem (.ref a) (.ref b)) := by intro b; with_unfolding_all rfl) :
    wpAny (model prog w) A (subscriptTail value slice (.ref a) (.ref h.objs.size)) Q E ⟨h.push { cls := .type "slice", data := .fields #[.none, .int i t, .none] }, g, d, tk, os⟩ := by
  have R1 : RC P H0 fs H n (h.push { cls := .type "slice", data := .fields #[.none, .int i t, .none] }) := R.pushed
  refine tail_any (ba_type (s := ⟨_, g, d, tk, os⟩) (R1.bar e)) ba_slot_get.lookup (ba_slice (s := ⟨_, g, d, tk, os⟩) (R1.bar e) (Heap.IsSliceOf.new _ _ _ _) .none (.int _ _) ?_ ?_) (hs _)
  · exact Nat.le_trans (KBc.size_picked_le _ _ _) (by rw [sizeLine_eq]; simp; walk_at "om")
  · rw [picked_hi h0]
    exact q _ _ _ (R1.sz) (R1.push (x := .ba (x.take i.toNat)) rfl rfl (Nat.le_trans hz' R1.sz))
theorem r_bytes_ba {Q : Value → Shared → Prop} (R : RC P H0 fs H n h) (e : H a = some (.ba x)) (hz : x.length ≤ 1000000)
    (q : ∀ t' tk', Q (.bytes x.toArray t') ⟨h, g, d, tk', os⟩) : wpAny (model prog w) A (call (.type "bytes") [.ref a]) Q E ⟨h, g, d, tk, os⟩ := bytes_of_ba (R.bar e) (by simpa using hz) (q _ _)
theorem r_bslice_hi {value slice : Expr} {Q : Value → Shared → Prop} (R : RC P H0 fs H n h) (h0 : 0 ≤ i) (hz : x.length ≤ 1000000)
    (q : ∀ h' t' tk', RC P H0 fs H n h' → Q (.bytes (x.take i.toNat).toArray t') ⟨h', g, d, tk', os⟩)
    (hs : ∀ b : Addr, subscripted slice false (.bytes x.toArray u) (.ref b) = operate [.ref b, .bytes x.toArray u] (getItem (.bytes x.toArray u) (.ref b)) := by intro b; with_unfolding_all rfl) (ht : ∀ r, letTemporaryGo value (.bytes x.toArray u) r = pure () := by intro _; with_unfolding_all rfl) :
    wpAny (model prog w) A (subscriptTail value slice (.bytes x.toArray u) (.ref h.objs.size)) Q E ⟨h.push { cls := .type "slice", data := .fields #[.none, .int i t, .none] }, g, d, tk, os⟩ :=
  r_bslice R .none (.int _ _) hz (fun h' t' tk' r => by rw [picked_hi h0]; exact q _ _ _ r) hs ht
theorem r_bslice_lo {value slice : Expr} {Q : Value → Shared → Prop} (R : RC P H0 fs H n h) (h0 : 0 ≤ i) (hz : x.length ≤ 1000000)
    (q : ∀ h' t' tk', RC P H0 fs H n h' → Q (.bytes (x.drop i.toNat).toArray t') ⟨h', g, d, tk', os⟩)
    (hs : ∀ b : Addr, subscripted slice false (.bytes x.toArray u) (.ref b) = operate [.ref b, .bytes x.toArray u] (getItem (.bytes x.toArray u) (.ref b)) := by intro b; with_unfolding_all rfl) (ht : ∀ r, letTemporaryGo value (.bytes x.toArray u) r = pure () := by intro _; with_unfolding_all rfl) :
    wpAny (model prog w) A (subscriptTail value slice (.bytes x.toArray u) (.ref h.objs.size)) Q E ⟨h.push { cls := .type "slice", data := .fields #[.int i t, .none, .none] }, g, d, tk, os⟩ :=
  r_bslice R (.int _ _) .none hz (fun h' t' tk' r => by rw [picked_lo h0]; exact q _ _ _ r) hs ht
theorem r_bslice_both {value slice : Expr} {j : Int} {v : Tok} {Q : Value → Shared → Prop} (R : RC P H0 fs H n h) (h0 : 0 ≤ i) (h1 : 0 ≤ j) (hz : x.length ≤ 1000000)
    (q : ∀ h' t' tk', RC P H0 fs H n h' → Q (.bytes ((x.take j.toNat).drop i.toNat).toArray t') ⟨h', g, d, tk', os⟩)
    (hs : ∀ b : Addr, subscripted slice false (.bytes x.toArray u) (.ref b) = operate [.ref b, .bytes x.toArray u] (getItem (.bytes x.toArray u) (.ref b)) := by intro b; with_unfolding_all rfl) (ht : ∀ r, letTemporaryGo value (.bytes x.toArray u) r = pure () := by intro _; with_unfolding_all rfl) :
    wpAny (model prog w) A (subscriptTail value slice (.bytes x.toArray u) (.ref h.objs.size)) Q E ⟨h.push { cls := .type "slice", data := .fields #[.int i t, .int j v, .none] }, g, d, tk, os⟩ :=
  r_bslice R (.int _ _) (.int _ _) hz (fun h' t' tk' r => by rw [picked_both h0 h1]; exact q _ _ _ r) hs ht
end
section
variable {M : Model} {A : Around} {E : Value → Shared → Prop} {s : Shared} {env : Env}
theorem P_keep {α : Type} {vs : List Value} {m : Sem α} {Q : α → Shared → Prop} (h : wpP M A m Q E s) : wpP M A (m.keep vs) Q E s :=
  fun Γ p hΓ hk => by rw [Sem.wp_keep]; exact h Γ p hΓ hk
theorem P_standAt {α : Type} {pos : Pos} {f : Unit → Sem α} {Q : α → Shared → Prop} (h : wpP M A (f ()) Q E s) : wpP M A (standAt pos >>= f) Q E s := P_bindA (wpAny_standAt h)
theorem P_execs_cons {st : Stmt} {rest : List Stmt} {Q : Flow → Shared → Prop}
    (h : wpP M A (exec st env) (fun f s' => match f with | .next => wpP M A (execs rest env) Q E s' | f => Q f s') E s) : wpP M A (execs (st :: rest) env) Q E s := by
  rw [execs_cons]
  refine P_bind (P_mono h (fun f s' h' => ?_) fun _ _ h' => h')
  cases f <;> first | exact h' | exact P_pure h'
theorem P_execs_consA {st : Stmt} {rest : List Stmt} {Q : Flow → Shared → Prop}
    (h : wpAny M A (exec st env) (fun f s' => match f with | .next => wpP M A (execs rest env) Q E s' | f => Q f s') E s) : wpP M A (execs (st :: rest) env) Q E s := P_execs_cons (P_any h)
theorem P_Assign_Name {x : Str} {pos' pos : Pos} {value : Expr} {Q : Flow → Shared → Prop}
    (h : wpP M A (eval value env) (fun v s₁ => wpAny M A (storeName env x v) (fun _ => Q .next) E s₁) E s)
    (hs : swapsWith value (some (.Name x pos')) pos.line env = pure false := by rfl) : wpP M A (exec (.Assign [.Name x pos'] value pos) env) Q E s := by
  rw [exec_Assign_Name env x pos' value pos hs]
  refine P_standAt (P_bind (P_mono h (fun v s₁ h₁ => ?_) fun _ _ x => x))
  refine P_standAt (P_bindA ?_)
  have e : wpAny M A (bindName env x v) (fun _ s' => Q .next s') E s₁ := fun Γ p hΓ => by rw [Sem.wp_bindName]; exact h₁ Γ p hΓ
  exact wpAny_mono e (fun _ _ q => P_pure q) fun _ _ x => x
theorem P_Assign_Tuple {elts : List Expr} {k : Nat} {tpos pos : Pos} {value : Expr} {Q : Flow → Shared → Prop}
    (h : wpP M A (eval value env) (fun v s₁ => wpAny M A (assign (.Tuple elts k tpos) env v) (fun _ => Q .next) E s₁) E s)
    (hs : swapsWithSole [.Tuple elts k tpos] value pos.line env = pure false := by rfl)
    (hw : swappedStores [.Tuple elts k tpos] value env = pure none := by rfl) :
    wpP M A (exec (.Assign [.Tuple elts k tpos] value pos) env) Q E s := by
  rw [exec_Assign]
  refine P_standAt ?_
  rw [hs]
  refine P_bindA (wpAny_pure ?_)
  rw [if_neg (by decide)]
  refine P_bind (P_mono h (fun v s₁ h₁ => ?_) fun _ _ x => x)
  rw [hw]
  refine P_bindA (wpAny_pure ?_)
  show wpP M A (do assignAll v [assign (.Tuple elts k tpos) env]; pure .next) Q E s₁
  exact P_bindA (wpAny_mono h₁ (fun _ _ x => P_pure x) fun _ _ x => x)
theorem P_Return_some {e : Expr} {pos : Pos} {Q : Flow → Shared → Prop} (h : wpP M A (eval e env) (fun v => Q (.ret v)) E s) : wpP M A (exec (.Return (some e) pos) env) Q E s := by
  rw [exec_Return_some]
  exact P_standAt (P_bind (P_mono h (fun _ _ q => P_pure q) fun _ _ x => x))
theorem P_If {test : Expr} {body orelse : List Stmt} {pos : Pos} {Q : Flow → Shared → Prop}
    (h : wpP M A (isTrue test env (eval test env)) (fun b s₂ => if b then wpP M A (execs body env) Q E s₂ else wpP M A (execs orelse env) Q E s₂) E s) :
    wpP M A (exec (.If test body orelse pos) env) Q E s := by
  rw [exec_If]
  refine P_standAt (P_bind (P_mono h (fun b s₂ h₂ => ?_) fun _ _ x => x))
  cases b <;> exact h₂
theorem P_Call_ofName {x : Str} {np pos : Pos} {args : List Expr} {keywords : List Keyword} {Q : Value → Shared → Prop}
    (h : wpAny M A (eval (.Name x np) env) (fun f s₁ => wpP M A (callWith pos f [] (backTo pos (starEach args env)) (backToKw pos (keywordEach keywords env))) Q E s₁) E s) :
    wpP M A (eval (.Call (.Name x np) args keywords pos) env) Q E s := by
  show wpP M A (do callWith pos (← eval (.Name x np) env) [] (backTo pos (starEach args env)) (backToKw pos (keywordEach keywords env))) Q E s
  exact P_bindA h
theorem P_methodCall {name : Str} {o : Expr} {apos pos : Pos} {args : List Expr} {kws : List Keyword} {pl : Sem Bool} {Q : Value → Shared → Prop}
    (h : wpAny M A (eval o env) (fun ov s₁ => wpAny M A (getMethod ov name pl) (fun fx s₂ => wpP M A (callWith pos fx.1 fx.2 (backTo pos (starEach args env)) (backToKw pos (keywordEach kws env))) Q E s₂) E s₁) E s)
    (he : eval (.Call (.Attribute o name apos) args kws pos) env = (do
      let ov ← eval o env
      standAt apos.atName
      let (f, first) ← holding [ov] (getMethod ov name pl)
      callWith pos f first (backTo pos (starEach args env)) (backToKw pos (keywordEach kws env))) := by rfl) :
    wpP M A (eval (.Call (.Attribute o name apos) args kws pos) env) Q E s := by
  rw [he]
  refine P_bindA (wpAny_mono h (fun ov s₁ h₁ => P_standAt (P_bindA (wpAny_holding (wpAny_mono h₁ (fun fx s₂ h₂ => ?_) fun _ _ x => x)))) fun _ _ x => x)
  exact h₂
theorem P_callWith_of {pos : Pos} {f : Value} {first : List Value} {P : Heap → Prop} {args : List (Bool × Sem Value)} {keywords : List (Option Str × Sem Value)} {Q : Value → Shared → Prop} (hplain : (args.any (·.1) || keywords.any (·.1.isNone)) = false)
    (hk : ∀ h, P h → ∃ k, (k = Keeper.frame ∨ k = Keeper.machine ∨ k = Keeper.boundFrame) ∧ Looks M h (keeperOf f) k)
    (h : wpAny M A (evalArgs f true args keywords) (fun a s₁ => P s₁.heap ∧ wpP M A (call f (first ++ a.pos) a.kw) Q E s₁) E s) : wpP M A (callWith pos f first args keywords) Q E s := by
  unfold callWith
  refine P_bindA (wpAny_holding (wpAny_mono h (fun a s₁ h₁ => P_standAt ?_) fun _ _ x => x))
  obtain ⟨k, hk', L⟩ := hk _ h₁.1
  simp only [hplain]
  refine P_bindA (L.here ?_)
  have tail : ∀ {t : Sem Value}, wpP M A t Q E s₁ → wpP M A (t >>= fun r => holding [r] point >>= fun _ => pure r) Q E s₁ :=
    fun ht => P_bind (P_mono ht (fun r s₂ hr => P_bindA (wpAny_holding (wpAny_point (P_pure hr)))) fun _ _ x => x)
  have marked (mk : Value) : wpP M A (callMarked mk f (first ++ a.pos) a.kw) Q E s₁ := by unfold callMarked; exact P_keep h₁.2
  rcases hk' with rfl | rfl | rfl <;> dsimp only <;> first | exact tail h₁.2 | (split <;> first | exact tail h₁.2 | exact tail (marked _))
theorem P_callWith_type {pos : Pos} {T : String} {first : List Value} {args : List (Bool × Sem Value)} {Q : Value → Shared → Prop} (hplain : args.any (·.1) = false)
    (h : wpAny M A (evalArgs (.type T) true args []) (fun a s₁ => wpP M A (call (.type T) (first ++ a.pos) a.kw) Q E s₁) E s) :
    wpP M A (callWith pos (.type T) first args []) Q E s := by
  unfold callWith
  refine P_bindA (wpAny_holding (wpAny_mono h (fun a s₁ h₁ => P_standAt ?_) fun _ _ x => x))
  simp only [hplain, List.any_nil, Bool.or_false]
  refine P_bindA (wpAny_pure ?_)
  exact P_bind (P_mono h₁ (fun r s₂ hr => P_bindA (wpAny_holding (wpAny_point (P_pure hr)))) fun _ _ x => x)
end
section
variable {prog : Program} {w : World} {A : Around} {K : Frag} {H0 h : Heap} {fs : List (Nat × Map)} {H : PH} {n : Nat} {L : Nat} {m : Map} {g : Array GenState} {d : Drawn} {tk : Nat} {os : OsState}
  {E : Value → Shared → Prop} {P : Params} {s : Shared} {env : Env} {pos : Pos} {f : Value} {first : List Value}
theorem P_callK {M : Model} {e : Expr} {rest : List Expr} {Q : Value → Shared → Prop} (hk : keepIn K f = true) (h : wpAny M A (spliced (backTo pos (starEach (e :: rest) env))) (fun vs s₁ => K.In s₁.heap ∧ wpP M A (call f (first ++ vs)) Q E s₁) E s)
    (he : starEach (e :: rest) env = (false, eval e env) :: starEach rest env := by rfl) (hplain : (backTo pos (starEach rest env)).any (·.1) = false := by rfl) :
    wpP M A (callWith pos f first (backTo pos (starEach (e :: rest) env)) []) Q E s := by
  rw [he] at h ⊢
  exact P_callWith_of (by show ((false || (backTo pos (starEach rest env)).any (·.1)) || false) = false; rw [hplain]; rfl) (keeps_K hk) (evalArgs_plain h)
theorem P_callT {M : Model} {T : String} {e : Expr} {rest : List Expr} {Q : Value → Shared → Prop} (h : wpAny M A (spliced (backTo pos (starEach (e :: rest) env))) (fun vs s₁ => wpP M A (call (.type T) (first ++ vs)) Q E s₁) E s)
    (he : starEach (e :: rest) env = (false, eval e env) :: starEach rest env := by rfl) (hplain : (backTo pos (starEach rest env)).any (·.1) = false := by rfl) :
    wpP M A (callWith pos (.type T) first (backTo pos (starEach (e :: rest) env)) []) Q E s := by
  rw [he] at h ⊢
  exact P_callWith_type (by show (false || (backTo pos (starEach rest env)).any (·.1)) = false; rw [hplain]; rfl) (evalArgs_plain h)
theorem P_enter {RR : Result → Shared → Prop} {name qual : Str} {params : Arguments} {body : List Stmt} {scope : Scope} {dV kV doc pm cdv ct oc : Value} {an od : Option Addr} {osl : Array (Option Value)} {f : Addr} {args : Args} {binds : List (Str × Value)}
    (R : RC P H0 fs H n h) (G : Gd K H0) (hz : H0.objs.size ≤ n) (hroom : A.depth < recursionLimit)
    (ho : K.lookup f = some ⟨oc, od, .func (fnOf name qual params body scope dV kV doc pm an cdv ct), osl⟩) (hcd : codeIn K cdv qual = true)
    (hbind : BindsTo ⟨h, g, d, tk, os⟩ (fnOf name qual params body scope dV kV doc pm an cdv ct) args binds) (hloc : (binds.all fun x => decide (scope.names.lookup x.1 = some .local)) = true)
    (k : ∀ (L' : Nat) h₁ tk₁, n ≤ L' → RC P H0 ((L', fun y => binds.reverse.lookup y) :: fs) H (L' + 1) h₁ →
      wpP (model prog w) (A.deeper (envOf qual scope L' f cdv)) (execs body (envOf qual scope L' f cdv))
        (fun fl s' => RR (.ok (.ret (match fl with | .ret v => v | _ => .none))) s')
        (fun e s' => wpAny (model prog w) (A.deeper (envOf qual scope L' f cdv)) (leaving (envOf qual scope L' f cdv) e) (fun _ s'' => RR (.error e) s'') (fun e' s'' => RR (.error e') s'') s')
        ⟨h₁, g, d, tk₁, os⟩)
    (hco : scope.isCoroutine = false := by rfl) (hgen : scope.isGenerator = false := by rfl) (hk : scope.kind = .function := by rfl)
    (hcell : ∀ x ∈ scope.names, x.2 ≠ .cell := by decide) : codeP (model prog w) A (.call (.ref f) args) RR ⟨h, g, d, tk, os⟩ := by
  refine codeP_def (fd := fnOf name qual params body scope dV kV doc pm an cdv ct) (body := body) (binds := binds) hroom (G.at R _ _ ho) rfl (G.nolimit R) (codeRec_of (G.at R) hcd) rfl hbind hcell (locs hloc) (fun h₁ hns hk₁ => ?_) hco hgen hk
  have hsz := R.sz
  exact k h.objs.size h₁ _ hsz (R.enter (Nat.le_trans hz hsz) hns hk₁)
theorem P_def {Q : Value → Shared → Prop} {name qual : Str} {params : Arguments} {body : List Stmt} {scope : Scope} {dV kV doc pm cdv ct oc : Value} {an od : Option Addr} {osl : Array (Option Value)} {f : Addr} {pos : List Value} {kw : List (Str × Value)} {binds : List (Str × Value)}
    (R : RC P H0 fs H n h) (G : Gd K H0) (hz : H0.objs.size ≤ n) (hroom : A.depth < recursionLimit)
    (ho : K.lookup f = some ⟨oc, od, .func (fnOf name qual params body scope dV kV doc pm an cdv ct), osl⟩) (hcd : codeIn K cdv qual = true)
    (hbind : BindsTo ⟨h, g, d, tk, os⟩ (fnOf name qual params body scope dV kV doc pm an cdv ct) ⟨pos, kw⟩ binds) (hloc : (binds.all fun x => decide (scope.names.lookup x.1 = some .local)) = true)
    (k : ∀ (L' : Nat) h₁ tk₁, n ≤ L' → RC P H0 ((L', fun y => binds.reverse.lookup y) :: fs) H (L' + 1) h₁ →
      wpP (model prog w) (A.deeper (envOf qual scope L' f cdv)) (execs body (envOf qual scope L' f cdv))
        (fun fl s' => Q (match fl with | .ret v => v | _ => .none) s') (fun _ _ => False) ⟨h₁, g, d, tk₁, os⟩)
    (hco : scope.isCoroutine = false := by rfl) (hgen : scope.isGenerator = false := by rfl) (hk : scope.kind = .function := by rfl)
    (hcell : ∀ x ∈ scope.names, x.2 ≠ .cell := by decide) : wpP (model prog w) A (call (.ref f) pos kw) Q E ⟨h, g, d, tk, os⟩ :=
  P_call (P_enter R G hz hroom ho hcd hbind hloc (fun L' h₁ tk₁ hl R' => P_mono (k L' h₁ tk₁ hl R') (fun fl s' q => q) fun _ _ x => x.elim) hco hgen hk hcell)
end
theorem Qb {Q : Value → Shared → Prop} {y z : List UInt8} {t : Tok} {s : Shared} (e : y = z) (h : Q (.bytes y.toArray t) s) : Q (.bytes z.toArray t) s := e ▸ h
theorem ite_tt {X Y : Prop} (h : X) : if true = true then X else Y := by rw [if_pos rfl]; exact h
theorem ite_ff {X Y : Prop} (h : Y) : if false = true then X else Y := by rw [if_neg (by decide)]; exact h
theorem boot_ba : bootBuiltins "bytearray" = some (.type "bytearray") := by decide +kernel
noncomputable def Only (S : List Nat) (H H' : PH) : Prop := ∀ a x, a ∉ S → H a = some x → H' a = some x
theorem Only.at {S : List Nat} {H H' : PH} {a : Nat} {x : AO} (o : Only S H H') (hn : a ∉ S) (e : H a = some x) : H' a = some x := o a x hn e
theorem Only.refl (S : List Nat) (H : PH) : Only S H H := fun _ _ _ e => e
theorem Only.trans {S : List Nat} {H H' H'' : PH} (o : Only S H H') (o' : Only S H' H'') : Only S H H'' := fun a x n e => o' a x n (o a x n e)
theorem Only.mono {S S' : List Nat} {H H' : PH} (o : Only S H H') (h : ∀ a ∈ S, a ∈ S') : Only S' H H' := fun a x n e => o a x (fun q => n (h a q)) e
theorem Only.set (S : List Nat) {H H' : PH} {a : Nat} {x : AO} (o : Only S H H') (h : a ∈ S) : Only S H (H'.set a x) := fun b y n e => by
  rw [PH.set_ne (fun q => n (by rw [q]; exact h))]; exact o b y n e
theorem Only.new (S : List Nat) {H H' : PH} {a : Nat} {x : AO} (o : Only S H H') (h : H a = none) : Only S H (H'.set a x) := fun b y n e => by
  rw [PH.set_ne (fun q => by rw [q, h] at e; cases e)]; exact o b y n e
theorem Only.le (S : List Nat) {H H' H'' : PH} (o : Only S H H') (l : H'.le H'') : Only S H H'' := fun a x n e => l a x (o a x n e)
theorem ne_of {H : PH} {a b : Nat} {x y : AO} (e : H a = some x) (e' : H b = some y) (h : x ≠ y) : a ≠ b := fun q => by
  subst q; rw [e] at e'; exact h (Option.some.inj e')
theorem PH.set_same {H : PH} {a : Nat} {x : AO} (e : H a = some x) : H.set a x = H := by
  funext b
  simp only [PH.set]
  split
  · rename_i q; rw [q, e]
  · rfl
theorem ints_take : ∀ {vs : List Value} {ns : List Int} (k : Nat), IntsAre vs ns → IntsAre (vs.take k) (ns.take k)
  | _, _, 0, _ => .nil
  | _, _, _ + 1, .nil => .nil
  | _, _, k + 1, .cons n t r => .cons n t (ints_take k r)
noncomputable def StAt (H : PH) (st : Nat) (b : Int) : Prop :=
  ∃ (cl : Nat) (at_ : Int) (t : Tok) (vs : List Value) (cells : List Int), H st = some (.lst [.int at_ t, .ref cl]) ∧ H cl = some (.lst vs) ∧ IntsAre vs cells ∧ cl ≠ st ∧ 0 < cells.length ∧ cells.length < 2 ^ 20 ∧ 0 ≤ at_ ∧ at_ ≤ b
noncomputable def StOf (H : PH) (st : Nat) (cl : Nat) : Prop := ∃ v vs, H st = some (.lst [v, .ref cl]) ∧ H cl = some (.lst vs)
noncomputable def Imm : AO → Prop
  | .inst _ _ => True
  | .tup _ => True
  | .dic l => (l.head?.map Prod.fst) = some "_cipher_name"
  | _ => False
noncomputable def KeepI (H H' : PH) : Prop := ∀ a z, Imm z → H a = some z → H' a = some z
theorem KeepI.refl (H : PH) : KeepI H H := fun _ _ _ e => e
theorem KeepI.le {H H' H'' : PH} (k : KeepI H H') (l : H'.le H'') : KeepI H H'' := fun a z i e => l a z (k a z i e)
theorem KeepI.trans {H H' H'' : PH} (k : KeepI H H') (l : KeepI H' H'') : KeepI H H'' := fun a z i e => l a z i (k a z i e)
theorem KeepI.set {H H' : PH} {a : Nat} {x y : AO} (k : KeepI H H') (e : H a = some y) (hy : ¬ Imm y) : KeepI H (H'.set a x) := fun b z i e' => by
  by_cases q : b = a
  · subst q; rw [e] at e'; cases e'; exact absurd i hy
  · rw [PH.set_ne q]; exact k b z i e'
theorem KeepI.new {H H' : PH} {a : Nat} {x : AO} (k : KeepI H H') (e : H a = none) : KeepI H (H'.set a x) := fun b z i e' => by
  by_cases q : b = a
  · subst q; rw [e] at e'; cases e'
  · rw [PH.set_ne q]; exact k b z i e'
theorem KeepI.only {S : List Nat} {H H' H'' : PH} (k : KeepI H H') (o : Only S H' H'') (h : ∀ b ∈ S, ∀ z, H b = some z → ¬ Imm z) : KeepI H H'' := fun a z i e => by
  by_cases q : a ∈ S
  · exact absurd i (h a q z e)
  · exact o a z q (k a z i e)
theorem nimm_ctx {v : Value} {l : List (Str × Value)} : ¬ Imm (.dic (("aead", v) :: l)) := fun q => absurd (show some (Str.ofString "aead") = some (Str.ofString "_cipher_name") from q) (by decide)
theorem nimm_pair {v : Value} {l : List (Str × Value)} : ¬ Imm (.dic (("aead_tag_size", v) :: l)) := fun q => absurd (show some (Str.ofString "aead_tag_size") = some (Str.ofString "_cipher_name") from q) (by decide)
theorem nimm_lst {vs : List Value} : ¬ Imm (.lst vs) := id
theorem nimm_raw {o : Obj} : ¬ Imm (.raw o) := id
theorem nimm_prp {p : Obj → Prop} : ¬ Imm (.prp p) := id
noncomputable def rngObj (x left : Int) : Obj := { cls := .type "range_iterator", dict := none, data := .fields #[rawInt x, rawInt left, rawInt 1], slots := #[] }
noncomputable abbrev AO.rng (x left : Int) : AO := .raw (rngObj x left)
theorem codeP_loop' {M : Model} {A : Around} {s : Shared} {c : Code} {R : Result → Shared → Prop} (hq : c.quiet = true) (hk : okCode c = true) (I : Nat → Shared → Prop)
    (turn : ∀ n s, I n s → wpP M (A.under c) (M.den c)
      (fun fin s' => match fin with
        | .done f => R (.ok f) s'
        | .again c' => (c' = c ∧ ∃ m, m < n ∧ I m s') ∨ (c'.quiet = true ∧ okCode c' = true ∧ codeP M A c' R s')) (fun e s' => R (.error e) s') s)
    (n : Nat) (h : I n s) : codeP M A c R s := by
  induction n using Nat.strongRecOn generalizing s with
  | ind n ih =>
    refine codeP_tree (P_mono (turn n s h) (fun fin s' hf => ?_) fun _ _ h' => h')
    cases fin with
    | done f => exact hf
    | again c' =>
      rcases hf with ⟨rfl, m, hm, hI⟩ | hf
      · exact ⟨hq, hk, ih m hm hI⟩
      · exact hf
section
variable {prog : Program} {w : World} {A : Around} {s : Shared} {env : Env}
theorem codeP_block {stmts : List Stmt} {R : Result → Shared → Prop} (h : wpP (model prog w) A (execs stmts env) (fun f s' => R (.ok f) s') (fun _ _ => False) s) : codeP (model prog w) A (.block stmts env) R s := by
  refine codeP_tree ?_
  show wpP _ A (do return Fin.done (← (execs stmts env).onRaise (fun x => do noteFrame x env; theTreesLotGoes x))) _ _ s
  exact P_bind (P_onRaise (P_mono h (fun f s' q => P_pure q) fun _ _ x => x.elim))
theorem codeP_forLoop {R : Result → Shared → Prop} {target : Expr} {it : Value} {body orelse : List Stmt} (I : Nat → Shared → Prop)
    (turn : ∀ n s, I n s → wpP (model prog w) A (pyNext it) (fun r s₁ => match r with
      | none => wpP (model prog w) A (execs orelse env) (fun f s₃ => R (.ok f) s₃) (fun _ _ => False) s₁
      | some v => wpP (model prog w) A (assign target env v) (fun _ s₂ => wpP (model prog w) A (execs body env) (fun f s₃ => match f with
          | .next | .cont => ∃ m, m < n ∧ I m s₃
          | .brk => R (.ok .next) s₃
          | .ret v => R (.ok (.ret v)) s₃) (fun _ _ => False) s₂) (fun _ _ => False) s₁) (fun _ _ => False) s)
    (n : Nat) (h : I n s) (ht : ∀ v, letOwnedTupleGo target it v = pure () := by intro _; rfl) : codeP (model prog w) A (.forLoop target it body orelse env) R s := by
  refine codeP_loop' rfl rfl I (fun n s hI => ?_) n h
  show wpP _ _ ((forTurn target it body orelse env).onRaise (fun x => do noteFrame x env; theTreesLotGoes x)) _ _ s
  refine P_onRaise ?_
  simp only [forTurn]
  refine P_standAt (P_bind (P_onRaise (P_mono (turn n s hI) (fun r s₁ h₁ => ?_) fun _ _ h' => h'.elim)))
  cases r with
  | none => exact P_pure (.inr ⟨rfl, rfl, codeP_block h₁⟩)
  | some v =>
    refine P_bindA (wpAny_of_eq (ht v) ?_)
    refine P_bind (P_mono h₁ (fun _ s₂ h₂ => P_bind (P_mono h₂ (fun f s₃ h₃ => ?_) fun _ _ h' => h'.elim)) fun _ _ h' => h'.elim)
    cases f with
    | next => exact P_pure (.inl ⟨rfl, h₃⟩)
    | cont => exact P_pure (.inl ⟨rfl, h₃⟩)
    | brk => exact P_pure h₃
    | ret v => exact P_pure h₃
end
theorem P_runOwn {M : Model} {A : Around} {E : Value → Shared → Prop} {s : Shared} {env : Env} {c : Code} {Q : Flow → Shared → Prop} (ok : okCode c = true)
    (hc : codeP M (A.mark none) c (fun r s' => match r with | .ok f => Q f s' | .error e => False) s) : wpP M A (runOwn c env) Q E s := by
  unfold runOwn
  refine P_onRaise (P_run ok (codeP_mono hc fun r s' h => ?_))
  cases r with
  | ok f => exact h
  | error e => exact h.elim
theorem P_For {M : Model} {A : Around} {E : Value → Shared → Prop} {s : Shared} {env : Env} {target iter : Expr} {body orelse : List Stmt} {pos : Pos} {Q : Flow → Shared → Prop}
    (h : wpAny M A (eval iter env) (fun x s₁ => wpAny M A (pyIter x) (fun it s₂ =>
      codeP M (A.mark none) (.forLoop target it body orelse env) (fun r s' => match r with | .ok f => Q f s' | .error e => False) s₂) E s₁) E s)
    (hf : ∀ x, foldedSetIterable iter env x = pure x := by intro _; rfl) : wpP M A (exec (.For target iter body orelse pos) env) Q E s := by
  rw [exec_For]
  refine P_standAt (P_bindA (wpAny_mono h (fun x s₁ h₁ => ?_) fun _ _ x => x))
  refine P_bindA (wpAny_of_eq (hf x) ?_)
  refine P_standAt (P_bindA (wpAny_holding (wpAny_mono h₁ (fun it s₂ h₂ => ?_) fun _ _ x => x)))
  exact P_runOwn rfl h₂
section
variable {prog : Program} {w : World} {A : Around} {K : Frag} {H0 h : Heap} {fs : List (Nat × Map)} {H : PH} {n : Nat} {L : Nat} {m : Map} {g : Array GenState} {d : Drawn} {tk : Nat} {os : OsState}
  {E : Value → Shared → Prop} {P : Params}
theorem r_range {i : Int} {t : Tok} {Q : Value → Shared → Prop} (R : RC P H0 fs H n h) (hz : H0.objs.size ≤ n)
    (q : ∀ (a : Nat) h' u v tk', n ≤ a → RC P H0 fs (H.set a (.raw { cls := .type "range", data := .fields #[.int 0 u, .int i t, .int 1 v] })) (a + 1) h' → Q (.ref a) ⟨h', g, d, tk', os⟩) :
    wpAny (model prog w) A (call (.type "range") [.int i t]) Q E ⟨h, g, d, tk, os⟩ :=
  call_range_1 (q _ _ _ _ _ R.sz (R.push (x := .raw _) rfl rfl (Nat.le_trans hz R.sz)))
theorem range_small {i : Int} (h0 : 0 ≤ i) (h1 : i < 1000000) : Builtin.Range.small 0 i 1 = true := by
  have e : Builtin.Range.rangeSize 0 i 1 = i := by
    unfold Builtin.Range.rangeSize
    rw [if_pos (by decide)]
    split
    · rw [Int.ediv_one]; walk_at "om"
    · walk_at "om"
  unfold Builtin.Range.small Builtin.Range.rangeFitsLong
  rw [e]
  simp only [Bool.and_eq_true, Bool.or_eq_true, decide_eq_true_eq]
  refine ⟨⟨⟨⟨⟨by omega, by walk_at "om"⟩, ⟨by omega, by walk_at "om"⟩⟩, ⟨by omega, by walk_at "om"⟩⟩, ⟨by omega, by walk_at "om"⟩⟩, .inr ?_⟩
  rw [if_pos (by decide)]
  simp only [Bool.and_eq_true, decide_eq_true_eq]
  walk_at "om"
theorem r_iter_range {a : Nat} {i : Int} {t u v : Tok} {Q : Value → Shared → Prop} (R : RC P H0 fs H n h) (hz : H0.objs.size ≤ n) (e : H a = some (.raw { cls := .type "range", data := .fields #[.int 0 u, .int i t, .int 1 v] })) (h0 : 0 ≤ i) (h1 : i < 1000000)
    (q : ∀ (b : Nat) h', n ≤ b → RC P H0 fs (H.set b (.rng 0 i)) (b + 1) h' → Q (.ref b) ⟨h', g, d, tk, os⟩) : wpAny (model prog w) A (pyIter (.ref a)) Q E ⟨h, g, d, tk, os⟩ := by
  obtain ⟨o, ho, rfl⟩ := R.obj e
  refine wpAny_pyIter_range (s := ⟨h, g, d, tk, os⟩) ho (range_small h0 h1) ?_
  have e : Builtin.Range.rangeSize 0 i 1 = i := by
    unfold Builtin.Range.rangeSize
    rw [if_pos (by decide)]
    split
    · rw [Int.ediv_one]; walk_at "om"
    · walk_at "om"
  rw [e]
  exact q _ _ R.sz (R.push (x := .rng 0 i) rfl rfl (Nat.le_trans hz R.sz))
noncomputable def PH.del (H : PH) (a : Nat) : PH := fun b => if b = a then none else H b
theorem PH.del_only (H : PH) (a : Nat) : Only [a] H (H.del a) := fun b x hn e => by
  have : b ≠ a := fun q => hn (List.mem_singleton.mpr q)
  simp only [PH.del, if_neg this]; exact e
theorem RC.del {h' : Heap} {a : Nat} {x : AO} (R : RC P H0 fs H n h) (e : H a = some x) (k : Heap.ExtBut a h h') (hs : h.objs.size ≤ h'.objs.size) : RC P H0 fs (H.del a) n h' where
  ext := fun b o e' => by
    refine k b o (fun q => ?_) (R.ext b o e')
    subst q
    have := ltsz e'
    have := R.ge e
    walk_at "om"
  sz := Nat.le_trans R.sz hs
  at_ := fun b z e' => by
    simp only [PH.del] at e'
    split at e'
    · cases e'
    · rename_i q
      obtain ⟨⟨o, ho', hi⟩, r⟩ := R.at_ b z e'
      exact ⟨⟨o, k _ _ q ho', hi⟩, r⟩
  fr := fun p hp => by
    obtain ⟨⟨o, es, ep, ho', r⟩, b⟩ := R.fr p hp
    exact ⟨⟨o, es, ep, k _ _ (fun q => (R.at_ _ _ e).2.2.2 p hp q.symm) ho', r⟩, b⟩
  nd := R.nd
theorem PH.le_only {H H' H'' : PH} {a : Nat} (l : H.le H') (o : Only [a] H' H'') (e : H a = none) : H.le H'' := fun b x q => by
  refine o b x (fun hb => ?_) (l b x q)
  rw [List.mem_singleton.mp hb, e] at q; cases q
noncomputable def Turn (P : Params) (H0 : Heap) (fs : List (Nat × Map)) (L it : Nat) (N : Nat) (n : Nat) (g : Array GenState) (d : Drawn) (os : OsState) (Inv : Nat → PH → Map → Prop) (Q : Flow → Shared → Prop) (i : Nat) (f : Flow) (s : Shared) : Prop :=
  match f with
  | .next | .cont => ∃ H' m' n' h' tk', s = ⟨h', g, d, tk', os⟩ ∧ n ≤ n' ∧ H' it = some (.rng (i + 1 : Nat) (N - (i + 1 : Nat))) ∧ Inv (i + 1) H' m' ∧ RC P H0 ((L, m') :: fs) H' n' h'
  | .brk => Q .next s
  | .ret v => Q (.ret v) s
theorem turn_next {it N i : Nat} {Inv : Nat → PH → Map → Prop} {Q : Flow → Shared → Prop} {H' : PH} {m' : Map} {n' : Nat} {h' : Heap} {tk' : Nat} (R : RC P H0 ((L, m') :: fs) H' n' h') (hn : n ≤ n') (hit : H' it = some (.rng (i + 1 : Nat) (N - (i + 1 : Nat)))) (hI : Inv (i + 1) H' m') :
    Turn P H0 fs L it N n g d os Inv Q i .next ⟨h', g, d, tk', os⟩ := ⟨H', m', n', h', tk', rfl, hn, hit, hI, R⟩
noncomputable def TInv (P : Params) (H0 : Heap) (fs : List (Nat × Map)) (L it N n : Nat) (g : Array GenState) (d : Drawn) (os : OsState) (Inv : Nat → PH → Map → Prop) (k : Nat) (s : Shared) : Prop :=
  ∃ i H' m' n' h' tk', k + i = N + 1 ∧ i ≤ N ∧ s = ⟨h', g, d, tk', os⟩ ∧ n ≤ n' ∧ H' it = some (.rng (i : Nat) (N - (i : Nat))) ∧ Inv i H' m' ∧ RC P H0 ((L, m') :: fs) H' n' h'
theorem TInv.el {it N k : Nat} {Inv : Nat → PH → Map → Prop} {s : Shared} {G : Shared → Prop} (q : TInv P H0 fs L it N n g d os Inv k s)
    (c : ∀ i H' m' n' h' tk', k + i = N + 1 → i ≤ N → n ≤ n' → H' it = some (.rng (i : Nat) (N - (i : Nat))) → Inv i H' m' → RC P H0 ((L, m') :: fs) H' n' h' → G ⟨h', g, d, tk', os⟩) : G s := by
  obtain ⟨i, H', m', n', h', tk', h1, h2, rfl, h3, h4, h5, h6⟩ := q
  exact c i H' m' n' h' tk' h1 h2 h3 h4 h5 h6
theorem Turn.mk {it N i k : Nat} {Inv : Nat → PH → Map → Prop} {s : Shared} (q : ∃ H' m' n' h' tk', s = ⟨h', g, d, tk', os⟩ ∧ n ≤ n' ∧ H' it = some (.rng (i + 1 : Nat) (N - (i + 1 : Nat))) ∧ Inv (i + 1) H' m' ∧ RC P H0 ((L, m') :: fs) H' n' h') (hki : k + i = N + 1) (hlt : i < N) :
    TInv P H0 fs L it N n g d os Inv (k - 1) s := by
  obtain ⟨H3, m3, n3, h3, tk3, rfl, hn3, hit3, hI3, R3⟩ := q
  exact ⟨i + 1, H3, m3, n3, h3, tk3, by omega, hlt, rfl, hn3, hit3, hI3, R3⟩
theorem range_turns2 {x : Str} {px : Pos} {body : List Stmt} {cn : Str} {cs : Scope} {f : Addr} {cdv : Value} {it N : Nat} {Q : Flow → Shared → Prop} (hh : A.handled = none)
    (R : RC P H0 ((L, m) :: fs) H n h) (e : H it = some (.rng 0 N)) (Inv : Nat → PH → Map → Prop) (i0 : Inv 0 H m)
    (turn : ∀ i H' m' n' h' tk' tk'', i < N → Inv i H' m' → n ≤ n' → H' it = some (.rng (i + 1 : Nat) (N - (i + 1 : Nat))) → RC P H0 ((L, upd m' x (.int (i : Nat) tk'')) :: fs) H' n' h' →
      wpAny (model prog w) A (execs body (envOf cn cs L f cdv)) (Turn P H0 fs L it N n g d os Inv Q i) (fun _ _ => False) ⟨h', g, d, tk', os⟩)
    (fin : ∀ H' m' n' h' tk', Inv N H' m' → n ≤ n' → RC P H0 ((L, m') :: fs) H' n' h' → Q .next ⟨h', g, d, tk', os⟩)
    (hinv : ∀ i H' H'' m', Only [it] H' H'' → (∃ o, H' it = some (.raw o)) → Inv i H' m' → Inv i H'' m')
    (hk : cs.kind = .function) (hl : (envOf cn cs L f cdv).kindOf x = some .local) :
    codeAny (model prog w) A (.forLoop (.Name x px) (.ref it) body [] (envOf cn cs L f cdv)) (fun r s' => match r with | .ok f => Q f s' | .error e => False) ⟨h, g, d, tk, os⟩ := by
  refine codeAny_forLoop (TInv P H0 fs L it N n g d os Inv) ?_ (N + 1)
    ⟨0, H, m, n, h, tk, rfl, Nat.zero_le _, rfl, Nat.le_refl _, by rw [e]; simp, i0, R⟩
  intro k s q
  refine TInv.el q ?_
  clear q
  intro i H' m' n' h' tk' hki hi hn hit hI R'
  obtain ⟨o, ho, rfl⟩ := R'.obj hit
  by_cases hlt : i < N
  · refine with_size (wpAny_pyNext_range_item (s := ⟨h', g, d, tk', os⟩) (x := (i : Nat)) (left := (N : Int) - (i : Nat)) (step := 1) ho (by walk_at "om") fun h1 ho1 hs1 hsz => ?_)
    have R1 : RC P H0 ((L, m') :: fs) (H'.set it (.rng (i + 1 : Nat) (N - (i + 1 : Nat)))) n' h1 := by
      refine R'.put hit ho1 ?_ (fun b o hb e => (hs1.2 b hb).trans e) hsz
      show rngObj _ _ = rngObj _ _
      congr 1; walk_at "om"
    refine wpAny_assign_Name (r_store R1 (fun h2 tk2 R2 => ?_) hk hl)
    refine wpAny_mono (turn i _ m' n' h2 _ _ hlt (hinv i H' _ m' (Only.set _ (Only.refl _ _) (List.mem_singleton.mpr rfl)) ⟨_, hit⟩ hI) hn (PH.set_self _ _ _) R2) (fun f s3 q => ?_) fun _ _ x => x.elim
    have hk1 : k - 1 < k := by omega
    cases f with
    | next => exact ⟨k - 1, hk1, Turn.mk q hki hlt⟩
    | cont => exact ⟨k - 1, hk1, Turn.mk q hki hlt⟩
    | brk => exact q
    | ret v => exact q
  · have : i = N := by walk_at "om"
    subst this
    refine with_size (wpAny_pyNext_range_end (s := ⟨h', g, d, tk', os⟩) (x := (i : Nat)) (left := (i : Int) - (i : Nat)) (step := 1) hh ho (by walk_at "om") fun h1 hs1 hsz => ?_)
    refine wpAny_execs_nil ?_
    exact fin (H'.del it) m' n' h1 _ (hinv i H' _ m' (PH.del_only _ _) ⟨_, hit⟩ hI) hn (R'.del hit hs1 hsz)
theorem range_turns {x : Str} {px : Pos} {body : List Stmt} {cn : Str} {cs : Scope} {f : Addr} {cdv : Value} {it N : Nat} {Q : Flow → Shared → Prop} (hh : A.handled = none)
    (R : RC P H0 ((L, m) :: fs) H n h) (e : H it = some (.rng 0 N)) (Inv : Nat → PH → Map → Prop) (i0 : Inv 0 H m)
    (turn : ∀ i H' m' n' h' tk' tk'', i < N → Inv i H' m' → n ≤ n' → H' it = some (.rng (i + 1 : Nat) (N - (i + 1 : Nat))) → RC P H0 ((L, upd m' x (.int (i : Nat) tk'')) :: fs) H' n' h' →
      wpAny (model prog w) A (execs body (envOf cn cs L f cdv)) (Turn P H0 fs L it N n g d os Inv Q i) (fun _ _ => False) ⟨h', g, d, tk', os⟩)
    (fin : ∀ H' m' n' h' tk', Inv N H' m' → n ≤ n' → RC P H0 ((L, m') :: fs) H' n' h' → Q .next ⟨h', g, d, tk', os⟩)
    (hinv : ∀ i H' H'' m', Only [it] H' H'' → Inv i H' m' → Inv i H'' m')
    (hk : cs.kind = .function) (hl : (envOf cn cs L f cdv).kindOf x = some .local) :
    codeAny (model prog w) A (.forLoop (.Name x px) (.ref it) body [] (envOf cn cs L f cdv)) (fun r s' => match r with | .ok f => Q f s' | .error e => False) ⟨h, g, d, tk, os⟩ := 
  range_turns2 hh R e Inv i0 turn fin (fun i H1 H2 m1 o _ x => hinv i H1 H2 m1 o x) hk hl
theorem wpAny_For_noraise {M : Model} {A : Around} {E : Value → Shared → Prop} {s : Shared} {env : Env} {target iter : Expr} {body orelse : List Stmt} {pos : Pos} {Q : Flow → Shared → Prop}
    (h : wpAny M A (eval iter env) (fun x s₁ => wpAny M A (pyIter x) (fun it s₂ =>
      codeAny M A (.forLoop target it body orelse env) (fun r s' => match r with | .ok f => Q f s' | .error e => False) s₂) E s₁) E s)
    (hf : ∀ x, foldedSetIterable iter env x = pure x := by intro _; rfl) : wpAny M A (exec (.For target iter body orelse pos) env) Q E s := by
  refine wpAny_For (wpAny_mono h (fun x s₁ h₁ => wpAny_mono h₁ (fun it s₂ h₂ => codeAny_mono h₂ fun r s' q => ?_) fun _ _ x => x) fun _ _ x => x) hf
  cases r with
  | ok f => exact q
  | error e => exact q.elim
end
theorem nat_xor_and (a : Nat) : ∀ b : Nat, (a ^^^ b) + 2 * (a &&& b) = a + b := by
  induction a using Nat.strongRecOn with
  | ind a ih =>
    intro b
    by_cases ha : a = 0
    · subst ha; simp
    · have h := ih (a / 2) (by walk_at "om") (b / 2)
      have x1 : (a ^^^ b) / 2 = a / 2 ^^^ b / 2 := Nat.xor_div_two
      have x2 : (a ^^^ b) % 2 = (a + b) % 2 := by
        have q : (a ^^^ b) % 2 = (a % 2) ^^^ (b % 2) := by
          have := Nat.xor_mod_two_pow (a := a) (b := b) (n := 1)
          simpa using this
        rw [q]
        rcases Nat.mod_two_eq_zero_or_one a with e | e <;> rcases Nat.mod_two_eq_zero_or_one b with e' | e' <;> rw [e, e'] <;> (try simp) <;> walk_at "om"
      have a1 : (a &&& b) / 2 = a / 2 &&& b / 2 := Nat.and_div_two
      have a2 : (a &&& b) % 2 = (a % 2) * (b % 2) := by
        have q : (a &&& b) % 2 = (a % 2) &&& (b % 2) := by
          have := Nat.and_mod_two_pow (a := a) (b := b) (n := 1)
          simpa using this
        rw [q]
        rcases Nat.mod_two_eq_zero_or_one a with e | e <;> rcases Nat.mod_two_eq_zero_or_one b with e' | e' <;> rw [e, e'] <;> rfl
      rcases Nat.mod_two_eq_zero_or_one a with e | e <;> rcases Nat.mod_two_eq_zero_or_one b with e' | e' <;> rw [e, e'] at a2 <;> walk_at "om"
theorem bitXor_nat (a b : Nat) : Builtin.bitXor (a : Int) (b : Int) = ((a ^^^ b : Nat) : Int) := by
  rw [bitXor_and, bitAnd_pp (by walk_at "om") (by walk_at "om"), Int.toNat_natCast, Int.toNat_natCast]
  have := nat_xor_and a b
  walk_at "om"
theorem bitAnd_nat (a b : Nat) : Builtin.bitAnd (a : Int) (b : Int) = ((a &&& b : Nat) : Int) := by
  rw [bitAnd_pp (by walk_at "om") (by walk_at "om"), Int.toNat_natCast, Int.toNat_natCast]
theorem xorU (x y : UInt8) : Builtin.bitXor ((x.toNat : Nat) : Int) ((y.toNat : Nat) : Int) = (((x ^^^ y).toNat : Nat) : Int) := by
  rw [bitXor_nat, UInt8.toNat_xor]
theorem and15U (x : UInt8) : Builtin.bitAnd ((x.toNat : Nat) : Int) 15 = (((x &&& 15).toNat : Nat) : Int) := by
  rw [show (15 : Int) = ((15 : Nat) : Int) from rfl, bitAnd_nat, UInt8.toNat_and]; rfl
theorem and31U (x : UInt8) : Builtin.bitAnd ((x.toNat : Nat) : Int) 31 = (((x &&& 31).toNat : Nat) : Int) := by
  rw [show (31 : Int) = ((31 : Nat) : Int) from rfl, bitAnd_nat, UInt8.toNat_and]; rfl
theorem and3U (x : UInt8) : Builtin.bitAnd ((x.toNat : Nat) : Int) 3 = ((x.toNat % 4 : Nat) : Int) := by
  rw [bitAnd_m2]; walk_at "om"
theorem and128U (x : UInt8) : decide (Builtin.bitAnd ((x.toNat : Nat) : Int) 128 ≠ 0) = decide (128 ≤ x.toNat) := by
  have h := kbt_bit ((x.toNat : Nat) : Int) 7
  have e : (2 : Int) ^ 7 = 128 := by decide
  rw [e] at h
  rw [h]
  have := x.toNat_lt
  by_cases c : 128 ≤ x.toNat
  · rw [decide_eq_true c, decide_eq_true]; walk_at "om"
  · rw [decide_eq_false c, decide_eq_false]; walk_at "om"
theorem and0 (b T : Nat) (hb : b < 256) : b &&& (T * 256) = 0 := by
  apply Nat.eq_of_testBit_eq
  intro i
  rw [Nat.testBit_and, Nat.zero_testBit]
  by_cases hi : i < 8
  · have : (T * 256).testBit i = false := by
      rw [show T * 256 = 2 ^ 8 * T by omega, Nat.testBit_two_pow_mul]
      simp; walk_at "om"
    rw [this, Bool.and_false]
  · have : b.testBit i = false := Nat.testBit_lt_two_pow (Nat.lt_of_lt_of_le hb (Nat.pow_le_pow_right (n := 2) (by decide) (Nat.le_of_not_lt hi)))
    rw [this, Bool.false_and]
theorem orU (x : UInt8) (T : Nat) : Builtin.bitOr ((x.toNat : Nat) : Int) ((T : Int) * 2 ^ Int.toNat 8) = ((T * 256 + x.toNat : Nat) : Int) := by
  have e : (T : Int) * 2 ^ Int.toNat 8 = ((T * 256 : Nat) : Int) := by
    show (T : Int) * 2 ^ 8 = _
    walk_at "om"
  rw [e, bitOr_and, bitAnd_nat, and0 _ _ x.toNat_lt]
  walk_at "om"
section
variable {prog : Program} {w : World} {A : Around} {K : Frag} {H0 h : Heap} {fs : List (Nat × Map)} {H : PH} {n : Nat} {L : Nat} {m : Map} {g : Array GenState} {d : Drawn} {tk : Nat} {os : OsState}
  {E : Value → Shared → Prop} {P : Params} {t u : Tok} {Q : Value → Shared → Prop}
theorem r_ixor8 {x y : UInt8} (q : ∀ t' tk', Q (.int ((x ^^^ y).toNat : Nat) t') ⟨h, g, d, tk', os⟩) : wpAny (model prog w) A (inplaceOp .BitXor (.int (x.toNat : Nat) t) (.int (y.toNat : Nat) u)) Q E ⟨h, g, d, tk, os⟩ :=
  r_ixor (by rw [xorU]; exact q)
theorem r_xor8 {x y : UInt8} (q : ∀ t' tk', Q (.int ((x ^^^ y).toNat : Nat) t') ⟨h, g, d, tk', os⟩) : wpAny (model prog w) A (binaryOp .BitXor (.int (x.toNat : Nat) t) (.int (y.toNat : Nat) u)) Q E ⟨h, g, d, tk, os⟩ :=
  r_xor (by rw [xorU]; exact q)
theorem r_and15 {x : UInt8} (q : ∀ t' tk', Q (.int ((x &&& 15).toNat : Nat) t') ⟨h, g, d, tk', os⟩) : wpAny (model prog w) A (binaryOp .BitAnd (.int (x.toNat : Nat) t) (.int 15 u)) Q E ⟨h, g, d, tk, os⟩ :=
  r_and (by rw [and15U]; exact q)
theorem r_and31 {x : UInt8} (q : ∀ t' tk', Q (.int ((x &&& 31).toNat : Nat) t') ⟨h, g, d, tk', os⟩) : wpAny (model prog w) A (binaryOp .BitAnd (.int (x.toNat : Nat) t) (.int 31 u)) Q E ⟨h, g, d, tk, os⟩ :=
  r_and (by rw [and31U]; exact q)
theorem r_and3 {x : UInt8} (q : ∀ t' tk', Q (.int ((x.toNat % 4 : Nat) : Int) t') ⟨h, g, d, tk', os⟩) : wpAny (model prog w) A (binaryOp .BitAnd (.int (x.toNat : Nat) t) (.int 3 u)) Q E ⟨h, g, d, tk, os⟩ :=
  r_and (by rw [and3U]; exact q)
theorem r_baset8 {a : Nat} {x : List UInt8} {i : Int} {y : UInt8} {Q : Unit → Shared → Prop} (R : RC P H0 fs H n h) (e : H a = some (.ba x)) (hz : x.length ≤ 1000000) (h0 : 0 ≤ i) (h1 : i < x.length)
    (q : ∀ h', RC P H0 fs (H.set a (.ba (x.set i.toNat y))) n h' → Q () ⟨h', g, d, tk, os⟩) : wpAny (model prog w) A (setItem (.ref a) (.int i t) (.int (y.toNat : Nat) u)) Q E ⟨h, g, d, tk, os⟩ :=
  r_basetitem R e hz h0 h1 (by walk_at "om") (u8lt y) (by rw [u8nat]; exact q)
theorem r_or8 {x : UInt8} {T : Nat} (q : ∀ t' tk', Q (.int ((T * 256 + x.toNat : Nat) : Int) t') ⟨h, g, d, tk', os⟩) : wpAny (model prog w) A (binaryOp .BitOr (.int (x.toNat : Nat) t) (.int ((T : Int) * 2 ^ Int.toNat 8) u)) Q E ⟨h, g, d, tk, os⟩ :=
  r_or (by rw [orU]; exact q)
end
section
variable {prog : Program} {w : World} {A : Around} {K : Frag} {H0 h : Heap} {fs : List (Nat × Map)} {H : PH} {n : Nat} {L : Nat} {m : Map} {g : Array GenState} {d : Drawn} {tk : Nat} {os : OsState}
  {E : Value → Shared → Prop} {P : Params}
theorem istup_ext {t : Addr} {items : Array Value} (R : RC P H0 fs H n h) (e : IsTup H0 t items) : IsTup h t items := by
  obtain ⟨o, ho, r⟩ := e; exact ⟨o, R.ext _ _ ho, r⟩
theorem dictOf_ext {a : Addr} {kvs : List (Int × Value)} (R : RC P H0 fs H n h) (e : H0.DictOf (intKind prog w) a kvs) : h.DictOf (intKind prog w) a kvs := by
  obtain ⟨o, es, ep, ho, r⟩ := e; exact ⟨o, es, ep, R.ext _ _ ho, r⟩
inductive IEnts : List DictEntry → List (Int × Value) → Prop
  | nil : IEnts [] []
  | cons {hs : Int} {k : Int} {t : Tok} {v : Value} {es kvs} (e : hs = PySem.hashInt k) : IEnts es kvs → IEnts ({ hash := hs, key := .int k t, val := v } :: es) ((k, v) :: kvs)
theorem idict_K {a : Addr} {es : List DictEntry} {n : Nat} {kvs : List (Int × Value)} (X : K.In h) (hl : K.lookup a = some ⟨.type "dict", none, .dict es.toArray n, #[]⟩) (hc : IEnts es kvs) (hn : (kvs.map (·.1)).Nodup) : h.DictOf (intKind prog w) a kvs := by
  refine ⟨_, es.toArray, n, X _ _ hl, ⟨rfl, rfl, rfl⟩, rfl, ?_, ?_, hn⟩
  · suffices hh : ∀ e ∈ es, ∃ k, (intKind prog w).is k e.key = true ∧ e.hash = (intKind prog w).hash k from fun e he => hh e (by simpa using he)
    intro e he
    clear hl hn
    induction hc with
    | nil => cases he
    | cons q _ ih =>
      rcases List.mem_cons.mp he with rfl | he
      · exact ⟨_, intKind_is prog w _ _, q⟩
      · exact ih he
  · show Pairs (intKind prog w) es kvs
    clear hl hn
    induction hc with
    | nil => exact .nil
    | cons q _ ih => exact .cons (intKind_is prog w _ _) rfl ih
theorem r_item_idH0 {value slice : Expr} {a : Addr} {kvs : List (Int × Value)} {k : Int} {u : Tok} {v : Value} {Q : Value → Shared → Prop} (R : RC P H0 fs H n h) (e : H0.DictOf (intKind prog w) a kvs) (hv : valueAt kvs k = some v)
    (q : ∀ tk', Q v ⟨h, g, d, tk', os⟩)
    (hs : subscripted slice false (.ref a) (.int k u) = operate [.ref a, .int k u] (getItem (.ref a) (.int k u)) := by with_unfolding_all rfl) :
    wpAny (model prog w) A (subscriptTail value slice (.ref a) (.int k u)) Q E ⟨h, g, d, tk, os⟩ :=
  tail_any (Heap.MapOf.typeIs (s := ⟨h, g, d, tk, os⟩) (dictOf_ext R e).mapOf) slot_dict_getitem.lookup (wpAny_getItem_of (intKind_is prog w k u) (dictOf_ext R e).mapOf hv (q _)) hs
theorem r_shr {a b : Int} {t u : Tok} {Q : Value → Shared → Prop} (h0 : 0 ≤ b) (q : ∀ t' tk', Q (.int (a.fdiv (2 ^ b.toNat)) t') ⟨h, g, d, tk', os⟩) : wpAny (model prog w) A (binaryOp .RShift (.int a t) (.int b u)) Q E ⟨h, g, d, tk, os⟩ := rshift_int h0 (q _ _)
theorem r_isnot_self {x : Nat} {Q : Value → Shared → Prop} (q : Q (.bool false) ⟨h, g, d, tk, os⟩) : wpAny (model prog w) A (compareOp .IsNot (.ref x) (.ref x)) Q E ⟨h, g, d, tk, os⟩ := wpAny_isNot_ref_self q
theorem r_isnot_inst {x y C dx D dy : Nat} {Q : Value → Shared → Prop} (R : RC P H0 fs H n h) (e : H x = some (.inst C dx)) (e' : H y = some (.inst D dy)) (hne : x ≠ y) (q : Q (.bool true) ⟨h, g, d, tk, os⟩) : wpAny (model prog w) A (compareOp .IsNot (.ref x) (.ref y)) Q E ⟨h, g, d, tk, os⟩ := by
  obtain ⟨o, ho, rfl⟩ := R.obj e
  obtain ⟨o', ho', rfl⟩ := R.obj e'
  exact wpAny_isNot_ref_other hne ho ho' (fun q => nomatch q) q
end
noncomputable def FrOk (A : Around) (fs : List (Nat × Map)) : Prop := ∃ l : List Env, A.frames = some l ∧ l.map (·.frame) = fs.map (fun p => some p.1) ∧ ∀ env ∈ l, env.scope.kind ≠ .module
noncomputable def Fly (P : Params) (H0 : Heap) (fs : List (Nat × Map)) (H : PH) (n : Nat) (A : Around) (e : Addr) (cls : Value) (h : Heap) : Prop :=
  ∃ B a0 l, A.frames = some l ∧ l.map (·.frame) = fs.map (fun p => some p.1) ∧ Heap.FlyingW B l e cls a0 h ∧ (∀ b o, H0.get? b = some o → B.get? b = some o) ∧
    (∀ a x, H a = some x → ∃ o, B.get? a = some o ∧ x.Is P o) ∧ RC P H0 fs H n h
section
variable {P : Params} {H0 h h' : Heap} {fs : List (Nat × Map)} {H H' : PH} {n n' : Nat} {A : Around} {e : Addr} {cls : Value}
end
section
variable {P : Params} {H0 h : Heap} {fs : List (Nat × Map)} {H : PH} {n : Nat} {A : Around} {e : Addr} {cls : Value} {L : Nat} {m : Map} {s' : Shared} {name : Str} {scope : Scope} {a : Addr} {cd : Value} {E : Value → Shared → Prop} {M : Model}
end
section
variable {prog : Program} {w : World} {A : Around} {K : Frag} {H0 h : Heap} {fs : List (Nat × Map)} {H : PH} {n : Nat} {L : Nat} {m : Map} {g : Array GenState} {d : Drawn} {tk : Nat} {os : OsState}
  {E : Value → Shared → Prop} {P : Params}
end
noncomputable def StC (H : PH) (st cl : Nat) (b : Int) : Prop :=
  ∃ (at_ : Int) (t : Tok) (vs : List Value) (cells : List Int), H st = some (.lst [.int at_ t, .ref cl]) ∧ H cl = some (.lst vs) ∧ IntsAre vs cells ∧ cl ≠ st ∧ 0 < cells.length ∧ cells.length < 2 ^ 20 ∧ 0 ≤ at_ ∧ at_ ≤ b
theorem StC.el {X : Prop} {H : PH} {st cl : Nat} {b : Int} (h : StC H st cl b) (k : ∀ (at_ : Int) (t : Tok) (vs : List Value) (cells : List Int), H st = some (.lst [.int at_ t, .ref cl]) → H cl = some (.lst vs) → IntsAre vs cells → cl ≠ st → 0 < cells.length → cells.length < 2 ^ 20 → 0 ≤ at_ → at_ ≤ b → X) : X :=
  let ⟨_, _, _, _, h1, h2, h3, h4, h5, h6, h7, h8⟩ := h; k _ _ _ _ h1 h2 h3 h4 h5 h6 h7 h8
theorem StC.ex1 {H : PH} {st cl : Nat} {b : Int} (h : StC H st cl b) : ∃ v, H st = some (.lst v) := let ⟨_, _, _, _, h1, _⟩ := h; ⟨_, h1⟩
theorem StC.mono {H : PH} {st cl : Nat} {b b' : Int} (s : StC H st cl b) (h : b ≤ b') : StC H st cl b' := by
  obtain ⟨at_, t0, vs, cells, hs, hc, hi, hne, hl0, hl, h0, h1⟩ := s
  exact ⟨at_, t0, vs, cells, hs, hc, hi, hne, hl0, hl, h0, by walk_at "om"⟩
theorem StC.le {H H' : PH} {st cl : Nat} {b : Int} (h : StC H st cl b) (l : H.le H') : StC H' st cl b := by
  obtain ⟨at_, t0, vs, cells, hs, hc, r⟩ := h
  exact ⟨at_, t0, vs, cells, l _ _ hs, l _ _ hc, r⟩
theorem StC.set {H : PH} {st cl a : Nat} {b : Int} {x : AO} (h : StC H st cl b) (h1 : a ≠ st) (h2 : a ≠ cl) : StC (H.set a x) st cl b := by
  obtain ⟨at_, t0, vs, cells, hs, hc, r⟩ := h
  exact ⟨at_, t0, vs, cells, PH.set_at (Ne.symm h1) hs, PH.set_at (Ne.symm h2) hc, r⟩
noncomputable def NE (a b : Nat) : Prop := a ≠ b
theorem NE.ne {a b : Nat} (h : NE a b) : a ≠ b := h
noncomputable def Bnd (H : PH) (n : Nat) : Prop := ∀ a, n ≤ a → H a = none
theorem Bnd.nn {H : PH} {n a : Nat} (b : Bnd H n) (h : n ≤ a) : H a = none := b a h
theorem Bnd.lt {H : PH} {n a : Nat} {x : AO} (b : Bnd H n) (e : H a = some x) : a < n := Nat.lt_of_not_le fun q => by rw [b a q] at e; cases e
theorem RC.bnd {P : Params} {H0 h : Heap} {fs : List (Nat × Map)} {H : PH} {n : Nat} (R : RC P H0 fs H n h) : Bnd H n := fun _ => R.none_new
section
variable {prog : Program} {w : World} {A : Around} {K : Frag} {H0 h : Heap} {fs : List (Nat × Map)} {H : PH} {n : Nat} {L : Nat} {m : Map} {g : Array GenState} {d : Drawn} {tk : Nat} {os : OsState}
  {E : Value → Shared → Prop} {P : Params}
end
section
variable {prog : Program} {w : World} {A : Around} {K : Frag} {H0 h : Heap} {fs : List (Nat × Map)} {H : PH} {n : Nat} {L : Nat} {m : Map} {g : Array GenState} {d : Drawn} {tk : Nat} {os : OsState}
  {E : Value → Shared → Prop} {P : Params}
noncomputable def DDone (prog : Program) (w : World) {K : Type} [DecidableEq K] (knd : KeyKind prog w K) (a : Nat) (Q : Value → Shared → Prop) (vs : List (Value × Value)) (s₁ : Shared) : Prop :=
  ∃ kvs, Carries knd vs kvs ∧ s₁.heap.DictOf knd a [] ∧ ∀ h', h'.DictOf knd a (merged [] kvs) → Heap.SameBut a s₁.heap h' → Q (.ref a) { s₁ with heap := h', toks := s₁.toks + vs.length }
theorem r_unpackItems {t : Addr} {vs : List Value} {j : Nat} {Q : List Value → Shared → Prop} (R : RC P H0 fs H n h) (hh : A.handled = none) (e : IsTup h t vs.toArray) (hj : j = vs.length)
    (q : ∀ h', RC P H0 fs H n h' → Q vs ⟨h', g, d, tk, os⟩) : wpAny (model prog w) A (unpackItems (.ref t) j none) Q E ⟨h, g, d, tk, os⟩ := by
  subst hj
  refine with_size (wpAny_mono (unpackItems_tuple (s := ⟨h, g, d, tk, os⟩) (items := vs.toArray) hh e (Q := fun items s' => items = vs ∧ ∃ h', s' = ⟨h', g, d, tk, os⟩ ∧ Heap.ExtBut h.objs.size h h') fun h' hk => ⟨by simp, h', rfl, hk⟩) (fun items s' x hs => ?_) fun _ _ x _ => x)
  obtain ⟨rfl, h', rfl, hk⟩ := x
  exact q h' (R.kept (fun b o e => hk b o (Nat.ne_of_lt (ltsz e)) e) hs)
theorem r_bindName {M : Model} {s : Shared} {env : Env} {x : Str} {v : Value} {Q : Unit → Shared → Prop} (q : wpAny M A (storeName env x v) Q E s) : wpAny M A (bindName env x v) Q E s := fun Γ p hΓ => by
  rw [Sem.wp_bindName]; exact q Γ p hΓ
theorem RC.start (H0 : Heap) : RC P H0 [] (fun _ => none) H0.objs.size H0 :=
  { ext := fun _ _ e => e, sz := Nat.le_refl _, at_ := fun _ _ e => (nomatch e), fr := fun _ h => (nomatch h), nd := .nil }
end
theorem kind_pow : builtinKind "pow" = none := by decide +kernel
theorem plain_pow : plainId "pow" = true := by decide +kernel
theorem entry_pow : entryFor table "pow" = some Builtin.«pow» := entryFor_of_fast (by kernel_rfl)
theorem args_pow (a b c : Value) : argsOk "pow" ⟨[a, b, c], []⟩ := by unfold argsOk; kernel_rfl
noncomputable def powM (b m : Nat) : Nat := Builtin.powMod (b % m) 3 m
theorem powM_lt (b m : Nat) (h : 0 < m) : powM b m < m := by
  show (List.foldl (fun p i => if Nat.testBit 3 i then p * p % m * (b % m) % m else p * p % m) (1 % m) [1, 0]) < m
  simp only [List.foldl]
  split <;> exact Nat.mod_lt _ h
section
variable {prog : Program} {w : World} {A : Around} {K : Frag} {H0 h : Heap} {fs : List (Nat × Map)} {H : PH} {n : Nat} {L : Nat} {m : Map} {g : Array GenState} {d : Drawn} {tk : Nat} {os : OsState}
  {E : Value → Shared → Prop} {P : Params}
theorem call_int_pow3 {a mm : Nat} {t u v : Tok} {s : Shared} {Q : Value → Shared → Prop} (h1 : 1 < mm) (h : Q (.int (powM a mm : Nat) s.toks) { s with toks := s.toks + 1 }) :
    wpAny (model prog w) A (call (.builtin "int.__pow__") [.int (a : Nat) t, .int 3 u, .int (mm : Nat) v]) Q E s := by
  refine wpAny_call_entry F.slot_int_pow (typeIs_int s _ t) F.entry_int_pow ?_ (F.args_int_pow_3 _ _ _)
  show wpAny _ _ (if (((mm : Nat) : Int) == 0) = true then _ else _) _ _ s
  rw [if_neg (by simp; walk_at "om")]
  show wpAny _ _ (if (((mm : Nat) : Int).natAbs == 1) = true then _ else _) _ _ s
  rw [if_neg (by simp; walk_at "om")]
  dsimp only
  rw [if_neg (by decide)]
  have hneg : decide (((mm : Nat) : Int) < 0) = false := decide_eq_false (by walk_at "om")
  rw [hneg, Bool.false_and, if_neg (by decide)]
  repeat (first | refine wpAny_pure ?_ | refine wpAny_mkInt ?_ | refine wpAny_rule ?_ | refine wpAny_bind ?_)
  exact ⟨_, rfl, h⟩
theorem r_pow3 {a mm : Nat} {t u v : Tok} {Q : Value → Shared → Prop} (h1 : 1 < mm) (q : ∀ t' tk', Q (.int (powM a mm : Nat) t') ⟨h, g, d, tk', os⟩) :
    wpAny (model prog w) A (call (.builtin "pow") [.int (a : Nat) t, .int 3 u, .int (mm : Nat) v]) Q E ⟨h, g, d, tk, os⟩ := by
  refine call_function_entry kind_pow plain_pow entry_pow (args_pow _ _ _) ?_
  have hT : (⟨h, g, d, tk, os⟩ : Shared).TypeIs (.int (a : Nat) t) "int" := rfl
  have f3 : typeLookup (.type "int") (Str.ofString "__pow__") = pure (some (.builtin "int.__pow__")) := by rw [typeLookup_type, builtinLookup_eq_fast]; kernel_rfl
  have f4 := F.slot_int_pow.bind (.int (a : Nat) t)
  unfold Builtin.«pow»
  repeat (any_goals (first | assumption | ((with_reducible show wpAny _ _ (call (Value.builtin "int.__pow__") _ _) _ _ _); refine call_int_pow3 h1 ?_) | wp_step))
  exact ⟨_, rfl, q _ _⟩
end
noncomputable def turnN (size number : Nat) : Nat := (256 ^ size - 1) / 255 * (number % 256)
noncomputable def turnB (text : List UInt8) (number : Nat) : List UInt8 := toBE text.length (beI text ^^^ turnN text.length number)
theorem turnB_length (text : List UInt8) (number : Nat) : (turnB text number).length = text.length := toBE_length _ _
noncomputable def tagB (name key nonce assoc text : List UInt8) : List UInt8 := toBE 16 (beI (nonce ++ assoc ++ text ++ key ++ name) % (2 ^ 127 - 1))
noncomputable def keyN (key nonce : List UInt8) : Nat := beI (key ++ nonce) % 251
noncomputable def sealB (name key nonce data assoc : List UInt8) : List UInt8 := turnB data (keyN key nonce) ++ tagB name key nonce assoc (turnB data (keyN key nonce))
noncomputable def cutB (key nonce data : List UInt8) : List UInt8 := turnB (data.take (data.length - 16)) (keyN key nonce)
noncomputable def openB (name key nonce data assoc : List UInt8) : Option (List UInt8) :=
  if data.length < 16 then none
  else if sealB name key nonce (cutB key nonce data) assoc = data then some (cutB key nonce data) else none
noncomputable def maskB (name key sample : List UInt8) : List UInt8 := toBE 5 (beI (key ++ sample ++ name) % 1099511627689)
theorem maskB_length (name key sample : List UInt8) : (maskB name key sample).length = 5 := toBE_length _ _
noncomputable def kuL : List UInt8 := [113, 117, 105, 99, 32, 107, 117]
noncomputable def kuL2 : List UInt8 := [113, 117, 105, 99, 118, 50, 32, 107, 117]
noncomputable def MM : Nat := 2 ^ 521 - 1
noncomputable def hashN (x size : Nat) : List UInt8 := toBE 66 (powM (x + size + 3) MM)
noncomputable def expandB (size : Nat) (secret label : List UInt8) (length : Nat) : List UInt8 := (hashN (beI (secret ++ label)) size).drop (66 - length)
noncomputable def extractB (size : Nat) (salt ikm : List UInt8) : List UInt8 := (hashN (beI (salt ++ ikm)) size).drop (66 - size)
noncomputable def ExpandPre (_secret _label : List UInt8) : Prop := True
noncomputable def SecOk (_b : Nat) (secret : List UInt8) : Prop := secret.length ≤ 100
theorem SecOk.pre {b : Nat} {s l : List UInt8} (_ : SecOk (b + 1) s) (_ : 3 ≤ l.length) : ExpandPre s l := trivial
theorem SecOk.le {b : Nat} {s : List UInt8} (h : SecOk b s) : s.length ≤ 100 := h
noncomputable def keyL : Bool → List UInt8
  | true => [113, 117, 105, 99, 118, 50, 32, 107, 101, 121]
  | false => [113, 117, 105, 99, 32, 107, 101, 121]
noncomputable def ivL : Bool → List UInt8
  | true => [113, 117, 105, 99, 118, 50, 32, 105, 118]
  | false => [113, 117, 105, 99, 32, 105, 118]
noncomputable def hpL : Bool → List UInt8
  | true => [113, 117, 105, 99, 118, 50, 32, 104, 112]
  | false => [113, 117, 105, 99, 32, 104, 112]
noncomputable def kuLb : Bool → List UInt8
  | true => kuL2
  | false => kuL
noncomputable def isV2 (version : Int) : Bool := decide (version = 1798521807)
noncomputable def algI (suite : Int) : Int := if suite = 4866 then 48 else 32
noncomputable def keySize (suite : Int) : Int := if suite = 4866 ∨ suite = 4867 then 32 else 16
noncomputable def keyB (suite version : Int) (secret : List UInt8) : List UInt8 := expandB (algI suite).toNat secret (keyL (isV2 version)) (keySize suite).toNat
noncomputable def ivB (suite version : Int) (secret : List UInt8) : List UInt8 := expandB (algI suite).toNat secret (ivL (isV2 version)) 12
noncomputable def hpB (suite version : Int) (secret : List UInt8) : List UInt8 := expandB (algI suite).toNat secret (hpL (isV2 version)) (keySize suite).toNat
noncomputable def nextB (suite version : Int) (secret : List UInt8) : List UInt8 := expandB (algI suite).toNat secret (kuLb (isV2 version)) (algI suite).toNat
noncomputable def aeadNames : List (List UInt8) := [[97, 101, 115, 45, 49, 50, 56, 45, 103, 99, 109], [97, 101, 115, 45, 50, 53, 54, 45, 103, 99, 109], [99, 104, 97, 99, 104, 97, 50, 48, 45, 112, 111, 108, 121, 49, 51, 48, 53]]
noncomputable def hpNames : List (List UInt8) := [[97, 101, 115, 45, 49, 50, 56, 45, 101, 99, 98], [97, 101, 115, 45, 50, 53, 54, 45, 101, 99, 98], [99, 104, 97, 99, 104, 97, 50, 48]]
noncomputable def maskRun (b : List UInt8) (off : Nat) (mask : List UInt8) : Nat → List UInt8
  | 0 => b
  | i + 1 => (maskRun b off mask i).set (off + i) ((maskRun b off mask i).getD (off + i) 0 ^^^ mask.getD (1 + i) 0)
theorem maskRun_length (b : List UInt8) (off : Nat) (mask : List UInt8) : ∀ i, (maskRun b off mask i).length = b.length
  | 0 => rfl
  | i + 1 => by rw [maskRun, List.length_set, maskRun_length b off mask i]
noncomputable def maskFirst (b mask : List UInt8) : List UInt8 := b.set 0 (b.getD 0 0 ^^^ (mask.getD 0 0 &&& (if 128 ≤ (b.getD 0 0).toNat then 15 else 31)))
theorem maskFirst_length (b mask : List UInt8) : (maskFirst b mask).length = b.length := by rw [maskFirst, List.length_set]
noncomputable def applyB (name key ph pp : List UInt8) : List UInt8 :=
  maskRun (maskFirst (ph ++ pp) (maskB name key ((pp.take (4 - ((ph.getD 0 0).toNat % 4 + 1) + 16)).drop (4 - ((ph.getD 0 0).toNat % 4 + 1))))) (ph.length - ((ph.getD 0 0).toNat % 4 + 1))
    (maskB name key ((pp.take (4 - ((ph.getD 0 0).toNat % 4 + 1) + 16)).drop (4 - ((ph.getD 0 0).toNat % 4 + 1)))) ((ph.getD 0 0).toNat % 4 + 1)
noncomputable def truncRun (b : List UInt8) (off : Nat) (mask : List UInt8) : Nat → Nat
  | 0 => 0
  | i + 1 => truncRun b off mask i * 256 + ((maskRun b off mask (i + 1)).getD (off + i) 0).toNat
theorem truncRun_lt (b : List UInt8) (off : Nat) (mask : List UInt8) : ∀ i, truncRun b off mask i < 256 ^ i
  | 0 => by simp [truncRun]
  | i + 1 => by
    have := truncRun_lt b off mask i
    have h := ((maskRun b off mask (i + 1)).getD (off + i) 0).toNat_lt
    rw [truncRun, Nat.pow_succ]
    walk_at "om"
noncomputable def unFirst (name key packet : List UInt8) (off : Nat) : List UInt8 := maskFirst packet (maskB name key ((packet.take (off + 4 + 16)).drop (off + 4)))
noncomputable def unLen (name key packet : List UInt8) (off : Nat) : Nat := ((unFirst name key packet off).getD 0 0).toNat % 4 + 1
noncomputable def unMask (name key packet : List UInt8) (off : Nat) : List UInt8 := maskB name key ((packet.take (off + 4 + 16)).drop (off + 4))
noncomputable def unHdr (name key packet : List UInt8) (off : Nat) : List UInt8 := (maskRun (unFirst name key packet off) off (unMask name key packet off) (unLen name key packet off)).take (off + unLen name key packet off)
noncomputable def unTrunc (name key packet : List UInt8) (off : Nat) : Nat := truncRun (unFirst name key packet off) off (unMask name key packet off) (unLen name key packet off)
theorem expandB_length {size : Nat} {secret label : List UInt8} {len : Nat} (h : len ≤ 66) : (expandB size secret label len).length = len := by
  unfold expandB hashN
  rw [List.length_drop, toBE_length]; walk_at "om"
theorem keySize_le (suite : Int) : (keySize suite).toNat ≤ 66 := by unfold keySize; split <;> decide
theorem algI_le (suite : Int) : (algI suite).toNat ≤ 66 := by unfold algI; split <;> decide
theorem keyB_length {b : Nat} {suite version : Int} {secret : List UInt8} (_ : SecOk b secret) : (keyB suite version secret).length = (keySize suite).toNat := expandB_length (keySize_le _)
theorem ivB_length {b : Nat} {suite version : Int} {secret : List UInt8} (_ : SecOk b secret) : (ivB suite version secret).length = 12 := expandB_length (by decide)
theorem hpB_length {b : Nat} {suite version : Int} {secret : List UInt8} (_ : SecOk b secret) : (hpB suite version secret).length = (keySize suite).toNat := expandB_length (keySize_le _)
theorem keySize_in (suite : Int) : 16 ≤ keySize suite ∧ keySize suite ≤ 32 := by unfold keySize; split <;> decide
theorem algI_in (suite : Int) : 32 ≤ algI suite ∧ algI suite ≤ 48 := by unfold algI; split <;> decide
theorem beI_app (a b : List UInt8) : beI (a ++ b) = beI a * 256 ^ b.length + beI b := by
  have gen : ∀ (b : List UInt8) (x : Nat), b.foldl (fun (a : Nat) (c : UInt8) => a * 256 + c.toNat) x = x * 256 ^ b.length + beI b := by
    intro b
    induction b with
    | nil => intro x; simp [beI]
    | cons c r ih =>
      intro x
      rw [List.foldl_cons, ih, List.length_cons, Nat.pow_succ]
      have : beI (c :: r) = c.toNat * 256 ^ r.length + beI r := by
        show (c :: r).foldl _ 0 = _
        rw [List.foldl_cons, ih]; simp
      rw [this, Nat.add_mul, Nat.mul_comm (256 ^ r.length) 256, Nat.mul_assoc]; walk_at "om"
  show (a ++ b).foldl _ 0 = _
  rw [List.foldl_append, gen b]; rfl
theorem beI_toBE : ∀ (n x : Nat), x < 256 ^ n → beI (toBE n x) = x
  | 0, x, h => by simp at h; subst h; rfl
  | n + 1, x, h => by
    rw [toBE, beI_app, beI_toBE n (x / 256) (by rw [Nat.pow_succ] at h; walk_at "om")]
    have e : beI [UInt8.ofNat (x % 256)] = x % 256 := by
      show 0 * 256 + (UInt8.ofNat (x % 256)).toNat = _
      rw [UInt8.toNat_ofNat']; walk_at "om"
    rw [e]; simp only [List.length_cons, List.length_nil]; walk_at "om"
theorem nextB_length (suite version : Int) (secret : List UInt8) : (nextB suite version secret).length = (algI suite).toNat := expandB_length (algI_le _)
theorem SecOk.next {b : Nat} {suite version : Int} {secret : List UInt8} (_ : SecOk (b + 1) secret) : SecOk b (nextB suite version secret) := by
  have := algI_le suite
  show (nextB suite version secret).length ≤ 100
  rw [nextB_length]; walk_at "om"
noncomputable def flipI (kp : Int) : Int := if (!decide (kp ≠ 0)) = true then 1 else 0
theorem sealB_length (name key nonce data assoc : List UInt8) : (sealB name key nonce data assoc).length = data.length + 16 := by
  unfold sealB tagB
  rw [List.length_append, turnB_length, toBE_length]
theorem sealB_lt {name key nonce data assoc : List UInt8} (h1 : name.length < 256) (h2 : key.length < 256) (h3 : nonce.length < 256) (h4 : data.length < 256) (h5 : assoc.length < 256) : (sealB name key nonce data assoc).length < 8900 := by
  rw [sealB_length]; walk_at "om"
noncomputable def aname (suite : Int) : List UInt8 := if suite = 4865 then aeadNames.getD 0 [] else if suite = 4866 then aeadNames.getD 1 [] else aeadNames.getD 2 []
noncomputable def hname (suite : Int) : List UInt8 := if suite = 4865 then hpNames.getD 0 [] else if suite = 4866 then hpNames.getD 1 [] else hpNames.getD 2 []
noncomputable def Suite (suite : Int) : Prop := suite = 4865 ∨ suite = 4866 ∨ suite = 4867
theorem Suite.ana {s : Int} (h : Suite s) : (aeadNames.any (· == aname s)) = true := by rcases h with rfl | rfl | rfl <;> decide
theorem Suite.hna {s : Int} (h : Suite s) : (hpNames.any (· == hname s)) = true := by rcases h with rfl | rfl | rfl <;> decide
theorem Suite.anl {s : Int} (h : Suite s) : (aname s).length < 256 := by rcases h with rfl | rfl | rfl <;> decide
theorem Suite.hnl {s : Int} (h : Suite s) : (hname s).length < 256 := by rcases h with rfl | rfl | rfl <;> decide
noncomputable def OptB (v : Value) : Option (List UInt8) → Prop
  | none => v = .none
  | some y => ∃ t, v = .bytes y.toArray t
noncomputable def fhB : Obj := { cls := .type "builtin_function_or_method", data := .fields #[.builtin "bytes.fromhex", .type "bytes"] }
theorem type_fh : typeOf (.builtin "bytes.fromhex") = pure (.type "classmethod_descriptor") := by show builtinType _ = _; rw [builtinType_eq_fast]; kernel_rfl
theorem entry_fh : entryFor table "bytes.fromhex" = some Builtin.«bytes.fromhex» := entryFor_of_tree (by kernel_rfl)
theorem quiet_fh {as : Args} : (Code.builtin "bytes.fromhex" as).quiet = true := Code.quiet_builtin _ (by decide +kernel)
theorem type_bytes_ : isType (.type "bytes") = pure true := by delta isType; dsimp only
theorem sub_bytes_ : isSubtype (.type "bytes") (.type "bytes") = pure true := by rw [isSubtype_type]; kernel_rfl
theorem owner_fh : (kfb_private% "ownerAndName") "bytes.fromhex" = ("bytes", "fromhex") := by kernel_rfl
section
variable {prog : Program} {w : World} {A : Around} {K : Frag} {H0 h : Heap} {fs : List (Nat × Map)} {H : PH} {n : Nat} {L : Nat} {m : Map} {g : Array GenState} {d : Drawn} {tk : Nat} {os : OsState}
  {E : Value → Shared → Prop} {P : Params} {M : Model} {s : Shared}
theorem fh_run_get {P : Fin → Shared → Prop} (h : P (.done (.ret (.ref s.heap.objs.size))) { s with heap := s.heap.push fhB }) :
    wpAny M A (Builtin.«classmethod_descriptor.__get__» ⟨[.builtin "bytes.fromhex", .none, .type "bytes"], []⟩) P E s := by
  unfold Builtin.«classmethod_descriptor.__get__»
  refine wpAny_bind (wpAny_of_eq (a := (.builtin "bytes.fromhex", none, some (.type "bytes"))) (by kernel_rfl) ?_)
  simp only [owner_fh]
  refine wpAny_bind (wpAny_of_eq (a := .type "bytes") rfl ?_)
  refine wpAny_bind (wpAny_of_eq (a := true) type_bytes_ ?_)
  refine KFB.if_not rfl ?_
  refine wpAny_bind (wpAny_of_eq (a := true) sub_bytes_ ?_)
  refine KFB.if_not rfl ?_
  exact wpAny_bind (wpAny_newObj_type (wpAny_pure h))
theorem r_fh_m {pl : Sem Bool} {Q : Value × List Value → Shared → Prop} (R : RC P H0 fs H n h) (G : Gd K H0) (hz : H0.objs.size ≤ n)
    (e : findCls K (.type "bytes") (.type "type") (PySem.Str.ofString "fromhex") = some (.get (.builtin "classmethod_descriptor.__get__") (.builtin "bytes.fromhex") .none (.type "bytes")))
    (q : ∀ (a : Nat) h', n ≤ a → RC P H0 fs (H.set a (.raw fhB)) (a + 1) h' → Q (.ref a, []) ⟨h', g, d, tk + 1, os⟩) :
    wpAny (model prog w) A (getMethod (.type "bytes") (PySem.Str.ofString "fromhex") pl) Q E ⟨h, g, d, tk, os⟩ := by
  have X := G.at R
  have hstub : opaqueClassAbove (.type "bytes") = pure none := by unfold opaqueClassAbove; dsimp only; rw [show Manifest.isStub "bytes" = false by decide +kernel]; rfl
  have ht : typeOf (.type "bytes") = pure (.type "type") := by kernel_rfl
  have L0 : Looks (model prog w) h (typeOf (.type "bytes")) (.type "type") := Looks.of_pure ht
  have hg : findIn K (.type "type") "__getattribute__" = some (some (.builtin "type.__getattribute__")) := type_tga
  unfold getMethod specialOf
  refine wpAny_bind (wpAny_bind (L0.here ((looks_findIn X hg).here ?_)))
  dsimp only
  rw [if_pos canon_tga]
  refine wpAny_bind (wpAny_mono (Q := fun v => Q (v, [])) (E := E) ?_ (fun _ _ z => wpAny_pure z) fun _ _ z => z)
  have LO : Looks (model prog w) h (opaqueClassAbove (.type "bytes")) none := Looks.of_pure hstub
  refine cls_open (s := ⟨h, g, d, tk, os⟩) X LO L0 hg (looks_hook X (r := none) (by rfl)) (by show subIn K _ _ = _; rfl) e ?_
  show wpAny _ _ (holding [.builtin "bytes.fromhex"] (call (.builtin "classmethod_descriptor.__get__") [.builtin "bytes.fromhex", .none, .type "bytes"]) >>= fun v => ret v) _ _ _
  exact wpAny_bind (wpAny_holding (wpAny_call_entry KFB.slot_get type_fh KFB.entry_get (fh_run_get ⟨_, rfl, wpAny_pure (wpAny_pure (q _ _ R.sz (R.push (x := .raw fhB) rfl rfl (Nat.le_trans hz R.sz))))⟩) (KFB.args_get _ _ _)))
noncomputable def StandsB (x : Addr) (h : Heap) : Prop := ∃ q r, h.get? x = some { cls := .type "builtin_function_or_method", data := .fields #[.builtin q, .type r] }
theorem r_stands_fb {a : Nat} (R : RC P H0 fs H n h) (e : H a = some (.raw KFB.bound)) : StandsB a h := by
  obtain ⟨o, ho, rfl⟩ := R.obj e; exact ⟨_, _, ho⟩
theorem r_stands_fh {a : Nat} (R : RC P H0 fs H n h) (e : H a = some (.raw fhB)) : StandsB a h := by
  obtain ⟨o, ho, rfl⟩ := R.obj e; exact ⟨_, _, ho⟩
theorem bb_fields {pos : Pos} {u : Nat} {first : List Value} {args : List (Bool × Sem Value)} {Q : Value → Shared → Prop} (hplain : args.any (·.1) = false)
    (h : wpAny M A (evalArgs (.ref u) true args []) (fun x s₁ => StandsB u s₁.heap ∧ wpAny M A (call (.ref u) (first ++ x.pos) x.kw) Q E s₁) E s) : wpAny M A (callWith pos (.ref u) first args []) Q E s := by
  unfold callWith
  refine wpAny_bind (wpAny_holding (wpAny_mono h (fun x s₁ h₁ => wpAny_bind (wpAny_standAt ?_)) fun _ _ x => x))
  obtain ⟨⟨q, r, ho⟩, hcall⟩ := h₁
  simp only [hplain, List.any_nil, Bool.or_false]
  refine wpAny_bind (m := keeperOf (.ref u)) ?_
  unfold keeperOf
  refine wpAny_bind (wpAny_load ho ?_)
  simp only [show (Value.type "builtin_function_or_method" != Value.type "method") = true by decide, show (Value.type "builtin_function_or_method" == Value.type "builtin_function_or_method" || Value.type "builtin_function_or_method" == Value.type "method-wrapper") = true by decide, if_true]
  refine wpAny_pure ?_
  exact wpAny_bind (wpAny_mono hcall (fun r s₂ hr => wpAny_bind (wpAny_holding (wpAny_point (wpAny_pure hr)))) fun _ _ x => x)
theorem r_bb_cw {pos : Pos} {u : Nat} {first : List Value} {env : Env} {e : Expr} {rest : List Expr} {Q : Value → Shared → Prop}
    (h : wpAny M A (spliced (backTo pos (starEach (e :: rest) env))) (fun vs s₁ => StandsB u s₁.heap ∧ wpAny M A (call (.ref u) (first ++ vs)) Q E s₁) E s)
    (he : starEach (e :: rest) env = (false, eval e env) :: starEach rest env := by rfl) (hplain : (backTo pos (starEach rest env)).any (·.1) = false := by rfl) :
    wpAny M A (callWith pos (.ref u) first (backTo pos (starEach (e :: rest) env)) []) Q E s := by
  rw [he] at h ⊢
  refine bb_fields (by show (false || (backTo pos (starEach rest env)).any (·.1)) = false; rw [hplain]; rfl) ?_
  exact evalArgs_plain h
noncomputable def salt1 : List UInt8 := [56, 118, 44, 247, 245, 89, 52, 179, 77, 23, 154, 230, 164, 200, 12, 173, 204, 187, 127, 10]
noncomputable def salt2 : List UInt8 := [13, 237, 227, 222, 247, 0, 166, 219, 129, 147, 129, 190, 110, 38, 157, 203, 249, 189, 46, 217]
noncomputable def saltX (b : Bool) : Str := if b then Str.ofString "0dede3def700a6db819381be6e269dcbf9bd2ed9" else Str.ofString "38762cf7f55934b34d179ae6a4c80cadccbb7f0a"
noncomputable def saltB (b : Bool) : List UInt8 := if b then salt2 else salt1
theorem fh_eq1 (t : Tok) : Builtin.«bytes.fromhex» ⟨[.type "bytes", .str (Str.ofString "38762cf7f55934b34d179ae6a4c80cadccbb7f0a") t], []⟩ = (mkBytes salt1.toArray >>= fun v => ret v) := by kernel_rfl
theorem fh_eq2 (t : Tok) : Builtin.«bytes.fromhex» ⟨[.type "bytes", .str (Str.ofString "0dede3def700a6db819381be6e269dcbf9bd2ed9") t], []⟩ = (mkBytes salt2.toArray >>= fun v => ret v) := by kernel_rfl
theorem check_fh {t : Tok} {x : Str} : checkBoundCall "bytes.fromhex" ⟨[.type "bytes", .str x t], []⟩ = pure () := by kernel_rfl
theorem r_fh {a : Nat} {c : Bool} {t : Tok} {Q : Value → Shared → Prop} (R : RC P H0 fs H n h) (e : H a = some (.raw fhB)) (q : ∀ t' tk', Q (.bytes (saltB c).toArray t') ⟨h, g, d, tk', os⟩) :
    wpAny (model prog w) A (call (.ref a) [.str (saltX c) t]) Q E ⟨h, g, d, tk, os⟩ := by
  obtain ⟨o, ho, rfl⟩ := R.obj e
  refine wpAny_call (codeAny_of_tree ?_)
  show wpAny _ A.in1 (callAny (.ref a) ⟨[.str (saltX c) t], []⟩) _ _ _
  simp only [callAny]
  refine wpAny_bind (wpAny_load ho ?_)
  simp only [fhB, show (Value.type "builtin_function_or_method" == Value.type "method" || Value.type "builtin_function_or_method" == Value.type "builtin_function_or_method" || Value.type "builtin_function_or_method" == Value.type "method-wrapper") = true by decide, if_true]
  refine KFB.if_so (by decide) ?_
  refine wpAny_bind (wpAny_of_eq (a := ()) check_fh ?_)
  refine wpAny_bind (wpAny_pure (wpAny_pure ?_))
  refine ⟨quiet_fh, codeAny_builtin entry_fh ?_⟩
  cases c with
  | true =>
    show wpAny _ _ (Builtin.«bytes.fromhex» ⟨[.type "bytes", .str (Str.ofString "0dede3def700a6db819381be6e269dcbf9bd2ed9") t], []⟩) _ _ _
    rw [fh_eq2]
    exact wpAny_bind (wpAny_mkBytes (wpAny_pure (q _ _)) (by decide +kernel))
  | false =>
    show wpAny _ _ (Builtin.«bytes.fromhex» ⟨[.type "bytes", .str (Str.ofString "38762cf7f55934b34d179ae6a4c80cadccbb7f0a") t], []⟩) _ _ _
    rw [fh_eq1]
    exact wpAny_bind (wpAny_mkBytes (wpAny_pure (q _ _)) (by decide +kernel))
end
noncomputable def envG (q : Str) (sc : Scope) (L : Addr) (cl : List (Str × Addr)) (fr : Option Addr) (f : Option Addr) (cd : Value) : Env :=
  { scope := sc, locals := L, globals := mainGlobals, cells := cl, qual := q, func := f, code := cd, frame := fr, builtins := builtinsNs }
noncomputable def CE (v : Option Value) : AO := .prp (fun o => o.data = .cell v)
section
variable {prog : Program} {w : World} {A : Around} {K : Frag} {H0 h : Heap} {fs : List (Nat × Map)} {H : PH} {n : Nat} {L : Nat} {m : Map} {g : Array GenState} {d : Drawn} {tk : Nat} {os : OsState}
  {E : Value → Shared → Prop} {P : Params} {cl : List (Str × Addr)} {fr f : Option Addr} {cdv : Value} {cn : Str} {cs : Scope} {x : Str} {pos : Pos} {v : Value} {Q : Value → Shared → Prop} {c : Addr}
theorem RC.know {a : Nat} {o : Obj} {y : AO} (R : RC P H0 fs H n h) (ha : n ≤ a) (hz : H0.objs.size ≤ n) (ho : h.get? a = some o) (hy : y.Is P o) : RC P H0 fs (H.set a y) (a + 1) h where
  ext := R.ext
  sz := ltsz ho
  at_ := fun b z e => by
    simp only [PH.set] at e
    split at e
    · rename_i q; subst q; cases e
      exact ⟨⟨o, ho, hy⟩, Nat.le_trans hz ha, Nat.lt_succ_self _, fun p hp q => by have := (R.fr p hp).2.2; omega⟩
    · obtain ⟨r, s, t, u⟩ := R.at_ b z e
      exact ⟨r, s, by omega, u⟩
  fr := fun p hp => let ⟨a, b, c⟩ := R.fr p hp; ⟨a, b, by omega⟩
  nd := R.nd
theorem RC.cell {ov : Option Value} (R : RC P H0 fs H n h) (e : H c = some (CE ov)) : h.IsCell c ov := R.obj e
theorem r_localG (R : RC P H0 ((L, m) :: fs) H n h) (hv : m x = some v) (k : Q v ⟨h, g, d, tk, os⟩)
    (hk : cs.kind = .function := by rfl) (hl : (envG cn cs L cl fr f cdv).kindOf x = some .local := by rfl) (hd : (x == ("__debug__" : Str)) = false := by decide) :
    wpAny (model prog w) A (eval (.Name x pos) (envG cn cs L cl fr f cdv)) Q E ⟨h, g, d, tk, os⟩ := wpAny_Name (wpAny_loadName_local hk hl R.Fr.ns hv k) hd
theorem r_cellG (R : RC P H0 fs H n h) (hc : cl.lookup x = some c) (e : H c = some (CE (some v))) (k : Q v ⟨h, g, d, tk, os⟩)
    (hk : cs.kind = .function := by rfl) (hl : (envG cn cs L cl fr f cdv).kindOf x = some .cell := by rfl) (hd : (x == ("__debug__" : Str)) = false := by decide) :
    wpAny (model prog w) A (eval (.Name x pos) (envG cn cs L cl fr f cdv)) Q E ⟨h, g, d, tk, os⟩ := wpAny_Name (wpAny_loadName_cell (env := envG cn cs L cl fr f cdv) hk hl hc (R.cell e) k) hd
theorem r_globG (R : RC P H0 fs H n h) (G : Gd K H0) (e : nsIn K mainGlobals x = some (some v)) (k : Q v ⟨h, g, d, tk, os⟩)
    (hk : cs.kind = .function := by rfl) (hx : (envG cn cs L cl fr f cdv).kindOf x = some .globalImplicit := by rfl) (hd : (x == ("__debug__" : Str)) = false := by decide) :
    wpAny (model prog w) A (eval (.Name x pos) (envG cn cs L cl fr f cdv)) Q E ⟨h, g, d, tk, os⟩ := by
  obtain ⟨_, _, mg, mb, T⟩ := G.T
  exact Name_function_global hk hx (loadGlobal_global (env := envG cn cs L cl fr f cdv) (T.g.at fun o e => R.ext _ o e) (mg_of G.X T.g e) k) hd
theorem r_builtG (R : RC P H0 fs H n h) (G : Gd K H0) (e : nsIn K mainGlobals x = some none) (hv : bootBuiltins x = some v) (k : Q v ⟨h, g, d, tk, os⟩)
    (hn : x ≠ "__name__" := by decide) (hk : cs.kind = .function := by rfl) (hx : (envG cn cs L cl fr f cdv).kindOf x = some .globalImplicit := by rfl) (hd : (x == ("__debug__" : Str)) = false := by decide) :
    wpAny (model prog w) A (eval (.Name x pos) (envG cn cs L cl fr f cdv)) Q E ⟨h, g, d, tk, os⟩ := by
  obtain ⟨_, _, mg, mb, T⟩ := G.T
  exact Name_function_global hk hx (loadGlobal_builtin (env := envG cn cs L cl fr f cdv) (T.g.at fun o e => R.ext _ o e) (mg_none_of G.X T.g e) (T.b.at fun o e => R.ext _ o e) ((T.builtins x hn).trans hv) k) hd
theorem r_storeG {Q : Unit → Shared → Prop} (R : RC P H0 ((L, m) :: fs) H n h)
    (k : ∀ h' tk', RC P H0 ((L, upd m x v) :: fs) H n h' → Q () ⟨h', g, d, tk', os⟩)
    (hk : cs.kind = .function := by rfl) (hl : (envG cn cs L cl fr f cdv).kindOf x = some .local := by rfl) :
    wpAny (model prog w) A (storeName (envG cn cs L cl fr f cdv) x v) Q E ⟨h, g, d, tk, os⟩ :=
  wpAny_storeName_local hl R.Fr.ns (fun h' hn hs => k h' _ (R.store hn hs))
    (by show (cs.kind == .class || (cs.kind == .module && L != mainGlobals)) = false; rw [hk]; rfl)
theorem r_storeCG {ov : Option Value} {Q : Unit → Shared → Prop} (R : RC P H0 fs H n h) (hc : cl.lookup x = some c) (e : H c = some (CE ov))
    (k : ∀ h', RC P H0 fs (H.set c (CE (some v))) n h' → Q () ⟨h', g, d, tk, os⟩)
    (hk : cs.kind = .function := by rfl) (hl : (envG cn cs L cl fr f cdv).kindOf x = some .cell := by rfl) :
    wpAny (model prog w) A (storeName (envG cn cs L cl fr f cdv) x v) Q E ⟨h, g, d, tk, os⟩ :=
  wpAny_storeName_cell (env := envG cn cs L cl fr f cdv) hk hl hc (R.cell e) fun h' hc' hs => by
    obtain ⟨o, ho, hd⟩ := hc'
    exact k h' (R.put e ho (y := CE (some v)) hd (fun b o hb q => (hs.2 b hb).trans q) (Nat.le_of_eq hs.1.symm))
theorem r_defC {name qual : Str} {params : Arguments} {body : List Stmt} {scope : Scope} {dV kV doc pm cdv ct oc : Value} {an od : Option Addr} {osl : Array (Option Value)} {f : Addr} {pos : List Value} {kw : List (Str × Value)} {binds : List (Str × Value)}
    (R : RC P H0 fs H n h) (G : Gd K H0) (hz : H0.objs.size ≤ n) (hroom : A.depth < recursionLimit)
    (ho : K.lookup f = some ⟨oc, od, .func (fnOf name qual params body scope dV kV doc pm an cdv ct), osl⟩) (hcd : codeIn K cdv qual = true)
    (hbind : BindsTo ⟨h, g, d, tk, os⟩ (fnOf name qual params body scope dV kV doc pm an cdv ct) ⟨pos, kw⟩ binds)
    (hkind : ∀ k, KindsOk scope k binds) (cl : Nat → List (Str × Addr)) (hcl : ∀ L', cellsFrom (L' + 1) scope.names [] = cl L')
    (k : ∀ (L' : Nat) h₁ tk₁, n ≤ L' → (∀ x c, (cl L').lookup x = some c → h₁.IsCell c (bindC (fun y => scope.names.lookup y) binds (fun _ => none) x)) → RC P H0 ((L', bindL (fun y => scope.names.lookup y) binds fun _ => none) :: fs) H (L' + 1) h₁ →
      wpAny (model prog w) (A.deeper (envG (qual ++ ".<locals>.") scope L' (cl L') (some L') (some f) cdv)) (execs body (envG (qual ++ ".<locals>.") scope L' (cl L') (some L') (some f) cdv))
        (fun fl s' => Q (match fl with | .ret v => v | _ => .none) s') (fun _ _ => False) ⟨h₁, g, d, tk₁, os⟩)
    (hco : scope.isCoroutine = false := by rfl) (hgen : scope.isGenerator = false := by rfl) (hk : scope.kind = .function := by rfl) : wpAny (model prog w) A (call (.ref f) pos kw) Q E ⟨h, g, d, tk, os⟩ := by
  refine wpAny_call (codeAny_call_function hroom (G.at R _ _ ho) rfl hco hgen rfl (codeRec_of (G.at R) hcd) (hbind _ _ _ _ ?_))
  refine wpAny_newFunctionEnv_cells hk (kinds_of (hkind _)) fun env he s' X => ?_
  subst he
  obtain ⟨h₁, tk₁, rfl, hkeep⟩ := X.done
  have hc := X.cell
  have hsz := R.sz
  refine ⟨(G.nolimit R).keeps hkeep, codeAny_func ?_⟩
  have henv : callEnvC (fnOf name qual params body scope dV kV doc pm an cdv ct) h.objs.size f = envG (qual ++ ".<locals>.") scope h.objs.size (cl h.objs.size) (some h.objs.size) (some f) cdv := by rw [← hcl]; rfl
  show wpAny _ (A.deeper (callEnvC (fnOf name qual params body scope dV kV doc pm an cdv ct) h.objs.size f)) (execs body (callEnvC (fnOf name qual params body scope dV kV doc pm an cdv ct) h.objs.size f)) _ (fun e s' => wpAny _ (A.deeper (callEnvC (fnOf name qual params body scope dV kV doc pm an cdv ct) h.objs.size f)) (leaving (callEnvC (fnOf name qual params body scope dV kV doc pm an cdv ct) h.objs.size f) e) _ _ s') _
  rw [henv]
  exact wpAny_mono (k h.objs.size h₁ tk₁ hsz (fun x c e => hc x c (by rw [← e, ← hcl]; rfl)) (R.enter (Nat.le_trans hz hsz) X.toInCall.ns hkeep)) (fun fl s' q => q) fun _ _ x => x.elim
theorem P_defC {name qual : Str} {params : Arguments} {body : List Stmt} {scope : Scope} {dV kV doc pm cdv ct oc : Value} {an od : Option Addr} {osl : Array (Option Value)} {f : Addr} {pos : List Value} {kw : List (Str × Value)} {binds : List (Str × Value)}
    (R : RC P H0 fs H n h) (G : Gd K H0) (hz : H0.objs.size ≤ n) (hroom : A.depth < recursionLimit)
    (ho : K.lookup f = some ⟨oc, od, .func (fnOf name qual params body scope dV kV doc pm an cdv ct), osl⟩) (hcd : codeIn K cdv qual = true)
    (hbind : BindsTo ⟨h, g, d, tk, os⟩ (fnOf name qual params body scope dV kV doc pm an cdv ct) ⟨pos, kw⟩ binds)
    (hkind : ∀ k, KindsOk scope k binds) (cl : Nat → List (Str × Addr)) (hcl : ∀ L', cellsFrom (L' + 1) scope.names [] = cl L')
    (k : ∀ (L' : Nat) h₁ tk₁, n ≤ L' → (∀ x c, (cl L').lookup x = some c → h₁.IsCell c (bindC (fun y => scope.names.lookup y) binds (fun _ => none) x)) → RC P H0 ((L', bindL (fun y => scope.names.lookup y) binds fun _ => none) :: fs) H (L' + 1) h₁ →
      wpP (model prog w) (A.deeper (envG (qual ++ ".<locals>.") scope L' (cl L') (some L') (some f) cdv)) (execs body (envG (qual ++ ".<locals>.") scope L' (cl L') (some L') (some f) cdv))
        (fun fl s' => Q (match fl with | .ret v => v | _ => .none) s') (fun _ _ => False) ⟨h₁, g, d, tk₁, os⟩)
    (hco : scope.isCoroutine = false := by rfl) (hgen : scope.isGenerator = false := by rfl) (hk : scope.kind = .function := by rfl) : wpP (model prog w) A (call (.ref f) pos kw) Q E ⟨h, g, d, tk, os⟩ := by
  refine P_call (codeP_function hroom (G.at R _ _ ho) rfl hco hgen rfl (codeRec_of (G.at R) hcd) (hbind _ _ _ _ ?_))
  refine wpAny_newFunctionEnv_cells hk (kinds_of (hkind _)) fun env he s' X => ?_
  subst he
  obtain ⟨h₁, tk₁, rfl, hkeep⟩ := X.done
  have hc := X.cell
  have hsz := R.sz
  refine ⟨(G.nolimit R).keeps hkeep, codeP_func ?_⟩
  have henv : callEnvC (fnOf name qual params body scope dV kV doc pm an cdv ct) h.objs.size f = envG (qual ++ ".<locals>.") scope h.objs.size (cl h.objs.size) (some h.objs.size) (some f) cdv := by rw [← hcl]; rfl
  show wpP _ (A.deeper (callEnvC (fnOf name qual params body scope dV kV doc pm an cdv ct) h.objs.size f)) (execs body (callEnvC (fnOf name qual params body scope dV kV doc pm an cdv ct) h.objs.size f)) _ (fun e s' => wpAny _ (A.deeper (callEnvC (fnOf name qual params body scope dV kV doc pm an cdv ct) h.objs.size f)) (leaving (callEnvC (fnOf name qual params body scope dV kV doc pm an cdv ct) h.objs.size f) e) _ _ s') _
  rw [henv]
  exact P_mono (k h.objs.size h₁ tk₁ hsz (fun x c e => hc x c (by rw [← e, ← hcl]; rfl)) (R.enter (Nat.le_trans hz hsz) X.toInCall.ns hkeep)) (fun fl s' q => q) fun _ _ x => x.elim
end
section
variable {prog : Program} {w : World} {A : Around} {K : Frag} {H0 h : Heap} {fs : List (Nat × Map)} {H : PH} {n : Nat} {L : Nat} {m : Map} {g : Array GenState} {d : Drawn} {tk : Nat} {os : OsState}
  {E : Value → Shared → Prop} {P : Params}
theorem RC.popBut {h' : Heap} {C : Nat} {mm : Map} (R : RC P H0 ((C, mm) :: fs) H n h) (k : Heap.SameBut C h h') : RC P H0 fs H n h' := by
  have R' := R.pop
  have c0 := (R.fr _ (.head _)).2.1
  exact {
    ext := fun b o e => (k.2 b (fun q => by subst q; have := ltsz e; omega)).trans (R.ext b o e)
    sz := by rw [k.1]; exact R.sz
    at_ := fun a x e => by
      obtain ⟨⟨o, ho, hi⟩, r⟩ := R'.at_ a x e
      exact ⟨⟨o, (k.2 a ((R.at_ a x e).2.2.2 _ (.head _))).trans ho, hi⟩, r⟩
    fr := fun p hp => by
      obtain ⟨a, b⟩ := R'.fr p hp
      exact ⟨a.sameBut k fun q => (List.pairwise_cons.mp R.nd).1 p hp q.symm, b⟩
    nd := R'.nd }
theorem RC.swap {p q : Nat × Map} (R : RC P H0 (p :: q :: fs) H n h) : RC P H0 (q :: p :: fs) H n h where
  ext := R.ext
  sz := R.sz
  at_ := fun a x e => let ⟨r, s, t, u⟩ := R.at_ a x e; ⟨r, s, t, fun y hy => u y (by
    rcases List.mem_cons.mp hy with rfl | hy
    · exact .tail _ (.head _)
    · rcases List.mem_cons.mp hy with rfl | hy
      · exact .head _
      · exact .tail _ (.tail _ hy))⟩
  fr := fun y hy => R.fr y (by
    rcases List.mem_cons.mp hy with rfl | hy
    · exact .tail _ (.head _)
    · rcases List.mem_cons.mp hy with rfl | hy
      · exact .head _
      · exact .tail _ (.tail _ hy))
  nd := by
    obtain ⟨h1, h2⟩ := List.pairwise_cons.mp R.nd
    obtain ⟨h3, h4⟩ := List.pairwise_cons.mp h2
    exact List.pairwise_cons.mpr ⟨fun z hz => by
      rcases List.mem_cons.mp hz with rfl | hz
      · exact (h1 _ (.head _)).symm
      · exact h3 z hz, List.pairwise_cons.mpr ⟨fun z hz => h1 z (.tail _ hz), h4⟩⟩
noncomputable def Komp (prog : Program) (w : World) (A : Around) (E : Value → Shared → Prop) (use : Option (Value → Sem Unit)) (elt iter : Expr) (x : Str) (px : Pos) (scope : Scope) (cl : List (Str × Addr)) (pos : Pos) (env : Env) (Q : Value → Shared → Prop) (it : Value) (s₂ : Shared) : Prop :=
  wpAny (model prog w) A (newList []) (fun acc s₃ => wpAny (model prog w) A (newFunctionEnv scope env.globals cl [] env.qual none .none (some env)) (fun cenv s₄ =>
      codeAny (model prog w) A (.compStart (.ListComp elt [⟨.Name x px, iter, [], 0⟩] scope pos) 0 it acc { cenv with scope := relabel scope env }) (compPost (model prog w) A E use Q acc cenv.locals) s₄) E s₃) E s₂
theorem r_comp {s : Shared} {elt iter : Expr} {x : Str} {px : Pos} {scope : Scope} {cl : List (Str × Addr)} {pos : Pos} {env : Env} {Q : Value → Shared → Prop}
    (hclos : closureFor scope env = pure cl) (hkind : scope.kind = .function)
    (hnames : ∀ y ∈ scope.names, y.2 = .local → scope.names.lookup y.1 = some .local)
    (h : wpAny (model prog w) A (eval iter env) (fun xv s₁ => wpAny (model prog w) A (pyIter xv) (fun it s₂ => Komp prog w A E none elt iter x px scope cl pos env Q it s₂) E s₁) E s)
    (hs : ∀ x, foldedSetIterable iter env x = pure x := by intro _; rfl) :
    wpAny (model prog w) A (eval (.ListComp elt [⟨.Name x px, iter, [], 0⟩] scope pos) env) Q E s := by
  rw [eval_ListComp]
  exact wpAny_comprehension_free (use := none) rfl hs hclos hkind hnames h
theorem r_compA {s : Shared} {elt iter : Expr} {x y : Str} {px py : Pos} {scope : Scope} {cl : List (Str × Addr)} {pos spos : Pos} {env : Env} {Q : Flow → Shared → Prop}
    (hsw : swapsWith (.ListComp elt [⟨.Name x px, iter, [], 0⟩] scope pos) (some (.Name y py)) spos.line env = pure true)
    (hclos : closureFor scope env = pure cl) (hkind : scope.kind = .function)
    (hnames : ∀ y ∈ scope.names, y.2 = .local → scope.names.lookup y.1 = some .local)
    (h : wpAny (model prog w) A (eval iter env) (fun xv s₁ => wpAny (model prog w) A (pyIter xv) (fun it s₂ => Komp prog w A E (some (assign (.Name y py) env)) elt iter x px scope cl pos env (fun _ s' => Q .next s') it s₂) E s₁) E s)
    (hs : ∀ x, foldedSetIterable iter env x = pure x := by intro _; rfl) :
    wpAny (model prog w) A (exec (.Assign [.Name y py] (.ListComp elt [⟨.Name x px, iter, [], 0⟩] scope pos) spos) env) Q E s := by
  rw [exec_Assign_Name_used _ _ _ _ hsw]
  refine wpAny_bind (wpAny_standAt (wpAny_bind ?_))
  show wpAny _ A (do let _ ← comprehension (.ListComp elt [⟨.Name x px, iter, [], 0⟩] scope pos) scope env _ (newList []) false (eval iter env) (some (assign (.Name y py) env))) _ _ s
  exact wpAny_bind (wpAny_mono (wpAny_comprehension_free (use := some (assign (.Name y py) env)) (Q := fun _ s' => Q .next s') rfl hs hclos hkind hnames h) (fun _ s' hq => wpAny_pure (wpAny_pure hq)) fun _ _ e => e)
theorem komp {N : Nat} {Pv : Nat → Value → Prop} {X : Nat → AO} {I : Nat} {use : Option (Value → Sem Unit)} {elt iter : Expr} {x : Str} {px : Pos} {scope sc' : Scope} {cl cl0 : List (Str × Addr)} {pos : Pos} {cn : Str} {cs : Scope} {fr f : Option Addr} {cdv : Value} {Q : Value → Shared → Prop}
    (R : RC P H0 fs H n h) (hz : H0.objs.size ≤ n) (e : H I = some (X 0)) (Inv : Nat → Nat → List Value → PH → Prop)
    (hrel : relabel scope (envG cn cs L cl0 fr f cdv) = sc') (hcell : ∀ y ∈ scope.names, y.2 ≠ .cell) (hkind : scope.kind = .function) (hx : sc'.names.lookup x = some .local)
    (i0 : ∀ D H', Only [I] H H' → Inv D 0 [] H')
    (stab : ∀ D i vs H' H'', Only [I, D] H' H'' → (∃ ws, H' D = some (.lst ws)) → H' I = some (X i) → Inv D i vs H' → Inv D i vs H'')
    (self : ∀ fs' H' n' h' tk' Q' E', RC P H0 fs' H' n' h' → H' I = some (X 0) → Q' (.ref I) ⟨h', g, d, tk', os⟩ → wpAny (model prog w) A (pyIter (.ref I)) Q' E' ⟨h', g, d, tk', os⟩)
    (item : ∀ fs' H' n' h' tk' i Q' E', i < N → Only [I] H H' → RC P H0 fs' H' n' h' → H' I = some (X i) → (∀ v h'' tk'', Pv i v → RC P H0 fs' (H'.set I (X (i + 1))) n' h'' → Q' (some v) ⟨h'', g, d, tk'', os⟩) → wpAny (model prog w) A (pyNext (.ref I)) Q' E' ⟨h', g, d, tk', os⟩)
    (done : ∀ fs' H' n' h' tk' Q' E', Only [I] H H' → RC P H0 fs' H' n' h' → H' I = some (X N) → (∀ h'' tk'', RC P H0 fs' (H'.del I) n' h'' → Q' none ⟨h'', g, d, tk'', os⟩) → wpAny (model prog w) A (pyNext (.ref I)) Q' E' ⟨h', g, d, tk', os⟩)
    (turn : ∀ D C i vs H' mm n' h' tk' v, i < N → n ≤ C → C < n' → n ≤ D → D < n' → n ≤ n' → Pv i v → Inv D i vs H' → Only [I] H H' → H' D = some (.lst vs) → RC P H0 ((C, upd mm x v) :: fs) H' n' h' →
      wpAny (model prog w) A (eval elt (envG cn sc' C cl fr none cdv)) (fun y s' => ∃ H'' n'' h'' tk'', s' = ⟨h'', g, d, tk'', os⟩ ∧ n' ≤ n'' ∧ H'.le H'' ∧ Inv D (i + 1) (vs ++ [y]) H'' ∧ RC P H0 ((C, upd mm x v) :: fs) H'' n'' h'') (fun _ _ => False) ⟨h', g, d, tk', os⟩)
    (hN : N ≤ 1000000)
    (fin : ∀ D C vs mm H' n' h' tk', n ≤ D → n ≤ n' → Inv D N vs H' → Only [I] H H' → H' D = some (.lst vs) → RC P H0 ((C, mm) :: fs) H' n' h' → compPost (model prog w) A E use Q (.ref D) C (.ok .next) ⟨h', g, d, tk', os⟩) :
    Komp prog w A E use elt iter x px scope cl pos (envG cn cs L cl0 fr f cdv) Q (.ref I) ⟨h, g, d, tk, os⟩ := by
  unfold Komp
  refine r_newlist R hz (by simp) fun D h₁ hD R1 => ?_
  refine wpAny_newFunctionEnv hcell (by intro y hy; simp at hy) (fun h₂ hns hsb => ?_) hkind
  dsimp only at hns hsb ⊢
  have sz1 := R1.sz
  have nD : H D = none := R.none_new hD
  have lI := R.lt e
  have hDI : D ≠ I := by omega
  have R2 := R1.enter (h' := h₂) (by omega) hns (fun b o q => hsb.extBut b o (Nat.ne_of_lt (ltsz q)) (Heap.get?_push_of_some _ q))
  generalize hC : h₁.objs.size = C at R2 hns hsb ⊢
  have hDC : D < C := by omega
  have o1 : Only [I] H (H.set D (.lst [])) := Only.new _ (Only.refl _ _) nD
  have eI : (H.set D (.lst [])) I = some (X 0) := PH.set_at (Ne.symm hDI) e
  have loop : ∀ tk', codeAny (model prog w) A (.compLoop (.ListComp elt [⟨.Name x px, iter, [], 0⟩] scope pos) 0 (.ref I) (.ref D) (envG cn sc' C cl fr none cdv)) (compPost (model prog w) A E use Q (.ref D) C) ⟨h₂, g, d, tk', os⟩ := by
    intro tk'
    refine codeAny_compLoop_list (fun k s => ∃ i vs H' mm n' h' tk', k + i = N ∧ s = ⟨h', g, d, tk', os⟩ ∧ C + 1 ≤ n' ∧ H' I = some (X i) ∧ Only [I] H H' ∧ H' D = some (.lst vs) ∧ vs.length = i ∧ Inv D i vs H' ∧ RC P H0 ((C, mm) :: fs) H' n' h') ?_ N
      ⟨0, [], _, _, _, _, _, Nat.add_zero _, rfl, Nat.le_refl _, eI, o1, PH.set_self _ _ _, rfl, i0 _ _ o1, R2⟩
    rintro k s ⟨i, vs, H', mm, n', h', tk', hki, rfl, hn', hI, oo, hDv, hlen, hInv, R'⟩
    by_cases hlt : i < N
    · refine item _ _ _ _ _ i _ _ hlt oo R' hI fun v h3 tk3 pv R3 => ?_
      have oo3 : Only [I] H (H'.set I (X (i + 1))) := Only.set _ oo (List.mem_singleton.mpr rfl)
      have hI3 : (H'.set I (X (i + 1))) I = some (X (i + 1)) := PH.set_self _ _ _
      have hD3 : (H'.set I (X (i + 1))) D = some (.lst vs) := PH.set_at hDI hDv
      have hInv3 : Inv D i vs (H'.set I (X (i + 1))) := stab D i vs H' _ (Only.set _ (Only.refl _ _) (.head _)) ⟨_, hDv⟩ hI hInv
      refine wpAny_assign_Name (r_storeG (cn := cn) (cs := sc') (cl := cl) (fr := fr) (f := none) (cdv := cdv) R3 (fun h4 tk4 R4 => ?_) (by rw [← hrel]; exact hkind) hx)
      refine wpAny_mono (turn D C i vs _ mm n' h4 tk4 v hlt (by omega) (by omega) hD (by omega) (by omega) pv hInv3 oo3 hD3 R4) (fun y s5 q => ?_) fun _ _ f => f.elim
      obtain ⟨H5, n5, h5, tk5, rfl, hn5, le5, inv5, R5⟩ := q
      have hD5 := le5 _ _ hD3
      have hI5 := le5 _ _ hI3
      obtain ⟨o, ho, kk, rfl⟩ := R5.obj hD5
      refine with_size (wpAny_list_append_plain (s := ⟨h5, g, d, tk5, os⟩) (items := vs.toArray) ⟨kk, ho⟩ (fun h6 hp6 hs6 hsz => ?_) (by rw [sizeLine_eq]; simp; omega))
      obtain ⟨k6, ho6⟩ := hp6
      have R6 := R5.put hD5 ho6 (y := .lst (vs ++ [y])) ⟨k6, by simp⟩ (fun b o hb q => (hs6.2 b hb).trans q) hsz
      have oo6 : Only [I] H (H5.set D (.lst (vs ++ [y]))) := Only.new _ (Only.le _ oo3 le5) nD
      have hI6 : (H5.set D (.lst (vs ++ [y]))) I = some (X (i + 1)) := PH.set_at (Ne.symm hDI) hI5
      refine ⟨k - 1, by omega, i + 1, vs ++ [y], _, _, _, _, _, by omega, rfl, by omega, hI6, oo6, PH.set_self _ _ _, by simp [hlen], ?_, R6⟩
      exact stab D (i + 1) _ H5 _ (Only.set _ (Only.refl _ _) (.tail _ (.head _))) ⟨_, hD5⟩ hI5 inv5
    · obtain rfl : i = N := by omega
      refine done _ _ _ _ _ _ _ oo R' hI fun h3 tk3 R3 => ?_
      have od := PH.del_only H' I
      exact fin D C vs mm _ n' h3 tk3 hD (by omega) (stab D i vs H' _ (fun a z nz q => od a z (fun q' => nz (List.mem_singleton.mp q' ▸ .head _)) q) ⟨_, hDv⟩ hI hInv) (Only.trans oo od) (od _ _ (by simpa using hDI) hDv) R3
  have hcenv : ({ (newEnv scope C (envG cn cs L cl0 fr f cdv).globals cl (envG cn cs L cl0 fr f cdv).qual none .none (some (envG cn cs L cl0 fr f cdv)) builtinsNs) with scope := relabel scope (envG cn cs L cl0 fr f cdv) } : Env) = envG cn sc' C cl fr none cdv := by rw [hrel]; rfl
  rw [hcenv]
  exact codeAny_compStart_list (loop _) (self _ _ _ _ _ _ _ R2 eI (loop _))
theorem ints_snoc : ∀ {vs : List Value} {ns : List Int} {z : Int} {t : Tok}, IntsAre vs ns → IntsAre (vs ++ [.int z t]) (ns ++ [z])
  | _, _, _, _, .nil => .cons _ _ .nil
  | _, _, _, _, .cons n t r => .cons n t (ints_snoc r)
theorem komp_range {N : Nat} {F : Nat → Int} {I : Nat} {elt iter : Expr} {x : Str} {px : Pos} {scope sc' : Scope} {cl cl0 : List (Str × Addr)} {pos : Pos} {cn : Str} {cs : Scope} {fr f : Option Addr} {cdv : Value} {Q : Value → Shared → Prop}
    (R : RC P H0 fs H n h) (hz : H0.objs.size ≤ n) (hh : A.handled = none) (e : H I = some (.rng 0 (N : Nat)))
    (hrel : relabel scope (envG cn cs L cl0 fr f cdv) = sc') (hcell : ∀ y ∈ scope.names, y.2 ≠ .cell) (hkind : scope.kind = .function) (hx : sc'.names.lookup x = some .local)
    (turn : ∀ C i H' mm n' h' tk' t, i < N → n ≤ C → n ≤ n' → Only [I] H H' → RC P H0 ((C, upd mm x (.int (i : Nat) t)) :: fs) H' n' h' →
      wpAny (model prog w) A (eval elt (envG cn sc' C cl fr none cdv)) (fun y s' => ∃ t2 n'' h'' tk'', y = .int (F i) t2 ∧ s' = ⟨h'', g, d, tk'', os⟩ ∧ n' ≤ n'' ∧ RC P H0 ((C, upd mm x (.int (i : Nat) t)) :: fs) H' n'' h'') (fun _ _ => False) ⟨h', g, d, tk', os⟩)
    (hN : N ≤ 1000000)
    (fin : ∀ (D : Nat) vs H' n' h' tk', n ≤ D → n ≤ n' → IntsAre vs ((List.range N).map F) → Only [I] H H' → H' D = some (.lst vs) → RC P H0 fs H' n' h' → Q (.ref D) ⟨h', g, d, tk', os⟩) :
    Komp prog w A E none elt iter x px scope cl pos (envG cn cs L cl0 fr f cdv) Q (.ref I) ⟨h, g, d, tk, os⟩ := by
  refine komp (N := N) (Pv := fun i v => ∃ t, v = .int (i : Nat) t) (X := fun i => .rng (i : Nat) (N - (i : Nat))) R hz (by rw [e]; simp) (fun _ i vs _ => IntsAre vs ((List.range i).map F)) hrel hcell hkind hx
    (fun _ _ _ => .nil) (fun _ _ _ _ _ _ _ _ q => q) ?_ ?_ ?_ ?_ hN ?_
  · intro fs' H' n' h' tk' Q' E' R' eI q
    obtain ⟨o, ho, rfl⟩ := R'.obj eI
    exact wpAny_pyIter_rangeiter (s := ⟨h', g, d, tk', os⟩) ho q
  · intro fs' H' n' h' tk' i Q' E' hlt oo R' eI q
    obtain ⟨o, ho, rfl⟩ := R'.obj eI
    refine with_size (wpAny_pyNext_range_item (s := ⟨h', g, d, tk', os⟩) (x := (i : Nat)) (left := (N : Int) - (i : Nat)) (step := 1) ho (by omega) fun h1 ho1 hs1 hsz => ?_)
    refine q _ _ _ ⟨_, rfl⟩ (R'.put eI ho1 ?_ (fun b o hb e => (hs1.2 b hb).trans e) hsz)
    show rngObj _ _ = rngObj _ _
    congr 1; omega
  · intro fs' H' n' h' tk' Q' E' oo R' eI q
    obtain ⟨o, ho, rfl⟩ := R'.obj eI
    refine with_size (wpAny_pyNext_range_end (s := ⟨h', g, d, tk', os⟩) (x := (N : Nat)) (left := (N : Int) - (N : Nat)) (step := 1) hh ho (by omega) fun h1 hs1 hsz => ?_)
    exact q _ _ (R'.del eI hs1 hsz)
  · rintro D C i vs H' mm n' h' tk' v hlt hC hCn hD hDn hn ⟨t, rfl⟩ inv oo hDv R'
    refine wpAny_mono (turn C i H' mm n' h' tk' t hlt hC hn oo R') (fun y s' q => ?_) fun _ _ x => x
    obtain ⟨t2, n'', h'', tk'', rfl, rfl, hn2, R2⟩ := q
    refine ⟨H', n'', h'', tk'', rfl, hn2, PH.le_refl _, ?_, R2⟩
    rw [List.range_succ, List.map_append]
    exact ints_snoc inv
  · intro D C vs mm H' n' h' tk' hD hn inv oo hDv R'
    refine ⟨mm, (R'.fr _ (.head _)).1, fun h2 hs2 => ?_⟩
    exact fin D vs H' n' h2 tk' hD hn inv oo hDv (R'.popBut hs2)
noncomputable def LI (ax i : Nat) : AO := .prp (fun o => o.cls = .type "list_iterator" ∧ o.data = .fields #[.ref ax, .int (i : Nat) 0])
theorem r_iter_list {ax : Nat} {vs : List Value} {Q : Value → Shared → Prop} (R : RC P H0 fs H n h) (hz : H0.objs.size ≤ n) (e : H ax = some (.lst vs))
    (q : ∀ (I : Nat) h', n ≤ I → RC P H0 fs (H.set I (LI ax 0)) (I + 1) h' → Q (.ref I) ⟨h', g, d, tk, os⟩) : wpAny (model prog w) A (pyIter (.ref ax)) Q E ⟨h, g, d, tk, os⟩ :=
  wpAny_pyIter_list (s := ⟨h, g, d, tk, os⟩) (R.list e) (q _ _ R.sz (R.push (x := LI ax 0) ⟨rfl, rfl⟩ rfl (Nat.le_trans hz R.sz)))
theorem RC.li {ax i I : Nat} (R : RC P H0 fs H n h) (e : H I = some (LI ax i)) : h.IsListIter I ax i := by
  obtain ⟨o, ho, hc⟩ := R.obj e; exact ⟨o, ho, hc⟩
theorem komp_list {I ax : Nat} {its : List Value} {use : Option (Value → Sem Unit)} {elt iter : Expr} {x : Str} {px : Pos} {scope sc' : Scope} {cl cl0 : List (Str × Addr)} {pos : Pos} {cn : Str} {cs : Scope} {fr f : Option Addr} {cdv : Value} {Q : Value → Shared → Prop}
    (R : RC P H0 fs H n h) (hz : H0.objs.size ≤ n) (hh : A.handled = none) (e : H I = some (LI ax 0)) (eax : H ax = some (.lst its)) (Inv : Nat → Nat → List Value → PH → Prop)
    (hrel : relabel scope (envG cn cs L cl0 fr f cdv) = sc') (hcell : ∀ y ∈ scope.names, y.2 ≠ .cell) (hkind : scope.kind = .function) (hx : sc'.names.lookup x = some .local)
    (i0 : ∀ D H', Only [I] H H' → Inv D 0 [] H')
    (stab : ∀ D i vs H' H'', Only [I, D] H' H'' → (∃ ws, H' D = some (.lst ws)) → H' I = some (LI ax i) → Inv D i vs H' → Inv D i vs H'')
    (turn : ∀ D C i vs H' mm n' h' tk' v, i < its.length → n ≤ C → C < n' → n ≤ D → D < n' → n ≤ n' → its[i]? = some v → Inv D i vs H' → Only [I] H H' → H' D = some (.lst vs) → RC P H0 ((C, upd mm x v) :: fs) H' n' h' →
      wpAny (model prog w) A (eval elt (envG cn sc' C cl fr none cdv)) (fun y s' => ∃ H'' n'' h'' tk'', s' = ⟨h'', g, d, tk'', os⟩ ∧ n' ≤ n'' ∧ H'.le H'' ∧ Inv D (i + 1) (vs ++ [y]) H'' ∧ RC P H0 ((C, upd mm x v) :: fs) H'' n'' h'') (fun _ _ => False) ⟨h', g, d, tk', os⟩)
    (hN : its.length ≤ 1000000)
    (fin : ∀ D C vs mm H' n' h' tk', n ≤ D → n ≤ n' → Inv D its.length vs H' → Only [I] H H' → H' D = some (.lst vs) → RC P H0 ((C, mm) :: fs) H' n' h' → compPost (model prog w) A E use Q (.ref D) C (.ok .next) ⟨h', g, d, tk', os⟩) :
    Komp prog w A E use elt iter x px scope cl pos (envG cn cs L cl0 fr f cdv) Q (.ref I) ⟨h, g, d, tk, os⟩ := by
  have hax : ax ≠ I := ne_of eax e (fun q => nomatch (show AO.lst _ = AO.prp _ from q))
  have eax' : ∀ H', Only [I] H H' → H' ax = some (.lst its) := fun H' oo => oo ax _ (by simpa using hax) eax
  refine komp (N := its.length) (Pv := fun i v => its[i]? = some v) (X := fun i => LI ax i) R hz e Inv hrel hcell hkind hx i0 stab ?_ ?_ ?_ turn hN fin
  · intro fs' H' n' h' tk' Q' E' R' eI q
    exact wpAny_pyIter_listiter (s := ⟨h', g, d, tk', os⟩) (R'.li eI) q
  · intro fs' H' n' h' tk' i Q' E' hlt oo R' eI q
    refine with_size (wpAny_pyNext_list_item (s := ⟨h', g, d, tk', os⟩) (x := its[i]) (R'.li eI) (R'.list (eax' H' oo)) (by simp [hlt]) fun h1 ho1 hs1 hsz => ?_)
    obtain ⟨o1, g1, c1⟩ := ho1
    exact q _ _ _ (by simp [hlt]) (R'.put eI g1 (y := LI ax (i + 1)) c1 (fun b o hb e => (hs1.2 b hb).trans e) hsz)
  · intro fs' H' n' h' tk' Q' E' oo R' eI q
    refine with_size (wpAny_pyNext_list_end (s := ⟨h', g, d, tk', os⟩) hh (R'.li eI) (R'.list (eax' H' oo)) (by simp) fun h1 hs1 hsz => ?_)
    exact q _ _ (R'.del eI hs1 hsz)
theorem r_dictI {env : Env} {keys : List (Option Expr)} {values : List Expr} {pos : Pos} {Q : Value → Shared → Prop} (R : RC P H0 fs H n h) (hz : H0.objs.size ≤ n)
    (k : ∀ (a : Nat) h1, n ≤ a → RC P H0 fs (H.set a (ID prog w [])) (a + 1) h1 → wpAny (model prog w) A (evalPairs (pairTrees keys values env pos)) (fun vs s₁ => DDone prog w (PySem.intKind prog w) a Q vs s₁) E ⟨h1, g, d, tk, os⟩)
    (hall : keys.all (·.isSome) = true := by rfl) (hl : keys.length = values.length := by rfl) (h0 : keys ≠ [] := by simp) (hlen : keys.length ≤ 15 := by decide) :
    wpAny (model prog w) A (eval (.Dict keys values pos) env) Q E ⟨h, g, d, tk, os⟩ := by
  obtain ⟨o, ho, hd⟩ := Heap.dictOf_iff.mp (Heap.DictOf.new (knd := PySem.intKind prog w) h)
  have e : o = { cls := .type "dict", data := .dict #[] } := by
    rw [Heap.get?_push_size _ rfl] at ho; exact (Option.some.inj ho).symm
  subst e
  exact wpAny_Dict_walk (knd := PySem.intKind prog w) (s := ⟨h, g, d, tk, os⟩) hall hl h0 hlen (k _ _ R.sz (R.push (x := ID prog w []) hd rfl (Nat.le_trans hz R.sz)))
theorem r_dictI_done {Q : Value → Shared → Prop} {a : Nat} {vs : List (Value × Value)} (R : RC P H0 fs H n h) (e : H a = some (ID prog w [])) (hk : allIntKeys vs = true) (hn : ((intKeyPairs vs).map (·.1)).Nodup)
    (k : ∀ h' tk', RC P H0 fs (H.set a (ID prog w (intKeyPairs vs))) n h' → Q (.ref a) ⟨h', g, d, tk', os⟩) : DDone prog w (PySem.intKind prog w) a Q vs ⟨h, g, d, tk, os⟩ := by
  refine display_done_int hk hn (R.idd e) fun h' hm hs => k h' _ ?_
  obtain ⟨o, ho, hd⟩ := Heap.dictOf_iff.mp hm
  exact R.put e ho hd (fun b o hb q => (hs.2 b hb).trans q) (Nat.le_of_eq hs.1.symm)
theorem r_item_id {value slice : Expr} {a : Addr} {kvs : List (Int × Value)} {k : Int} {u : Tok} {v : Value} {Q : Value → Shared → Prop} (R : RC P H0 fs H n h) (e : H a = some (ID prog w kvs)) (hv : valueAt kvs k = some v)
    (q : ∀ tk', Q v ⟨h, g, d, tk', os⟩)
    (hs : subscripted slice false (.ref a) (.int k u) = operate [.ref a, .int k u] (getItem (.ref a) (.int k u)) := by with_unfolding_all rfl) :
    wpAny (model prog w) A (subscriptTail value slice (.ref a) (.int k u)) Q E ⟨h, g, d, tk, os⟩ :=
  tail_any (Heap.MapOf.typeIs (s := ⟨h, g, d, tk, os⟩) (R.idd e).mapOf) slot_dict_getitem.lookup (wpAny_getItem_of (intKind_is prog w k u) (R.idd e).mapOf hv (q _)) hs
theorem r_item_tup {value slice : Expr} {a : Nat} {vs : List Value} {k : Int} {u : Tok} {v : Value} {Q : Value → Shared → Prop} (R : RC P H0 fs H n h) (e : H a = some (.tup vs)) (h0 : 0 ≤ k) (hb : k < 1000) (hx : vs[k.toNat]? = some v)
    (q : Q v ⟨h, g, d, tk, os⟩)
    (hs : subscripted slice false (.ref a) (.int k u) = operate [.ref a, .int k u] (getItem (.ref a) (.int k u)) := by with_unfolding_all rfl) :
    wpAny (model prog w) A (subscriptTail value slice (.ref a) (.int k u)) Q E ⟨h, g, d, tk, os⟩ := by
  have e1 : ¬ k < 0 := by omega
  have hl : k.toNat < vs.length := by
    rcases Nat.lt_or_ge k.toNat vs.length with q | q
    · exact q
    · rw [List.getElem?_eq_none q] at hx; exact nomatch hx
  exact tail_any (R.tup e).typeIs slot_tuple_getitem.lookup (getItem_tuple (R.tup e) (by omega) (by omega) (j := k.toNat) (by simp [seqIndex?]; omega) (by simpa using hx) q) hs
end
section
noncomputable def PB : List Stmt := PySem.Challenge.pw_ja0003_02.main.body
noncomputable def sg (l : List Stmt) (n : Nat) : Stmt := (l.drop n).headD (.Pass ⟨0, 0, 0, 0⟩)
noncomputable def fA : Stmt → Arguments
  | .FunctionDef _ a .. => a
  | _ => ⟨[], [], none, [], [], none, []⟩
noncomputable def fB : Stmt → List Stmt
  | .FunctionDef _ _ b .. => b
  | .ClassDef _ _ _ b .. => b
  | _ => []
noncomputable def fC : Stmt → Scope
  | .FunctionDef _ _ _ _ _ _ s .. => s
  | .ClassDef _ _ _ _ _ _ s .. => s
  | _ => ⟨.function, [], false, false, []⟩
abbrev PO := Params → Obj
abbrev PT := Params → BT
noncomputable def zz (l : List Nat) : Str := ⟨⟨l⟩⟩
noncomputable def de (P : Params) (s : Str) (t : Nat) (v : Value) : DictEntry := .mk (PySem.PyData.keyHash P s) (.str s t) v
noncomputable abbrev k0 := @PySem.W.SL.s2766695959194262286x5
noncomputable abbrev k1 := @PySem.W.SL.s5856160107412720595x4
noncomputable abbrev k2 := @PySem.W.SL.s658472552662922059x5
noncomputable abbrev k3 := @PySem.W.SL.s14018661285674007319x4
noncomputable abbrev k4 := @PySem.W.SL.s7097527257260152453x26
noncomputable abbrev k5 := @PySem.W.SL.s7174869446012820540x8
noncomputable abbrev k6 := @PySem.W.SL.s6070975301684473832x10
noncomputable abbrev k7 := @PySem.W.SL.s11030030927630378310x26
noncomputable abbrev k8 := @PySem.W.SL.s10062305145149207511x16
noncomputable abbrev k9 := @PySem.W.SL.s17162191345867700912x4
noncomputable abbrev k10 := @PySem.W.SL.s5946037652744460706x9
noncomputable abbrev k11 := @PySem.W.SL.s4278001404047624695x13
noncomputable abbrev k12 := @PySem.W.SL.s2742458400755230247x6
noncomputable abbrev k13 := @PySem.W.SL.s4209523147560561109x18
noncomputable abbrev k14 := @PySem.W.SL.s14755015743595814543x17
noncomputable abbrev k15 := @PySem.W.SL.s10220274742760427390x26
noncomputable abbrev k16 := @PySem.W.SL.s4290257624100764138x5
noncomputable abbrev k17 := @PySem.W.SL.s4860613602091757760x24
noncomputable abbrev k18 := @PySem.W.SL.s11443829558043349243x14
noncomputable abbrev k19 := @PySem.W.SL.s6511155373996960695x17
noncomputable abbrev k20 := @PySem.W.SL.s12411053484034534018x21
noncomputable abbrev k21 := @PySem.W.SL.s8101838861749082086x8
noncomputable abbrev b0 := @PySem.W.boot_o_0
noncomputable abbrev b1 := @PySem.W.boot_o_1
noncomputable abbrev b2 := @PySem.W.boot_o_2
noncomputable abbrev b3 := @PySem.W.boot_o_3
noncomputable abbrev b4 := @PySem.W.boot_o_4
noncomputable abbrev b5 := @PySem.W.boot_o_5
noncomputable abbrev b6 := @PySem.W.boot_o_6
noncomputable abbrev b7 := @PySem.W.boot_o_7
noncomputable abbrev b8 := @PySem.W.boot_o_8
noncomputable abbrev b9 := @PySem.W.boot_o_9
noncomputable abbrev b10 := @PySem.W.boot_o_10
noncomputable def z0 : Str := zz [95,108,97,119,95,116,117,114,110,101,100]
noncomputable def z1 : Str := zz [116,114,105,103,103,101,114]
noncomputable def z2 : Str := zz [95,95,105,110,105,116,95,95]
noncomputable def z3 : Str := zz [65,69,65,68,46,95,95,105,110,105,116,95,95]
noncomputable def z4 : Str := zz [47,99,108,97,105,109,47,99,117,116,46,112,121]
noncomputable def z5 : Str := zz [117,112,100,97,116,101,95,107,101,121]
noncomputable def z6 : Str := zz [67,114,121,112,116,111,80,97,105,114,46,117,112,100,97,116,101,95,107,101,121]
noncomputable def z7 : Str := zz [101,110,99,114,121,112,116,95,112,97,99,107,101,116]
noncomputable def z8 : Str := zz [67,114,121,112,116,111,80,97,105,114,46,101,110,99,114,121,112,116,95,112,97,99,107,101,116]
noncomputable def z9 : Str := zz [95,119,97,108,108]
noncomputable def z10 : Str := zz [115,101,108,102]
noncomputable def z11 : Str := zz [115,116,97,116,101]
noncomputable def z12 : Str := zz [115,105,122,101]
noncomputable def z13 : Str := zz [114,101,109,111,118,101]
noncomputable def z14 : Str := zz [72,101,97,100,101,114,80,114,111,116,101,99,116,105,111,110,46,114,101,109,111,118,101]
noncomputable def z15 : Str := zz [95,95,109,111,100,117,108,101,95,95]
noncomputable def z16 : Str := zz [97,105,111,113,117,105,99,46,113,117,105,99,46,99,114,121,112,116,111]
noncomputable def z17 : Str := zz [95,95,102,105,114,115,116,108,105,110,101,110,111,95,95]
noncomputable def z18 : Str := zz [65,69,83,95,49,50,56,95,71,67,77,95,83,72,65,50,53,54]
noncomputable def z19 : Str := zz [65,69,83,95,50,53,54,95,71,67,77,95,83,72,65,51,56,52]
noncomputable def z20 : Str := zz [67,72,65,67,72,65,50,48,95,80,79,76,89,49,51,48,53,95,83,72,65,50,53,54]
noncomputable def z21 : Str := zz [95,95,115,116,97,116,105,99,95,97,116,116,114,105,98,117,116,101,115,95,95]
noncomputable def z22 : Str := zz [95,95,100,105,99,116,95,95]
noncomputable def z23 : Str := zz [95,95,119,101,97,107,114,101,102,95,95]
noncomputable def z24 : Str := zz [95,95,100,111,99,95,95]
noncomputable def z25 : Str := zz [104,107,100,102,95,101,120,112,97,110,100,95,108,97,98,101,108]
noncomputable def z26 : Str := zz [95,108,97,119,95,112,114,105,109,105,116,105,118,101,115]
noncomputable def z27 : Str := zz [108,97,119,95,106,97,48,48,48,51,95,48,50]
noncomputable def z28 : Str := zz [97,105,111,113,117,105,99,46,113,117,105,99,46,112,97,99,107,101,116]
noncomputable def z29 : Str := zz [95,108,97,119,95,100,117,101]
noncomputable def z30 : Str := zz [95,95,113,117,97,108,110,97,109,101,95,95]
noncomputable def z31 : Str := zz [67,105,112,104,101,114,83,117,105,116,101]
noncomputable def z32 : Str := zz [95,108,97,119,95,101,120,112,97,110,100]
noncomputable def z33 : Str := zz [104,107,100,102,95,101,120,116,114,97,99,116]
noncomputable def z34 : Str := zz [105,115,95,108,111,110,103,95,104,101,97,100,101,114]
noncomputable def z35 : Str := zz [105,115,95,118,97,108,105,100]
noncomputable def z36 : Str := zz [67,114,121,112,116,111,67,111,110,116,101,120,116,46,105,115,95,118,97,108,105,100]
noncomputable def z37 : Str := zz [119,111,114,100]
noncomputable def z38 : Str := zz [110,97,109,101]
noncomputable def z39 : Str := zz [107,101,121]
noncomputable def z40 : Str := zz [102,105,114,115,116]
noncomputable def z41 : Str := zz [115,101,99,111,110,100]
noncomputable def z42 : Str := zz [116,104,105,114,100]
noncomputable def z43 : Str := zz [95,95,110,97,109,101,95,95]
noncomputable def z44 : Str := zz [95,95,112,97,99,107,97,103,101,95,95]
noncomputable def z45 : Str := zz [95,95,108,111,97,100,101,114,95,95]
noncomputable def z46 : Str := zz [95,95,115,112,101,99,95,95]
noncomputable def z47 : Str := zz [95,95,97,110,110,111,116,97,116,105,111,110,115,95,95]
noncomputable def z48 : Str := zz [95,95,98,117,105,108,116,105,110,115,95,95]
noncomputable def z49 : Str := zz [95,95,102,105,108,101,95,95]
noncomputable def z50 : Str := zz [95,95,99,97,99,104,101,100,95,95]
noncomputable def z51 : Str := zz [65,69,65,68,95,78,79,78,67,69,95,76,69,78,71,84,72]
noncomputable def z52 : Str := zz [80,65,67,75,69,84,95,78,85,77,66,69,82,95,76,69,78,71,84,72,95,77,65,88]
noncomputable def z53 : Str := zz [83,65,77,80,76,69,95,76,69,78,71,84,72]
noncomputable def z54 : Str := zz [67,114,121,112,116,111,69,114,114,111,114]
noncomputable def z55 : Str := zz [65,69,65,68]
noncomputable def z56 : Str := zz [72,101,97,100,101,114,80,114,111,116,101,99,116,105,111,110]
noncomputable def z57 : Str := zz [80,65,67,75,69,84,95,76,79,78,71,95,72,69,65,68,69,82]
noncomputable def z58 : Str := zz [81,117,105,99,80,114,111,116,111,99,111,108,86,101,114,115,105,111,110]
noncomputable def z59 : Str := zz [100,101,99,111,100,101,95,112,97,99,107,101,116,95,110,117,109,98,101,114]
noncomputable def z60 : Str := zz [99,105,112,104,101,114,95,115,117,105,116,101,95,104,97,115,104]
noncomputable def z61 : Str := zz [67,73,80,72,69,82,95,83,85,73,84,69,83]
noncomputable def z62 : Str := zz [73,78,73,84,73,65,76,95,67,73,80,72,69,82,95,83,85,73,84,69]
noncomputable def z63 : Str := zz [73,78,73,84,73,65,76,95,83,65,76,84,95,86,69,82,83,73,79,78,95,49]
noncomputable def z64 : Str := zz [73,78,73,84,73,65,76,95,83,65,76,84,95,86,69,82,83,73,79,78,95,50]
noncomputable def z65 : Str := zz [78,111,67,97,108,108,98,97,99,107]
noncomputable def z66 : Str := zz [75,101,121,85,110,97,118,97,105,108,97,98,108,101,69,114,114,111,114]
noncomputable def z67 : Str := zz [100,101,114,105,118,101,95,107,101,121,95,105,118,95,104,112]
noncomputable def z68 : Str := zz [67,114,121,112,116,111,67,111,110,116,101,120,116]
noncomputable def z69 : Str := zz [95,108,97,119,95,116,97,107,101]
noncomputable def z70 : Str := zz [115,99,114,105,112,116]
noncomputable def z71 : Str := zz [109,111,115,116]
noncomputable def z72 : Str := zz [99,101,108,108,115]
noncomputable def z73 : Str := zz [97,112,112,108,121]
noncomputable def z74 : Str := zz [72,101,97,100,101,114,80,114,111,116,101,99,116,105,111,110,46,97,112,112,108,121]
noncomputable def z75 : Str := zz [100,101,99,114,121,112,116,95,112,97,99,107,101,116]
noncomputable def z76 : Str := zz [67,114,121,112,116,111,80,97,105,114,46,100,101,99,114,121,112,116,95,112,97,99,107,101,116]
noncomputable def z77 : Str := zz [95,99,105,112,104,101,114,95,110,97,109,101]
noncomputable def z78 : Str := zz [95,105,118]
noncomputable def z79 : Str := zz [95,107,101,121]
noncomputable def z80 : Str := zz [95,112,114,105,109,105,116,105,118,101,115]
noncomputable def z81 : Str := zz [116,101,97,114,100,111,119,110]
noncomputable def z82 : Str := zz [67,114,121,112,116,111,67,111,110,116,101,120,116,46,116,101,97,114,100,111,119,110]
noncomputable def z83 : Str := zz [95,109,97,115,107]
noncomputable def z84 : Str := zz [72,101,97,100,101,114,80,114,111,116,101,99,116,105,111,110,46,95,109,97,115,107]
noncomputable def z85 : Str := zz [115,101,116,117,112]
noncomputable def z86 : Str := zz [67,114,121,112,116,111,67,111,110,116,101,120,116,46,95,95,105,110,105,116,95,95]
noncomputable def z87 : Str := zz [72,101,97,100,101,114,80,114,111,116,101,99,116,105,111,110,46,95,95,105,110,105,116,95,95]
noncomputable def z88 : Str := zz [97,105,111,113,117,105,99,46,95,99,114,121,112,116,111]
noncomputable def z89 : Str := zz [108,97,119]
noncomputable def z90 : Str := zz [97,112,112,108,121,95,107,101,121,95,112,104,97,115,101]
noncomputable def z91 : Str := zz [110,101,120,116,95,107,101,121,95,112,104,97,115,101]
noncomputable def z92 : Str := zz [101,110,99,114,121,112,116]
noncomputable def z93 : Str := zz [65,69,65,68,46,101,110,99,114,121,112,116]
noncomputable def z94 : Str := zz [100,101,99,114,121,112,116]
noncomputable def z95 : Str := zz [65,69,65,68,46,100,101,99,114,121,112,116]
noncomputable def z96 : Str := zz [107,101,121,95,112,104,97,115,101]
noncomputable def z97 : Str := zz [67,114,121,112,116,111,80,97,105,114,46,107,101,121,95,112,104,97,115,101]
noncomputable def z98 : Str := zz [95,108,97,119,95,98,101,103,117,110]
noncomputable def z99 : Str := zz [107]
noncomputable def z100 : Str := zz [95,110,111,110,99,101]
noncomputable def z101 : Str := zz [95,117,112,100,97,116,101,95,107,101,121,95,114,101,113,117,101,115,116,101,100]
noncomputable def z102 : Str := zz [97,101,97,100,95,116,97,103,95,115,105,122,101]
noncomputable def z103 : Str := zz [112,114,105,109,105,116,105,118,101,115]
noncomputable def z104 : Str := zz [114,101,99,118]
noncomputable def z105 : Str := zz [115,101,110,100]
noncomputable def z106 : Str := zz [60,109,111,100,117,108,101,62]
noncomputable def z107 : Str := zz [78,69,71,79,84,73,65,84,73,79,78]
noncomputable def z108 : Str := zz [86,69,82,83,73,79,78,95,49]
noncomputable def z109 : Str := zz [86,69,82,83,73,79,78,95,50]
noncomputable def z110 : Str := zz [114,101,99,118,95,115,101,116,117,112,95,99,98]
noncomputable def z111 : Str := zz [114,101,99,118,95,116,101,97,114,100,111,119,110,95,99,98]
noncomputable def z112 : Str := zz [115,101,110,100,95,115,101,116,117,112,95,99,98]
noncomputable def z113 : Str := zz [115,101,110,100,95,116,101,97,114,100,111,119,110,95,99,98]
noncomputable def z114 : Str := zz [95,108,97,119,95,115,101,97,108]
noncomputable def z115 : Str := zz [67,114,121,112,116,111,80,97,105,114,46,116,101,97,114,100,111,119,110]
noncomputable def z116 : Str := zz [67,114,121,112,116,111,67,111,110,116,101,120,116,46,101,110,99,114,121,112,116,95,112,97,99,107,101,116]
noncomputable def z117 : Str := zz [65,69,65,68,46,95,110,111,110,99,101]
noncomputable def z118 : Str := zz [67,114,121,112,116,111,80,97,105,114]
noncomputable def z119 : Str := zz [95,108,97,119,95,115,116,97,116,101]
noncomputable def z120 : Str := zz [95,108,97,119,95,111,99,116,101,116,115]
noncomputable def z121 : Str := zz [95,108,97,119,95,111,112,101,110,101,100]
noncomputable def z122 : Str := zz [95,108,97,119,95,109,97,115,107]
noncomputable def z123 : Str := zz [95,108,97,119,95,101,120,116,114,97,99,116]
noncomputable def z124 : Str := zz [95,108,97,119,95,110,101,120,116]
noncomputable def z125 : Str := zz [95,108,97,119,95,102,105,114,115,116]
noncomputable def z126 : Str := zz [116,114,117,110,99,97,116,101,100]
noncomputable def z127 : Str := zz [110,117,109,95,98,105,116,115]
noncomputable def z128 : Str := zz [101,120,112,101,99,116,101,100]
noncomputable def z129 : Str := zz [119,105,110,100,111,119]
noncomputable def z130 : Str := zz [104,97,108,102,95,119,105,110,100,111,119]
noncomputable def z131 : Str := zz [99,97,110,100,105,100,97,116,101]
noncomputable def z132 : Str := zz [115,97,108,116]
noncomputable def z133 : Str := zz [107,101,121,95,109,97,116,101,114,105,97,108]
noncomputable def z134 : Str := zz [116,101,120,116]
noncomputable def z135 : Str := zz [110,117,109,98,101,114]
noncomputable def z136 : Str := zz [99,114,121,112,116,111]
noncomputable def z137 : Str := zz [99,105,112,104,101,114,95,115,117,105,116,101]
noncomputable def z138 : Str := zz [115,101,99,114,101,116]
noncomputable def z139 : Str := zz [118,101,114,115,105,111,110]
noncomputable def z140 : Str := zz [97,108,103,111,114,105,116,104,109]
noncomputable def z141 : Str := zz [107,101,121,95,115,105,122,101]
noncomputable def z142 : Str := zz [67,114,121,112,116,111,67,111,110,116,101,120,116,46,100,101,99,114,121,112,116,95,112,97,99,107,101,116]
noncomputable def z143 : Str := zz [100,97,116,97]
noncomputable def z144 : Str := zz [97,115,115,111,99,105,97,116,101,100,95,100,97,116,97]
noncomputable def z145 : Str := zz [112,97,99,107,101,116,95,110,117,109,98,101,114]
noncomputable def z146 : Str := zz [111,112,101,110,101,100]
noncomputable def z147 : Str := zz [99,105,112,104,101,114,95,110,97,109,101]
noncomputable def z148 : Str := zz [67,114,121,112,116,111,80,97,105,114,46,95,95,105,110,105,116,95,95]
noncomputable def z149 : Str := zz [95,117,112,100,97,116,101,95,107,101,121]
noncomputable def z150 : Str := zz [67,114,121,112,116,111,80,97,105,114,46,95,117,112,100,97,116,101,95,107,101,121]
noncomputable def z151 : Str := zz [112,97,99,107,101,116]
noncomputable def z152 : Str := zz [101,110,99,114,121,112,116,101,100,95,111,102,102,115,101,116]
noncomputable def z153 : Str := zz [101,120,112,101,99,116,101,100,95,112,97,99,107,101,116,95,110,117,109,98,101,114]
noncomputable def z154 : Str := zz [112,108,97,105,110,95,104,101,97,100,101,114]
noncomputable def z155 : Str := zz [112,97,121,108,111,97,100]
noncomputable def z156 : Str := zz [115,101,116,117,112,95,105,110,105,116,105,97,108]
noncomputable def z157 : Str := zz [67,114,121,112,116,111,80,97,105,114,46,115,101,116,117,112,95,105,110,105,116,105,97,108]
noncomputable def z158 : Str := zz [112,110,95,111,102,102,115,101,116]
noncomputable def z159 : Str := zz [115,97,109,112,108,101,95,111,102,102,115,101,116]
noncomputable def z160 : Str := zz [109,97,115,107]
noncomputable def z161 : Str := zz [98,117,102,102,101,114]
noncomputable def z162 : Str := zz [112,110,95,108,101,110,103,116,104]
noncomputable def z163 : Str := zz [112,110,95,116,114,117,110,99,97,116,101,100]
noncomputable def z164 : Str := zz [105]
noncomputable def z165 : Str := zz [115,117,105,116,101]
noncomputable def z166 : Str := zz [115,101,116,117,112,95,99,98]
noncomputable def z167 : Str := zz [116,101,97,114,100,111,119,110,95,99,98]
noncomputable def z168 : Str := zz [102,105,114,115,116,95,98,121,116,101]
noncomputable def z169 : Str := zz [67,114,121,112,116,111,67,111,110,116,101,120,116,46,115,101,116,117,112]
noncomputable def z170 : Str := zz [112,108,97,105,110,95,112,97,121,108,111,97,100]
noncomputable def z171 : Str := zz [112,114,111,116,101,99,116,101,100,95,112,97,121,108,111,97,100]
noncomputable def z172 : Str := zz [108,97,98,101,108]
noncomputable def z173 : Str := zz [115,97,109,112,108,101]
noncomputable def z174 : Str := zz [95,115,101,116,117,112,95,99,98]
noncomputable def z175 : Str := zz [95,116,101,97,114,100,111,119,110,95,99,98]
noncomputable def z176 : Str := zz [97,101,97,100]
noncomputable def z177 : Str := zz [104,112]
noncomputable def z178 : Str := zz [104,97,115,104,95,118,97,108,117,101]
noncomputable def z179 : Str := zz [108,101,110,103,116,104]
noncomputable def z180 : Str := zz [115,105,100,101,115]
noncomputable def z181 : Str := zz [99,105,100]
noncomputable def z182 : Str := zz [115,101,99,114,101,116,115]
noncomputable def z183 : Str := zz [107,105,110,100]
noncomputable def z184 : Str := zz [95,95,109,97,105,110,95,95]
noncomputable def z185 : Str := zz [110,111,110,99,101]
noncomputable def z186 : Str := zz [97,115,115,111,99,105,97,116,101,100]
noncomputable def z187 : Str := zz [112,108,97,105,110]
noncomputable def z188 : Str := zz [105,118]
noncomputable def z189 : Str := zz [97,116]
noncomputable def z190 : Str := zz [105,115,95,99,108,105,101,110,116]
noncomputable def z191 : Str := zz [114,101,99,118,95,108,97,98,101,108]
noncomputable def z192 : Str := zz [115,101,110,100,95,108,97,98,101,108]
noncomputable def z193 : Str := zz [105,110,105,116,105,97,108,95,115,97,108,116]
noncomputable def z194 : Str := zz [105,110,105,116,105,97,108,95,115,101,99,114,101,116]
noncomputable def z195 : Str := zz [104,112,95,99,105,112,104,101,114,95,110,97,109,101]
noncomputable def z196 : Str := zz [97,101,97,100,95,99,105,112,104,101,114,95,110,97,109,101]
noncomputable def z197 : Str := zz [118,97,114,115]
noncomputable def z198 : Str := zz [100,105,114]
noncomputable def z199 : Str := zz [108,111,99,97,108,115]
noncomputable def z200 : Str := zz [97,116,116,114,103,101,116,116,101,114]
noncomputable def z201 : Str := zz [109,101,116,104,111,100,99,97,108,108,101,114]
noncomputable def z202 : Str := zz [95,95]
noncomputable def z203 : Str := zz [116,121,112,101]
noncomputable def z204 : Str := zz [105,115,105,110,115,116,97,110,99,101]
noncomputable def z205 : Str := zz [105,115,115,117,98,99,108,97,115,115]
noncomputable def z206 : Str := zz [103,101,116,97,116,116,114]
noncomputable def z207 : Str := zz [104,97,115,97,116,116,114]
noncomputable def o_43 : PO := fun v => (.mk (.type k0) .none (.seq #[] 0) #[])
noncomputable def o_44 : PO := fun v => (.mk .none .none (.fields #[]) #[])
noncomputable def o_45 : PO := fun v => (.mk (.type k1) .none (.fields #[(.str z106 182), (.str z106 183), (.str z4 184), (.int 1 0), (.int 0 0), (.int 0 0), (.int 0 0), (.int 0 0), (.ref 11), (.bool .false), (.int 181 0), (.ref 12), .none, .none, .none, .none, (.int 185 0), (.int 1 0), (.str z4 186)]) #[])
noncomputable def o_46 : PO := fun v => (.mk (.type k2) .none .plain #[(.some (.ref 13)), (.some (.ref 3)), (.some (.ref 3)), .none, (.some (.str z184 164)), .none, (.some (.ref 0))])
noncomputable def tree_47 : PT := fun v => (.node (b0 v) (.node (b1 v) (.node (b3 v) (.node (b7 v) .nil .nil) (.node (o_43 v) .nil .nil)) (.node (b5 v) (.node (b9 v) .nil .nil) (.node (o_45 v) .nil .nil))) (.node (b2 v) (.node (b4 v) (.node (b8 v) .nil .nil) (.node (o_44 v) .nil .nil)) (.node (b6 v) (.node (b10 v) .nil .nil) (.node (o_46 v) .nil .nil))))
noncomputable def o_49 : PO := fun v => (.mk (.type k3) .none (.dict #[(de v z43 165 (.str z88 194)), (de v z24 166 .none), (de v z44 167 .none), (de v z45 168 (.builtin k4)), (de v z46 169 .none), (de v z47 170 (.ref 6)), (de v z48 171 (.ref 4)), (de v z49 173 (.str z4 172)), (de v z50 174 .none), (de v z9 193 (.ref 21)), (de v z51 197 (.int 12 196)), (de v z52 199 (.int 4 198)), (de v z53 201 (.int 16 200)), (de v z54 219 (.ref 31))] 14) #[])
noncomputable def o_50 : PO := fun v => (.mk .none .none (.fields #[(.int 1 0), (.int 0 0), (.ref 20), (.int 8 0), (.int 0 0), (.ref 27)]) #[])
noncomputable def o_51 : PO := fun v => (.mk (.type k0) .none (.seq #[] 0) #[])
noncomputable def o_52 : PO := fun v => (.mk .none .none (.fields #[]) #[])
noncomputable def o_53 : PO := fun v => (.mk (.type k0) .none (.seq #[(.str z99 190)] 0) #[])
noncomputable def o_54 : PO := fun v => (.mk (.type k0) .none (.seq #[] 0) #[])
noncomputable def o_55 : PO := fun v => (.mk .none .none (.func (.mk z9 z9 (fA (sg PB 0)) (.stmts (fB (sg PB 0))) (fC (sg PB 0)) 0 [] .none .none .none .none .none .none .none 0)) #[])
noncomputable def o_56 : PO := fun v => (.mk (.type k1) .none (.fields #[(.str z9 187), (.str z9 188), (.str z4 189), (.int 1 0), (.int 1 0), (.int 0 0), (.int 0 0), (.int 3 0), (.ref 15), (.bool .true), (.int 181 0), (.ref 16), .none, (.ref 17), (.ref 18), (.ref 19), (.int 191 0), (.int 1 0), (.str z4 192)]) #[])
noncomputable def o_57 : PO := fun v => (.mk (.type k5) .none (.func (.mk z9 z9 (fA (sg PB 0)) (.stmts (fB (sg PB 0))) (fC (sg PB 0)) 3 [] .none .none .none (.str z184 164) .none (.ref 20) .none 0)) #[])
noncomputable def o_58 : PO := fun v => (.mk (.type k0) .none (.seq #[(.type k6)] 0) #[])
noncomputable def o_59 : PO := fun v => (.mk (.type k7) .none (.fields #[(.builtin k8), (.type k9)]) #[])
noncomputable def o_60 : PO := fun v => (.mk (.type k3) .none (.dict #[(de v z15 209 (.str z88 194)), (de v z30 211 (.str z54 210)), (de v z17 213 (.int 8 212)), (de v z21 214 (.ref 29))] 4) #[])
noncomputable def o_61 : PO := fun v => (.mk (.type k0) .none (.seq #[] 0) #[])
noncomputable def o_62 : PO := fun v => (.mk .none .none (.fields #[]) #[])
noncomputable def o_63 : PO := fun v => (.mk (.type k1) .none (.fields #[(.str z54 204), (.str z54 205), (.str z4 206), (.int 8 0), (.int 0 0), (.int 0 0), (.int 0 0), (.int 0 0), (.ref 25), (.bool .false), (.int 181 0), (.ref 26), .none, .none, .none, .none, (.int 207 0), (.int 8 0), (.str z4 208)]) #[])
noncomputable def o_64 : PO := fun v => (.mk (.type k2) .none .plain #[(.some (.ref 27)), (.some (.ref 3)), (.some (.ref 24)), .none, (.some (.str z88 194)), .none, (.some (.ref 0))])
noncomputable def o_65 : PO := fun v => (.mk (.type k0) .none (.seq #[] 0) #[])
noncomputable def o_66 : PO := fun v => (.mk (.type k3) .none (.dict #[(de v z15 209 (.str z88 194)), (de v z17 213 (.int 8 212)), (de v z21 214 (.ref 29)), (de v z23 216 (.ref 32)), (de v z24 217 .none)] 3) #[])
noncomputable def o_67 : PO := fun v => (.mk (.type k9) .none (.cls (.mk z54 [(.type k6)] [(.ref 31), (.type k6), (.type k10), (.type k11), (.type k12)] 30 z54 .true [] [] .false .none .false)) #[(.some (.ref 22)), .none, (.some (.str z54 202)), (.some (.str z54 210)), (.some (.builtin k13)), (.some (.bool .true))])
noncomputable def o_68 : PO := fun v => (.mk (.type k14) .none (.fields #[(.str z23 215), (.ref 31), (.builtin k15), .none]) #[])
noncomputable def o_69 : PO := fun v => (.mk (.type k16) .none (.fields #[(.ref 31), (.ref 31), (.ref 31)]) #[])
noncomputable def o_70 : PO := fun v => (.mk (.type k7) .none (.fields #[(.builtin k17), (.ref 31)]) #[])
noncomputable def tree_70 : PT := fun v => (.node (b0 v) (.node (b1 v) (.node (o_49 v) (.node (b7 v) (.node (o_51 v) (.node (o_67 v) .nil .nil) .nil) (.node (o_59 v) .nil .nil)) (.node (o_43 v) (.node (o_55 v) .nil .nil) (.node (o_63 v) .nil .nil))) (.node (b5 v) (.node (b9 v) (.node (o_53 v) (.node (o_69 v) .nil .nil) .nil) (.node (o_61 v) .nil .nil)) (.node (o_45 v) (.node (o_57 v) .nil .nil) (.node (o_65 v) .nil .nil)))) (.node (b2 v) (.node (b4 v) (.node (b8 v) (.node (o_52 v) (.node (o_68 v) .nil .nil) .nil) (.node (o_60 v) .nil .nil)) (.node (o_50 v) (.node (o_56 v) .nil .nil) (.node (o_64 v) .nil .nil))) (.node (b6 v) (.node (b10 v) (.node (o_54 v) (.node (o_70 v) .nil .nil) .nil) (.node (o_62 v) .nil .nil)) (.node (o_46 v) (.node (o_58 v) .nil .nil) (.node (o_66 v) .nil .nil)))))
noncomputable def o_71 : PO := fun v => (.mk (.type k3) .none (.dict #[(de v z43 165 (.str z88 194)), (de v z24 166 .none), (de v z44 167 .none), (de v z45 168 (.builtin k4)), (de v z46 169 .none), (de v z47 170 (.ref 6)), (de v z48 171 (.ref 4)), (de v z49 173 (.str z4 172)), (de v z50 174 .none), (de v z9 193 (.ref 21)), (de v z51 197 (.int 12 196)), (de v z52 199 (.int 4 198)), (de v z53 201 (.int 16 200)), (de v z54 219 (.ref 31)), (de v z55 283 (.ref 72))] 15) #[])
noncomputable def o_72 : PO := fun v => (.mk .none .none (.fields #[(.int 1 0), (.int 0 0), (.ref 20), (.int 8 0), (.int 0 0), (.ref 27), (.int 10 0), (.int 0 0), (.ref 40)]) #[])
noncomputable def o_73 : PO := fun v => (.mk (.type k0) .none (.seq #[] 0) #[])
noncomputable def o_74 : PO := fun v => (.mk (.type k7) .none (.fields #[(.builtin k8), (.type k9)]) #[])
noncomputable def o_75 : PO := fun v => (.mk (.type k3) .none (.dict #[(de v z15 227 (.str z88 194)), (de v z30 229 (.str z55 228)), (de v z17 231 (.int 10 230)), (de v z2 242 (.ref 48)), (de v z94 253 (.ref 55)), (de v z92 263 (.ref 62)), (de v z100 271 (.ref 69)), (de v z21 276 (.ref 70))] 8) #[])
noncomputable def o_76 : PO := fun v => (.mk (.type k0) .none (.seq #[] 0) #[])
noncomputable def o_77 : PO := fun v => (.mk .none .none (.fields #[(.int 12 0), (.int 4 0), (.ref 47), (.int 22 0), (.int 4 0), (.ref 54), (.int 28 0), (.int 4 0), (.ref 61), (.int 31 0), (.int 4 0), (.ref 68)]) #[])
noncomputable def o_78 : PO := fun v => (.mk (.type k1) .none (.fields #[(.str z55 222), (.str z55 223), (.str z4 224), (.int 10 0), (.int 0 0), (.int 0 0), (.int 0 0), (.int 0 0), (.ref 38), (.bool .false), (.int 181 0), (.ref 39), .none, .none, .none, .none, (.int 225 0), (.int 10 0), (.str z4 226)]) #[])
noncomputable def o_79 : PO := fun v => (.mk (.type k2) .none .plain #[(.some (.ref 40)), (.some (.ref 3)), (.some (.ref 37)), .none, (.some (.str z88 194)), .none, (.some (.ref 0))])
noncomputable def o_80 : PO := fun v => (.mk (.type k0) .none (.seq #[] 0) #[])
noncomputable def o_81 : PO := fun v => (.mk .none .none (.fields #[]) #[])
noncomputable def o_82 : PO := fun v => (.mk (.type k0) .none (.seq #[(.str z10 235), (.str z147 236), (.str z39 237), (.str z188 238), (.str z103 239)] 0) #[])
noncomputable def o_83 : PO := fun v => (.mk (.type k0) .none (.seq #[] 0) #[])
noncomputable def o_84 : PO := fun v => (.mk .none .none (.func (.mk z2 z3 (fA (sg (fB (sg PB 6)) 0)) (.stmts (fB (sg (fB (sg PB 6)) 0))) (fC (sg (fB (sg PB 6)) 0)) 0 [] .none .none .none .none .none .none .none 0)) #[])
noncomputable def o_85 : PO := fun v => (.mk (.type k1) .none (.fields #[(.str z2 232), (.str z3 233), (.str z4 234), (.int 12 0), (.int 5 0), (.int 0 0), (.int 0 0), (.int 3 0), (.ref 42), (.bool .true), (.int 181 0), (.ref 43), .none, (.ref 44), (.ref 45), (.ref 46), (.int 240 0), (.int 12 0), (.str z4 241)]) #[])
noncomputable def o_86 : PO := fun v => (.mk (.type k5) .none (.func (.mk z2 z3 (fA (sg (fB (sg PB 6)) 0)) (.stmts (fB (sg (fB (sg PB 6)) 0))) (fC (sg (fB (sg PB 6)) 0)) 3 [] .none .none .none (.str z88 194) .none (.ref 47) .none 0)) #[])
noncomputable def o_87 : PO := fun v => (.mk (.type k0) .none (.seq #[] 0) #[])
noncomputable def o_88 : PO := fun v => (.mk .none .none (.fields #[]) #[])
noncomputable def o_89 : PO := fun v => (.mk (.type k0) .none (.seq #[(.str z10 246), (.str z143 247), (.str z144 248), (.str z145 249), (.str z146 250)] 0) #[])
noncomputable def o_90 : PO := fun v => (.mk (.type k0) .none (.seq #[] 0) #[])
noncomputable def o_91 : PO := fun v => (.mk .none .none (.func (.mk z94 z95 (fA (sg (fB (sg PB 6)) 1)) (.stmts (fB (sg (fB (sg PB 6)) 1))) (fC (sg (fB (sg PB 6)) 1)) 0 [] .none .none .none .none .none .none .none 0)) #[])
noncomputable def o_92 : PO := fun v => (.mk (.type k1) .none (.fields #[(.str z94 243), (.str z95 244), (.str z4 245), (.int 22 0), (.int 4 0), (.int 0 0), (.int 0 0), (.int 3 0), (.ref 49), (.bool .true), (.int 181 0), (.ref 50), .none, (.ref 51), (.ref 52), (.ref 53), (.int 251 0), (.int 22 0), (.str z4 252)]) #[])
noncomputable def o_93 : PO := fun v => (.mk (.type k5) .none (.func (.mk z94 z95 (fA (sg (fB (sg PB 6)) 1)) (.stmts (fB (sg (fB (sg PB 6)) 1))) (fC (sg (fB (sg PB 6)) 1)) 3 [] .none .none .none (.str z88 194) .none (.ref 54) .none 0)) #[])
noncomputable def o_94 : PO := fun v => (.mk (.type k0) .none (.seq #[] 0) #[])
noncomputable def o_95 : PO := fun v => (.mk .none .none (.fields #[]) #[])
noncomputable def o_96 : PO := fun v => (.mk (.type k0) .none (.seq #[(.str z10 257), (.str z143 258), (.str z144 259), (.str z145 260)] 0) #[])
noncomputable def o_97 : PO := fun v => (.mk (.type k0) .none (.seq #[] 0) #[])
noncomputable def o_98 : PO := fun v => (.mk .none .none (.func (.mk z92 z93 (fA (sg (fB (sg PB 6)) 2)) (.stmts (fB (sg (fB (sg PB 6)) 2))) (fC (sg (fB (sg PB 6)) 2)) 0 [] .none .none .none .none .none .none .none 0)) #[])
noncomputable def o_99 : PO := fun v => (.mk (.type k1) .none (.fields #[(.str z92 254), (.str z93 255), (.str z4 256), (.int 28 0), (.int 4 0), (.int 0 0), (.int 0 0), (.int 3 0), (.ref 56), (.bool .true), (.int 181 0), (.ref 57), .none, (.ref 58), (.ref 59), (.ref 60), (.int 261 0), (.int 28 0), (.str z4 262)]) #[])
noncomputable def o_100 : PO := fun v => (.mk (.type k5) .none (.func (.mk z92 z93 (fA (sg (fB (sg PB 6)) 2)) (.stmts (fB (sg (fB (sg PB 6)) 2))) (fC (sg (fB (sg PB 6)) 2)) 3 [] .none .none .none (.str z88 194) .none (.ref 61) .none 0)) #[])
noncomputable def o_101 : PO := fun v => (.mk (.type k0) .none (.seq #[] 0) #[])
noncomputable def o_102 : PO := fun v => (.mk .none .none (.fields #[]) #[])
noncomputable def o_103 : PO := fun v => (.mk (.type k0) .none (.seq #[(.str z10 267), (.str z145 268)] 0) #[])
noncomputable def o_104 : PO := fun v => (.mk (.type k0) .none (.seq #[] 0) #[])
noncomputable def o_105 : PO := fun v => (.mk .none .none (.func (.mk z100 z117 (fA (sg (fB (sg PB 6)) 3)) (.stmts (fB (sg (fB (sg PB 6)) 3))) (fC (sg (fB (sg PB 6)) 3)) 0 [] .none .none .none .none .none .none .none 0)) #[])
noncomputable def o_106 : PO := fun v => (.mk (.type k1) .none (.fields #[(.str z100 264), (.str z117 265), (.str z4 266), (.int 31 0), (.int 2 0), (.int 0 0), (.int 0 0), (.int 3 0), (.ref 63), (.bool .true), (.int 181 0), (.ref 64), .none, (.ref 65), (.ref 66), (.ref 67), (.int 269 0), (.int 31 0), (.str z4 270)]) #[])
noncomputable def o_107 : PO := fun v => (.mk (.type k5) .none (.func (.mk z100 z117 (fA (sg (fB (sg PB 6)) 3)) (.stmts (fB (sg (fB (sg PB 6)) 3))) (fC (sg (fB (sg PB 6)) 3)) 3 [] .none .none .none (.str z88 194) .none (.ref 68) .none 0)) #[])
noncomputable def o_108 : PO := fun v => (.mk (.type k0) .none (.seq #[(.str z77 272), (.str z78 273), (.str z79 274), (.str z80 275)] 0) #[])
noncomputable def o_109 : PO := fun v => (.mk (.type k3) .none (.dict #[(de v z15 227 (.str z88 194)), (de v z17 231 (.int 10 230)), (de v z2 242 (.ref 48)), (de v z94 253 (.ref 55)), (de v z92 263 (.ref 62)), (de v z100 271 (.ref 69)), (de v z21 276 (.ref 70)), (de v z22 278 (.ref 73)), (de v z23 280 (.ref 74)), (de v z24 281 .none)] 4) #[])
noncomputable def o_110 : PO := fun v => (.mk (.type k9) .none (.cls (.mk z55 [(.type k12)] [(.ref 72), (.type k12)] 71 z55 .true [] [] .false .none .false)) #[.none, .none, (.some (.str z55 220)), (.some (.str z55 228)), (.some (.builtin k18)), (.some (.bool .true))])
noncomputable def o_111 : PO := fun v => (.mk (.type k14) .none (.fields #[(.str z22 277), (.ref 72), (.builtin k19), (.builtin k20)]) #[])
noncomputable def o_112 : PO := fun v => (.mk (.type k14) .none (.fields #[(.str z23 279), (.ref 72), (.builtin k15), .none]) #[])
noncomputable def o_113 : PO := fun v => (.mk (.type k16) .none (.fields #[(.ref 72), (.ref 72), (.ref 72)]) #[])
noncomputable def o_114 : PO := fun v => (.mk (.type k7) .none (.fields #[(.builtin k17), (.ref 72)]) #[])
noncomputable def tree_114 : PT := fun v => (.node (b0 v) (.node (b1 v) (.node (o_71 v) (.node (b7 v) (.node (o_51 v) (.node (o_67 v) (.node (o_101 v) .nil .nil) .nil) (.node (o_85 v) .nil .nil)) (.node (o_59 v) (.node (o_77 v) (.node (o_109 v) .nil .nil) .nil) (.node (o_93 v) .nil .nil))) (.node (o_43 v) (.node (o_55 v) (.node (o_73 v) (.node (o_105 v) .nil .nil) .nil) (.node (o_89 v) .nil .nil)) (.node (o_63 v) (.node (o_81 v) (.node (o_113 v) .nil .nil) .nil) (.node (o_97 v) .nil .nil)))) (.node (b5 v) (.node (b9 v) (.node (o_53 v) (.node (o_69 v) (.node (o_103 v) .nil .nil) .nil) (.node (o_87 v) .nil .nil)) (.node (o_61 v) (.node (o_79 v) (.node (o_111 v) .nil .nil) .nil) (.node (o_95 v) .nil .nil))) (.node (o_45 v) (.node (o_57 v) (.node (o_75 v) (.node (o_107 v) .nil .nil) .nil) (.node (o_91 v) .nil .nil)) (.node (o_65 v) (.node (o_83 v) .nil .nil) (.node (o_99 v) .nil .nil))))) (.node (b2 v) (.node (b4 v) (.node (b8 v) (.node (o_52 v) (.node (o_68 v) (.node (o_102 v) .nil .nil) .nil) (.node (o_86 v) .nil .nil)) (.node (o_60 v) (.node (o_78 v) (.node (o_110 v) .nil .nil) .nil) (.node (o_94 v) .nil .nil))) (.node (o_72 v) (.node (o_56 v) (.node (o_74 v) (.node (o_106 v) .nil .nil) .nil) (.node (o_90 v) .nil .nil)) (.node (o_64 v) (.node (o_82 v) (.node (o_114 v) .nil .nil) .nil) (.node (o_98 v) .nil .nil)))) (.node (b6 v) (.node (b10 v) (.node (o_54 v) (.node (o_70 v) (.node (o_104 v) .nil .nil) .nil) (.node (o_88 v) .nil .nil)) (.node (o_62 v) (.node (o_80 v) (.node (o_112 v) .nil .nil) .nil) (.node (o_96 v) .nil .nil))) (.node (o_46 v) (.node (o_58 v) (.node (o_76 v) (.node (o_108 v) .nil .nil) .nil) (.node (o_92 v) .nil .nil)) (.node (o_66 v) (.node (o_84 v) .nil .nil) (.node (o_100 v) .nil .nil))))))
noncomputable def o_115 : PO := fun v => (.mk (.type k3) .none (.dict #[(de v z43 165 (.str z28 355)), (de v z24 166 .none), (de v z44 167 .none), (de v z45 168 (.builtin k4)), (de v z46 169 .none), (de v z47 170 (.ref 6)), (de v z48 171 (.ref 4)), (de v z49 173 (.str z4 172)), (de v z50 174 .none), (de v z9 193 (.ref 21)), (de v z51 197 (.int 12 196)), (de v z52 199 (.int 4 198)), (de v z53 201 (.int 16 200)), (de v z54 219 (.ref 31)), (de v z55 283 (.ref 72)), (de v z56 354 (.ref 114)), (de v z57 358 (.int 128 357))] 17) #[])
noncomputable def o_116 : PO := fun v => (.mk .none .none (.fields #[(.int 1 0), (.int 0 0), (.ref 20), (.int 8 0), (.int 0 0), (.ref 27), (.int 10 0), (.int 0 0), (.ref 40), (.int 33 0), (.int 0 0), (.ref 82)]) #[])
noncomputable def o_117 : PO := fun v => (.mk (.type k0) .none (.seq #[] 0) #[])
noncomputable def o_118 : PO := fun v => (.mk (.type k7) .none (.fields #[(.builtin k8), (.type k9)]) #[])
noncomputable def o_119 : PO := fun v => (.mk (.type k3) .none (.dict #[(de v z15 291 (.str z88 194)), (de v z30 293 (.str z56 292)), (de v z17 295 (.int 33 294)), (de v z2 305 (.ref 90)), (de v z73 320 (.ref 97)), (de v z13 335 (.ref 104)), (de v z83 343 (.ref 111)), (de v z21 347 (.ref 112))] 8) #[])
noncomputable def o_120 : PO := fun v => (.mk (.type k0) .none (.seq #[] 0) #[])
noncomputable def o_121 : PO := fun v => (.mk .none .none (.fields #[(.int 35 0), (.int 4 0), (.ref 89), (.int 42 0), (.int 4 0), (.ref 96), (.int 56 0), (.int 4 0), (.ref 103), (.int 73 0), (.int 4 0), (.ref 110)]) #[])
noncomputable def o_122 : PO := fun v => (.mk (.type k1) .none (.fields #[(.str z56 286), (.str z56 287), (.str z4 288), (.int 33 0), (.int 0 0), (.int 0 0), (.int 0 0), (.int 0 0), (.ref 80), (.bool .false), (.int 181 0), (.ref 81), .none, .none, .none, .none, (.int 289 0), (.int 33 0), (.str z4 290)]) #[])
noncomputable def o_123 : PO := fun v => (.mk (.type k2) .none .plain #[(.some (.ref 82)), (.some (.ref 3)), (.some (.ref 79)), .none, (.some (.str z88 194)), .none, (.some (.ref 0))])
noncomputable def o_124 : PO := fun v => (.mk (.type k0) .none (.seq #[] 0) #[])
noncomputable def o_125 : PO := fun v => (.mk .none .none (.fields #[]) #[])
noncomputable def o_126 : PO := fun v => (.mk (.type k0) .none (.seq #[(.str z10 299), (.str z147 300), (.str z39 301), (.str z103 302)] 0) #[])
noncomputable def o_127 : PO := fun v => (.mk (.type k0) .none (.seq #[] 0) #[])
noncomputable def o_128 : PO := fun v => (.mk .none .none (.func (.mk z2 z87 (fA (sg (fB (sg PB 7)) 0)) (.stmts (fB (sg (fB (sg PB 7)) 0))) (fC (sg (fB (sg PB 7)) 0)) 0 [] .none .none .none .none .none .none .none 0)) #[])
noncomputable def o_129 : PO := fun v => (.mk (.type k1) .none (.fields #[(.str z2 296), (.str z87 297), (.str z4 298), (.int 35 0), (.int 4 0), (.int 0 0), (.int 0 0), (.int 3 0), (.ref 84), (.bool .true), (.int 181 0), (.ref 85), .none, (.ref 86), (.ref 87), (.ref 88), (.int 303 0), (.int 35 0), (.str z4 304)]) #[])
noncomputable def o_130 : PO := fun v => (.mk (.type k5) .none (.func (.mk z2 z87 (fA (sg (fB (sg PB 7)) 0)) (.stmts (fB (sg (fB (sg PB 7)) 0))) (fC (sg (fB (sg PB 7)) 0)) 3 [] .none .none .none (.str z88 194) .none (.ref 89) .none 0)) #[])
noncomputable def o_131 : PO := fun v => (.mk (.type k0) .none (.seq #[] 0) #[])
noncomputable def o_132 : PO := fun v => (.mk .none .none (.fields #[]) #[])
noncomputable def o_133 : PO := fun v => (.mk (.type k0) .none (.seq #[(.str z10 309), (.str z154 310), (.str z171 311), (.str z162 312), (.str z158 313), (.str z159 314), (.str z160 315), (.str z161 316), (.str z164 317)] 0) #[])
noncomputable def o_134 : PO := fun v => (.mk (.type k0) .none (.seq #[] 0) #[])
noncomputable def o_135 : PO := fun v => (.mk .none .none (.func (.mk z73 z74 (fA (sg (fB (sg PB 7)) 1)) (.stmts (fB (sg (fB (sg PB 7)) 1))) (fC (sg (fB (sg PB 7)) 1)) 0 [] .none .none .none .none .none .none .none 0)) #[])
noncomputable def o_136 : PO := fun v => (.mk (.type k1) .none (.fields #[(.str z73 306), (.str z74 307), (.str z4 308), (.int 42 0), (.int 3 0), (.int 0 0), (.int 0 0), (.int 3 0), (.ref 91), (.bool .true), (.int 181 0), (.ref 92), .none, (.ref 93), (.ref 94), (.ref 95), (.int 318 0), (.int 42 0), (.str z4 319)]) #[])
noncomputable def o_137 : PO := fun v => (.mk (.type k5) .none (.func (.mk z73 z74 (fA (sg (fB (sg PB 7)) 1)) (.stmts (fB (sg (fB (sg PB 7)) 1))) (fC (sg (fB (sg PB 7)) 1)) 3 [] .none .none .none (.str z88 194) .none (.ref 96) .none 0)) #[])
noncomputable def o_138 : PO := fun v => (.mk (.type k0) .none (.seq #[] 0) #[])
noncomputable def o_139 : PO := fun v => (.mk .none .none (.fields #[]) #[])
noncomputable def o_140 : PO := fun v => (.mk (.type k0) .none (.seq #[(.str z10 324), (.str z151 325), (.str z158 326), (.str z159 327), (.str z160 328), (.str z161 329), (.str z162 330), (.str z163 331), (.str z164 332)] 0) #[])
noncomputable def o_141 : PO := fun v => (.mk (.type k0) .none (.seq #[] 0) #[])
noncomputable def o_142 : PO := fun v => (.mk .none .none (.func (.mk z13 z14 (fA (sg (fB (sg PB 7)) 2)) (.stmts (fB (sg (fB (sg PB 7)) 2))) (fC (sg (fB (sg PB 7)) 2)) 0 [] .none .none .none .none .none .none .none 0)) #[])
noncomputable def o_143 : PO := fun v => (.mk (.type k1) .none (.fields #[(.str z13 321), (.str z14 322), (.str z4 323), (.int 56 0), (.int 3 0), (.int 0 0), (.int 0 0), (.int 3 0), (.ref 98), (.bool .true), (.int 181 0), (.ref 99), .none, (.ref 100), (.ref 101), (.ref 102), (.int 333 0), (.int 56 0), (.str z4 334)]) #[])
noncomputable def o_144 : PO := fun v => (.mk (.type k5) .none (.func (.mk z13 z14 (fA (sg (fB (sg PB 7)) 2)) (.stmts (fB (sg (fB (sg PB 7)) 2))) (fC (sg (fB (sg PB 7)) 2)) 3 [] .none .none .none (.str z88 194) .none (.ref 103) .none 0)) #[])
noncomputable def o_145 : PO := fun v => (.mk (.type k0) .none (.seq #[] 0) #[])
noncomputable def o_146 : PO := fun v => (.mk .none .none (.fields #[]) #[])
noncomputable def o_147 : PO := fun v => (.mk (.type k0) .none (.seq #[(.str z10 339), (.str z173 340)] 0) #[])
noncomputable def o_148 : PO := fun v => (.mk (.type k0) .none (.seq #[] 0) #[])
noncomputable def o_149 : PO := fun v => (.mk .none .none (.func (.mk z83 z84 (fA (sg (fB (sg PB 7)) 3)) (.stmts (fB (sg (fB (sg PB 7)) 3))) (fC (sg (fB (sg PB 7)) 3)) 0 [] .none .none .none .none .none .none .none 0)) #[])
noncomputable def o_150 : PO := fun v => (.mk (.type k1) .none (.fields #[(.str z83 336), (.str z84 337), (.str z4 338), (.int 73 0), (.int 2 0), (.int 0 0), (.int 0 0), (.int 3 0), (.ref 105), (.bool .true), (.int 181 0), (.ref 106), .none, (.ref 107), (.ref 108), (.ref 109), (.int 341 0), (.int 73 0), (.str z4 342)]) #[])
noncomputable def o_151 : PO := fun v => (.mk (.type k5) .none (.func (.mk z83 z84 (fA (sg (fB (sg PB 7)) 3)) (.stmts (fB (sg (fB (sg PB 7)) 3))) (fC (sg (fB (sg PB 7)) 3)) 3 [] .none .none .none (.str z88 194) .none (.ref 110) .none 0)) #[])
noncomputable def o_152 : PO := fun v => (.mk (.type k0) .none (.seq #[(.str z77 344), (.str z79 345), (.str z80 346)] 0) #[])
noncomputable def o_153 : PO := fun v => (.mk (.type k3) .none (.dict #[(de v z15 291 (.str z88 194)), (de v z17 295 (.int 33 294)), (de v z2 305 (.ref 90)), (de v z73 320 (.ref 97)), (de v z13 335 (.ref 104)), (de v z83 343 (.ref 111)), (de v z21 347 (.ref 112)), (de v z22 349 (.ref 115)), (de v z23 351 (.ref 116)), (de v z24 352 .none)] 4) #[])
noncomputable def o_154 : PO := fun v => (.mk (.type k9) .none (.cls (.mk z56 [(.type k12)] [(.ref 114), (.type k12)] 113 z56 .true [] [] .false .none .false)) #[.none, .none, (.some (.str z56 284)), (.some (.str z56 292)), (.some (.builtin k18)), (.some (.bool .true))])
noncomputable def o_155 : PO := fun v => (.mk (.type k14) .none (.fields #[(.str z22 348), (.ref 114), (.builtin k19), (.builtin k20)]) #[])
noncomputable def o_156 : PO := fun v => (.mk (.type k14) .none (.fields #[(.str z23 350), (.ref 114), (.builtin k15), .none]) #[])
noncomputable def o_157 : PO := fun v => (.mk (.type k16) .none (.fields #[(.ref 114), (.ref 114), (.ref 114)]) #[])
noncomputable def o_158 : PO := fun v => (.mk (.type k7) .none (.fields #[(.builtin k17), (.ref 114)]) #[])
noncomputable def tree_158 : PT := fun v => (.node (b0 v) (.node (b1 v) (.node (o_115 v) (.node (b7 v) (.node (o_51 v) (.node (o_67 v) (.node (o_101 v) .nil .nil) (.node (o_135 v) .nil .nil)) (.node (o_85 v) (.node (o_119 v) .nil .nil) (.node (o_151 v) .nil .nil))) (.node (o_59 v) (.node (o_77 v) (.node (o_109 v) .nil .nil) (.node (o_143 v) .nil .nil)) (.node (o_93 v) (.node (o_127 v) .nil .nil) .nil))) (.node (o_43 v) (.node (o_55 v) (.node (o_73 v) (.node (o_105 v) .nil .nil) (.node (o_139 v) .nil .nil)) (.node (o_89 v) (.node (o_123 v) .nil .nil) (.node (o_155 v) .nil .nil))) (.node (o_63 v) (.node (o_81 v) (.node (o_113 v) .nil .nil) (.node (o_147 v) .nil .nil)) (.node (o_97 v) (.node (o_131 v) .nil .nil) .nil)))) (.node (b5 v) (.node (b9 v) (.node (o_53 v) (.node (o_69 v) (.node (o_103 v) .nil .nil) (.node (o_137 v) .nil .nil)) (.node (o_87 v) (.node (o_121 v) .nil .nil) (.node (o_153 v) .nil .nil))) (.node (o_61 v) (.node (o_79 v) (.node (o_111 v) .nil .nil) (.node (o_145 v) .nil .nil)) (.node (o_95 v) (.node (o_129 v) .nil .nil) .nil))) (.node (o_45 v) (.node (o_57 v) (.node (o_75 v) (.node (o_107 v) .nil .nil) (.node (o_141 v) .nil .nil)) (.node (o_91 v) (.node (o_125 v) .nil .nil) (.node (o_157 v) .nil .nil))) (.node (o_65 v) (.node (o_83 v) (.node (o_117 v) .nil .nil) (.node (o_149 v) .nil .nil)) (.node (o_99 v) (.node (o_133 v) .nil .nil) .nil))))) (.node (b2 v) (.node (b4 v) (.node (b8 v) (.node (o_52 v) (.node (o_68 v) (.node (o_102 v) .nil .nil) (.node (o_136 v) .nil .nil)) (.node (o_86 v) (.node (o_120 v) .nil .nil) (.node (o_152 v) .nil .nil))) (.node (o_60 v) (.node (o_78 v) (.node (o_110 v) .nil .nil) (.node (o_144 v) .nil .nil)) (.node (o_94 v) (.node (o_128 v) .nil .nil) .nil))) (.node (o_116 v) (.node (o_56 v) (.node (o_74 v) (.node (o_106 v) .nil .nil) (.node (o_140 v) .nil .nil)) (.node (o_90 v) (.node (o_124 v) .nil .nil) (.node (o_156 v) .nil .nil))) (.node (o_64 v) (.node (o_82 v) (.node (o_114 v) .nil .nil) (.node (o_148 v) .nil .nil)) (.node (o_98 v) (.node (o_132 v) .nil .nil) .nil)))) (.node (b6 v) (.node (b10 v) (.node (o_54 v) (.node (o_70 v) (.node (o_104 v) .nil .nil) (.node (o_138 v) .nil .nil)) (.node (o_88 v) (.node (o_122 v) .nil .nil) (.node (o_154 v) .nil .nil))) (.node (o_62 v) (.node (o_80 v) (.node (o_112 v) .nil .nil) (.node (o_146 v) .nil .nil)) (.node (o_96 v) (.node (o_130 v) .nil .nil) .nil))) (.node (o_46 v) (.node (o_58 v) (.node (o_76 v) (.node (o_108 v) .nil .nil) (.node (o_142 v) .nil .nil)) (.node (o_92 v) (.node (o_126 v) .nil .nil) (.node (o_158 v) .nil .nil))) (.node (o_66 v) (.node (o_84 v) (.node (o_118 v) .nil .nil) (.node (o_150 v) .nil .nil)) (.node (o_100 v) (.node (o_134 v) .nil .nil) .nil))))))
noncomputable def o_159 : PO := fun v => (.mk (.type k3) .none (.dict #[(de v z43 165 (.str z16 404)), (de v z24 166 .none), (de v z44 167 .none), (de v z45 168 (.builtin k4)), (de v z46 169 .none), (de v z47 170 (.ref 6)), (de v z48 171 (.ref 4)), (de v z49 173 (.str z4 172)), (de v z50 174 .none), (de v z9 193 (.ref 21)), (de v z51 197 (.int 12 196)), (de v z52 199 (.int 4 198)), (de v z53 201 (.int 16 200)), (de v z54 219 (.ref 31)), (de v z55 283 (.ref 72)), (de v z56 354 (.ref 114)), (de v z57 358 (.int 128 357)), (de v z58 384 (.ref 128)), (de v z59 396 (.ref 139)), (de v z34 403 (.ref 146))] 20) #[])
noncomputable def o_160 : PO := fun v => (.mk .none .none (.fields #[(.int 1 0), (.int 0 0), (.ref 20), (.int 8 0), (.int 0 0), (.ref 27), (.int 10 0), (.int 0 0), (.ref 40), (.int 33 0), (.int 0 0), (.ref 82), (.int 77 0), (.int 0 0), (.ref 124), (.int 81 0), (.int 0 0), (.ref 138), (.int 91 0), (.int 0 0), (.ref 145)]) #[])
noncomputable def o_161 : PO := fun v => (.mk (.type k0) .none (.seq #[] 0) #[])
noncomputable def o_162 : PO := fun v => (.mk (.type k7) .none (.fields #[(.builtin k8), (.type k9)]) #[])
noncomputable def o_163 : PO := fun v => (.mk (.type k3) .none (.dict #[(de v z15 366 (.str z28 355)), (de v z30 368 (.str z58 367)), (de v z17 370 (.int 77 369)), (de v z107 372 (.int 0 371)), (de v z108 374 (.int 1 373)), (de v z109 376 (.int 1798521807 375)), (de v z21 377 (.ref 126))] 7) #[])
noncomputable def o_164 : PO := fun v => (.mk (.type k0) .none (.seq #[] 0) #[])
noncomputable def o_165 : PO := fun v => (.mk .none .none (.fields #[]) #[])
noncomputable def o_166 : PO := fun v => (.mk (.type k1) .none (.fields #[(.str z58 361), (.str z58 362), (.str z4 363), (.int 77 0), (.int 0 0), (.int 0 0), (.int 0 0), (.int 0 0), (.ref 122), (.bool .false), (.int 181 0), (.ref 123), .none, .none, .none, .none, (.int 364 0), (.int 77 0), (.str z4 365)]) #[])
noncomputable def o_167 : PO := fun v => (.mk (.type k2) .none .plain #[(.some (.ref 124)), (.some (.ref 3)), (.some (.ref 121)), .none, (.some (.str z28 355)), .none, (.some (.ref 0))])
noncomputable def o_168 : PO := fun v => (.mk (.type k0) .none (.seq #[] 0) #[])
noncomputable def o_169 : PO := fun v => (.mk (.type k3) .none (.dict #[(de v z15 366 (.str z28 355)), (de v z17 370 (.int 77 369)), (de v z107 372 (.int 0 371)), (de v z108 374 (.int 1 373)), (de v z109 376 (.int 1798521807 375)), (de v z21 377 (.ref 126)), (de v z22 379 (.ref 129)), (de v z23 381 (.ref 130)), (de v z24 382 .none)] 4) #[])
noncomputable def o_170 : PO := fun v => (.mk (.type k9) .none (.cls (.mk z58 [(.type k12)] [(.ref 128), (.type k12)] 127 z58 .true [] [] .false .none .false)) #[.none, .none, (.some (.str z58 359)), (.some (.str z58 367)), (.some (.builtin k18)), (.some (.bool .true))])
noncomputable def o_171 : PO := fun v => (.mk (.type k14) .none (.fields #[(.str z22 378), (.ref 128), (.builtin k19), (.builtin k20)]) #[])
noncomputable def o_172 : PO := fun v => (.mk (.type k14) .none (.fields #[(.str z23 380), (.ref 128), (.builtin k15), .none]) #[])
noncomputable def o_173 : PO := fun v => (.mk (.type k16) .none (.fields #[(.ref 128), (.ref 128), (.ref 128)]) #[])
noncomputable def o_174 : PO := fun v => (.mk (.type k7) .none (.fields #[(.builtin k17), (.ref 128)]) #[])
noncomputable def o_175 : PO := fun v => (.mk (.type k0) .none (.seq #[] 0) #[])
noncomputable def o_176 : PO := fun v => (.mk .none .none (.fields #[]) #[])
noncomputable def o_177 : PO := fun v => (.mk (.type k0) .none (.seq #[(.str z126 388), (.str z127 389), (.str z128 390), (.str z129 391), (.str z130 392), (.str z131 393)] 0) #[])
noncomputable def o_178 : PO := fun v => (.mk (.type k0) .none (.seq #[] 0) #[])
noncomputable def o_179 : PO := fun v => (.mk .none .none (.func (.mk z59 z59 (fA (sg PB 11)) (.stmts (fB (sg PB 11))) (fC (sg PB 11)) 0 [] .none .none .none .none .none .none .none 0)) #[])
noncomputable def o_180 : PO := fun v => (.mk (.type k1) .none (.fields #[(.str z59 385), (.str z59 386), (.str z4 387), (.int 81 0), (.int 3 0), (.int 0 0), (.int 0 0), (.int 3 0), (.ref 133), (.bool .true), (.int 181 0), (.ref 134), .none, (.ref 135), (.ref 136), (.ref 137), (.int 394 0), (.int 81 0), (.str z4 395)]) #[])
noncomputable def o_181 : PO := fun v => (.mk (.type k5) .none (.func (.mk z59 z59 (fA (sg PB 11)) (.stmts (fB (sg PB 11))) (fC (sg PB 11)) 3 [] .none .none .none (.str z28 355) .none (.ref 138) .none 0)) #[])
noncomputable def o_182 : PO := fun v => (.mk (.type k0) .none (.seq #[] 0) #[])
noncomputable def o_183 : PO := fun v => (.mk .none .none (.fields #[]) #[])
noncomputable def o_184 : PO := fun v => (.mk (.type k0) .none (.seq #[(.str z168 400)] 0) #[])
noncomputable def o_185 : PO := fun v => (.mk (.type k0) .none (.seq #[] 0) #[])
noncomputable def o_186 : PO := fun v => (.mk .none .none (.func (.mk z34 z34 (fA (sg PB 12)) (.stmts (fB (sg PB 12))) (fC (sg PB 12)) 0 [] .none .none .none .none .none .none .none 0)) #[])
noncomputable def o_187 : PO := fun v => (.mk (.type k1) .none (.fields #[(.str z34 397), (.str z34 398), (.str z4 399), (.int 91 0), (.int 1 0), (.int 0 0), (.int 0 0), (.int 3 0), (.ref 140), (.bool .true), (.int 181 0), (.ref 141), .none, (.ref 142), (.ref 143), (.ref 144), (.int 401 0), (.int 91 0), (.str z4 402)]) #[])
noncomputable def o_188 : PO := fun v => (.mk (.type k5) .none (.func (.mk z34 z34 (fA (sg PB 12)) (.stmts (fB (sg PB 12))) (fC (sg PB 12)) 3 [] .none .none .none (.str z28 355) .none (.ref 145) .none 0)) #[])
noncomputable def tree_188 : PT := fun v => (.node (b0 v) (.node (b1 v) (.node (o_159 v) (.node (b7 v) (.node (o_51 v) (.node (o_67 v) (.node (o_101 v) (.node (o_169 v) .nil .nil) .nil) (.node (o_135 v) .nil .nil)) (.node (o_85 v) (.node (o_119 v) (.node (o_185 v) .nil .nil) .nil) (.node (o_151 v) .nil .nil))) (.node (o_59 v) (.node (o_77 v) (.node (o_109 v) (.node (o_177 v) .nil .nil) .nil) (.node (o_143 v) .nil .nil)) (.node (o_93 v) (.node (o_127 v) .nil .nil) (.node (o_161 v) .nil .nil)))) (.node (o_43 v) (.node (o_55 v) (.node (o_73 v) (.node (o_105 v) (.node (o_173 v) .nil .nil) .nil) (.node (o_139 v) .nil .nil)) (.node (o_89 v) (.node (o_123 v) .nil .nil) (.node (o_155 v) .nil .nil))) (.node (o_63 v) (.node (o_81 v) (.node (o_113 v) (.node (o_181 v) .nil .nil) .nil) (.node (o_147 v) .nil .nil)) (.node (o_97 v) (.node (o_131 v) .nil .nil) (.node (o_165 v) .nil .nil))))) (.node (b5 v) (.node (b9 v) (.node (o_53 v) (.node (o_69 v) (.node (o_103 v) (.node (o_171 v) .nil .nil) .nil) (.node (o_137 v) .nil .nil)) (.node (o_87 v) (.node (o_121 v) (.node (o_187 v) .nil .nil) .nil) (.node (o_153 v) .nil .nil))) (.node (o_61 v) (.node (o_79 v) (.node (o_111 v) (.node (o_179 v) .nil .nil) .nil) (.node (o_145 v) .nil .nil)) (.node (o_95 v) (.node (o_129 v) .nil .nil) (.node (o_163 v) .nil .nil)))) (.node (o_45 v) (.node (o_57 v) (.node (o_75 v) (.node (o_107 v) (.node (o_175 v) .nil .nil) .nil) (.node (o_141 v) .nil .nil)) (.node (o_91 v) (.node (o_125 v) .nil .nil) (.node (o_157 v) .nil .nil))) (.node (o_65 v) (.node (o_83 v) (.node (o_117 v) (.node (o_183 v) .nil .nil) .nil) (.node (o_149 v) .nil .nil)) (.node (o_99 v) (.node (o_133 v) .nil .nil) (.node (o_167 v) .nil .nil)))))) (.node (b2 v) (.node (b4 v) (.node (b8 v) (.node (o_52 v) (.node (o_68 v) (.node (o_102 v) (.node (o_170 v) .nil .nil) .nil) (.node (o_136 v) .nil .nil)) (.node (o_86 v) (.node (o_120 v) (.node (o_186 v) .nil .nil) .nil) (.node (o_152 v) .nil .nil))) (.node (o_60 v) (.node (o_78 v) (.node (o_110 v) (.node (o_178 v) .nil .nil) .nil) (.node (o_144 v) .nil .nil)) (.node (o_94 v) (.node (o_128 v) .nil .nil) (.node (o_162 v) .nil .nil)))) (.node (o_160 v) (.node (o_56 v) (.node (o_74 v) (.node (o_106 v) (.node (o_174 v) .nil .nil) .nil) (.node (o_140 v) .nil .nil)) (.node (o_90 v) (.node (o_124 v) .nil .nil) (.node (o_156 v) .nil .nil))) (.node (o_64 v) (.node (o_82 v) (.node (o_114 v) (.node (o_182 v) .nil .nil) .nil) (.node (o_148 v) .nil .nil)) (.node (o_98 v) (.node (o_132 v) .nil .nil) (.node (o_166 v) .nil .nil))))) (.node (b6 v) (.node (b10 v) (.node (o_54 v) (.node (o_70 v) (.node (o_104 v) (.node (o_172 v) .nil .nil) .nil) (.node (o_138 v) .nil .nil)) (.node (o_88 v) (.node (o_122 v) (.node (o_188 v) .nil .nil) .nil) (.node (o_154 v) .nil .nil))) (.node (o_62 v) (.node (o_80 v) (.node (o_112 v) (.node (o_180 v) .nil .nil) .nil) (.node (o_146 v) .nil .nil)) (.node (o_96 v) (.node (o_130 v) .nil .nil) (.node (o_164 v) .nil .nil)))) (.node (o_46 v) (.node (o_58 v) (.node (o_76 v) (.node (o_108 v) (.node (o_176 v) .nil .nil) .nil) (.node (o_142 v) .nil .nil)) (.node (o_92 v) (.node (o_126 v) .nil .nil) (.node (o_158 v) .nil .nil))) (.node (o_66 v) (.node (o_84 v) (.node (o_118 v) (.node (o_184 v) .nil .nil) .nil) (.node (o_150 v) .nil .nil)) (.node (o_100 v) (.node (o_134 v) .nil .nil) (.node (o_168 v) .nil .nil)))))))
noncomputable def o_189 : PO := fun v => (.mk (.type k3) .none (.dict #[(de v z43 165 (.str z16 404)), (de v z24 166 .none), (de v z44 167 .none), (de v z45 168 (.builtin k4)), (de v z46 169 .none), (de v z47 170 (.ref 6)), (de v z48 171 (.ref 4)), (de v z49 173 (.str z4 172)), (de v z50 174 .none), (de v z9 193 (.ref 21)), (de v z51 197 (.int 12 196)), (de v z52 199 (.int 4 198)), (de v z53 201 (.int 16 200)), (de v z54 219 (.ref 31)), (de v z55 283 (.ref 72)), (de v z56 354 (.ref 114)), (de v z57 358 (.int 128 357)), (de v z58 384 (.ref 128)), (de v z59 396 (.ref 139)), (de v z34 403 (.ref 146)), (de v z31 431 (.ref 156)), (de v z60 438 (.ref 167)), (de v z25 450 (.ref 174)), (de v z33 460 (.ref 181)), (de v z61 473 (.ref 182)), (de v z62 475 (.int 4865 474)), (de v z63 477 (.bytes #[56, 118, 44, 247, 245, 89, 52, 179, 77, 23, 154, 230, 164, 200, 12, 173, 204, 187, 127, 10] 476)), (de v z64 479 (.bytes #[13, 237, 227, 222, 247, 0, 166, 219, 129, 147, 129, 190, 110, 38, 157, 203, 249, 189, 46, 217] 478))] 28) #[])
noncomputable def o_190 : PO := fun v => (.mk .none .none (.fields #[(.int 1 0), (.int 0 0), (.ref 20), (.int 8 0), (.int 0 0), (.ref 27), (.int 10 0), (.int 0 0), (.ref 40), (.int 33 0), (.int 0 0), (.ref 82), (.int 77 0), (.int 0 0), (.ref 124), (.int 81 0), (.int 0 0), (.ref 138), (.int 91 0), (.int 0 0), (.ref 145), (.int 94 0), (.int 0 0), (.ref 152), (.int 98 0), (.int 0 0), (.ref 166), (.int 102 0), (.int 0 0), (.ref 173), (.int 104 0), (.int 0 0), (.ref 180)]) #[])
noncomputable def o_191 : PO := fun v => (.mk (.type k0) .none (.seq #[] 0) #[])
noncomputable def o_192 : PO := fun v => (.mk (.type k7) .none (.fields #[(.builtin k8), (.type k9)]) #[])
noncomputable def o_193 : PO := fun v => (.mk (.type k3) .none (.dict #[(de v z15 413 (.str z16 404)), (de v z30 415 (.str z31 414)), (de v z17 417 (.int 94 416)), (de v z18 419 (.int 4865 418)), (de v z19 421 (.int 4866 420)), (de v z20 423 (.int 4867 422)), (de v z21 424 (.ref 154))] 7) #[])
noncomputable def o_194 : PO := fun v => (.mk (.type k0) .none (.seq #[] 0) #[])
noncomputable def o_195 : PO := fun v => (.mk .none .none (.fields #[]) #[])
noncomputable def o_196 : PO := fun v => (.mk (.type k1) .none (.fields #[(.str z31 408), (.str z31 409), (.str z4 410), (.int 94 0), (.int 0 0), (.int 0 0), (.int 0 0), (.int 0 0), (.ref 150), (.bool .false), (.int 181 0), (.ref 151), .none, .none, .none, .none, (.int 411 0), (.int 94 0), (.str z4 412)]) #[])
noncomputable def o_197 : PO := fun v => (.mk (.type k2) .none .plain #[(.some (.ref 152)), (.some (.ref 3)), (.some (.ref 149)), .none, (.some (.str z16 404)), .none, (.some (.ref 0))])
noncomputable def o_198 : PO := fun v => (.mk (.type k0) .none (.seq #[] 0) #[])
noncomputable def o_199 : PO := fun v => (.mk (.type k3) .none (.dict #[(de v z15 413 (.str z16 404)), (de v z17 417 (.int 94 416)), (de v z18 419 (.int 4865 418)), (de v z19 421 (.int 4866 420)), (de v z20 423 (.int 4867 422)), (de v z21 424 (.ref 154)), (de v z22 426 (.ref 157)), (de v z23 428 (.ref 158)), (de v z24 429 .none)] 4) #[])
noncomputable def o_200 : PO := fun v => (.mk (.type k9) .none (.cls (.mk z31 [(.type k12)] [(.ref 156), (.type k12)] 155 z31 .true [] [] .false .none .false)) #[.none, .none, (.some (.str z31 406)), (.some (.str z31 414)), (.some (.builtin k18)), (.some (.bool .true))])
noncomputable def o_201 : PO := fun v => (.mk (.type k14) .none (.fields #[(.str z22 425), (.ref 156), (.builtin k19), (.builtin k20)]) #[])
noncomputable def o_202 : PO := fun v => (.mk (.type k14) .none (.fields #[(.str z23 427), (.ref 156), (.builtin k15), .none]) #[])
noncomputable def o_203 : PO := fun v => (.mk (.type k16) .none (.fields #[(.ref 156), (.ref 156), (.ref 156)]) #[])
noncomputable def o_204 : PO := fun v => (.mk (.type k7) .none (.fields #[(.builtin k17), (.ref 156)]) #[])
noncomputable def o_205 : PO := fun v => (.mk (.type k0) .none (.seq #[] 0) #[])
noncomputable def o_206 : PO := fun v => (.mk .none .none (.fields #[]) #[])
noncomputable def o_207 : PO := fun v => (.mk (.type k0) .none (.seq #[(.str z137 435)] 0) #[])
noncomputable def o_208 : PO := fun v => (.mk (.type k0) .none (.seq #[] 0) #[])
noncomputable def o_209 : PO := fun v => (.mk .none .none (.func (.mk z60 z60 (fA (sg PB 15)) (.stmts (fB (sg PB 15))) (fC (sg PB 15)) 0 [] .none .none .none .none .none .none .none 0)) #[])
noncomputable def o_210 : PO := fun v => (.mk (.type k1) .none (.fields #[(.str z60 432), (.str z60 433), (.str z4 434), (.int 98 0), (.int 1 0), (.int 0 0), (.int 0 0), (.int 3 0), (.ref 161), (.bool .true), (.int 181 0), (.ref 162), .none, (.ref 163), (.ref 164), (.ref 165), (.int 436 0), (.int 98 0), (.str z4 437)]) #[])
noncomputable def o_211 : PO := fun v => (.mk (.type k5) .none (.func (.mk z60 z60 (fA (sg PB 15)) (.stmts (fB (sg PB 15))) (fC (sg PB 15)) 3 [] .none .none .none (.str z16 404) .none (.ref 166) .none 0)) #[])
noncomputable def o_212 : PO := fun v => (.mk (.type k0) .none (.seq #[] 0) #[])
noncomputable def o_213 : PO := fun v => (.mk .none .none (.fields #[]) #[])
noncomputable def o_214 : PO := fun v => (.mk (.type k0) .none (.seq #[(.str z103 442), (.str z140 443), (.str z138 444), (.str z172 445), (.str z178 446), (.str z179 447)] 0) #[])
noncomputable def o_215 : PO := fun v => (.mk (.type k0) .none (.seq #[] 0) #[])
noncomputable def o_216 : PO := fun v => (.mk .none .none (.func (.mk z25 z25 (fA (sg PB 16)) (.stmts (fB (sg PB 16))) (fC (sg PB 16)) 0 [] .none .none .none .none .none .none .none 0)) #[])
noncomputable def o_217 : PO := fun v => (.mk (.type k1) .none (.fields #[(.str z25 439), (.str z25 440), (.str z4 441), (.int 102 0), (.int 6 0), (.int 0 0), (.int 0 0), (.int 3 0), (.ref 168), (.bool .true), (.int 181 0), (.ref 169), .none, (.ref 170), (.ref 171), (.ref 172), (.int 448 0), (.int 102 0), (.str z4 449)]) #[])
noncomputable def o_218 : PO := fun v => (.mk (.type k5) .none (.func (.mk z25 z25 (fA (sg PB 16)) (.stmts (fB (sg PB 16))) (fC (sg PB 16)) 3 [] .none .none .none (.str z16 404) .none (.ref 173) .none 0)) #[])
noncomputable def o_219 : PO := fun v => (.mk (.type k0) .none (.seq #[] 0) #[])
noncomputable def o_220 : PO := fun v => (.mk .none .none (.fields #[]) #[])
noncomputable def o_221 : PO := fun v => (.mk (.type k0) .none (.seq #[(.str z103 454), (.str z140 455), (.str z132 456), (.str z133 457)] 0) #[])
noncomputable def o_222 : PO := fun v => (.mk (.type k0) .none (.seq #[] 0) #[])
noncomputable def o_223 : PO := fun v => (.mk .none .none (.func (.mk z33 z33 (fA (sg PB 17)) (.stmts (fB (sg PB 17))) (fC (sg PB 17)) 0 [] .none .none .none .none .none .none .none 0)) #[])
noncomputable def o_224 : PO := fun v => (.mk (.type k1) .none (.fields #[(.str z33 451), (.str z33 452), (.str z4 453), (.int 104 0), (.int 4 0), (.int 0 0), (.int 0 0), (.int 3 0), (.ref 175), (.bool .true), (.int 181 0), (.ref 176), .none, (.ref 177), (.ref 178), (.ref 179), (.int 458 0), (.int 104 0), (.str z4 459)]) #[])
noncomputable def o_225 : PO := fun v => (.mk (.type k5) .none (.func (.mk z33 z33 (fA (sg PB 17)) (.stmts (fB (sg PB 17))) (fC (sg PB 17)) 3 [] .none .none .none (.str z16 404) .none (.ref 180) .none 0)) #[])
noncomputable def o_226 : PO := fun v => (.mk (.type k3) .none (.dict #[(.mk 4865 (.int 4865 461) (.ref 183)), (.mk 4866 (.int 4866 464) (.ref 184)), (.mk 4867 (.int 4867 467) (.ref 185))] 3) #[])
noncomputable def o_227 : PO := fun v => (.mk (.type k0) .none (.seq #[(.bytes #[97, 101, 115, 45, 49, 50, 56, 45, 101, 99, 98] 462), (.bytes #[97, 101, 115, 45, 49, 50, 56, 45, 103, 99, 109] 463)] 0) #[])
noncomputable def o_228 : PO := fun v => (.mk (.type k0) .none (.seq #[(.bytes #[97, 101, 115, 45, 50, 53, 54, 45, 101, 99, 98] 465), (.bytes #[97, 101, 115, 45, 50, 53, 54, 45, 103, 99, 109] 466)] 0) #[])
noncomputable def o_229 : PO := fun v => (.mk (.type k0) .none (.seq #[(.bytes #[99, 104, 97, 99, 104, 97, 50, 48] 468), (.bytes #[99, 104, 97, 99, 104, 97, 50, 48, 45, 112, 111, 108, 121, 49, 51, 48, 53] 469)] 0) #[])
noncomputable def tree_229 : PT := fun v => (.node (b0 v) (.node (b1 v) (.node (o_189 v) (.node (b7 v) (.node (o_51 v) (.node (o_67 v) (.node (o_101 v) (.node (o_169 v) .nil .nil) .nil) (.node (o_135 v) (.node (o_203 v) .nil .nil) .nil)) (.node (o_85 v) (.node (o_119 v) (.node (o_185 v) .nil .nil) .nil) (.node (o_151 v) (.node (o_219 v) .nil .nil) .nil))) (.node (o_59 v) (.node (o_77 v) (.node (o_109 v) (.node (o_177 v) .nil .nil) .nil) (.node (o_143 v) (.node (o_211 v) .nil .nil) .nil)) (.node (o_93 v) (.node (o_127 v) (.node (o_195 v) .nil .nil) .nil) (.node (o_161 v) (.node (o_227 v) .nil .nil) .nil)))) (.node (o_43 v) (.node (o_55 v) (.node (o_73 v) (.node (o_105 v) (.node (o_173 v) .nil .nil) .nil) (.node (o_139 v) (.node (o_207 v) .nil .nil) .nil)) (.node (o_89 v) (.node (o_123 v) (.node (o_191 v) .nil .nil) .nil) (.node (o_155 v) (.node (o_223 v) .nil .nil) .nil))) (.node (o_63 v) (.node (o_81 v) (.node (o_113 v) (.node (o_181 v) .nil .nil) .nil) (.node (o_147 v) (.node (o_215 v) .nil .nil) .nil)) (.node (o_97 v) (.node (o_131 v) (.node (o_199 v) .nil .nil) .nil) (.node (o_165 v) .nil .nil))))) (.node (b5 v) (.node (b9 v) (.node (o_53 v) (.node (o_69 v) (.node (o_103 v) (.node (o_171 v) .nil .nil) .nil) (.node (o_137 v) (.node (o_205 v) .nil .nil) .nil)) (.node (o_87 v) (.node (o_121 v) (.node (o_187 v) .nil .nil) .nil) (.node (o_153 v) (.node (o_221 v) .nil .nil) .nil))) (.node (o_61 v) (.node (o_79 v) (.node (o_111 v) (.node (o_179 v) .nil .nil) .nil) (.node (o_145 v) (.node (o_213 v) .nil .nil) .nil)) (.node (o_95 v) (.node (o_129 v) (.node (o_197 v) .nil .nil) .nil) (.node (o_163 v) (.node (o_229 v) .nil .nil) .nil)))) (.node (o_45 v) (.node (o_57 v) (.node (o_75 v) (.node (o_107 v) (.node (o_175 v) .nil .nil) .nil) (.node (o_141 v) (.node (o_209 v) .nil .nil) .nil)) (.node (o_91 v) (.node (o_125 v) (.node (o_193 v) .nil .nil) .nil) (.node (o_157 v) (.node (o_225 v) .nil .nil) .nil))) (.node (o_65 v) (.node (o_83 v) (.node (o_117 v) (.node (o_183 v) .nil .nil) .nil) (.node (o_149 v) (.node (o_217 v) .nil .nil) .nil)) (.node (o_99 v) (.node (o_133 v) (.node (o_201 v) .nil .nil) .nil) (.node (o_167 v) .nil .nil)))))) (.node (b2 v) (.node (b4 v) (.node (b8 v) (.node (o_52 v) (.node (o_68 v) (.node (o_102 v) (.node (o_170 v) .nil .nil) .nil) (.node (o_136 v) (.node (o_204 v) .nil .nil) .nil)) (.node (o_86 v) (.node (o_120 v) (.node (o_186 v) .nil .nil) .nil) (.node (o_152 v) (.node (o_220 v) .nil .nil) .nil))) (.node (o_60 v) (.node (o_78 v) (.node (o_110 v) (.node (o_178 v) .nil .nil) .nil) (.node (o_144 v) (.node (o_212 v) .nil .nil) .nil)) (.node (o_94 v) (.node (o_128 v) (.node (o_196 v) .nil .nil) .nil) (.node (o_162 v) (.node (o_228 v) .nil .nil) .nil)))) (.node (o_190 v) (.node (o_56 v) (.node (o_74 v) (.node (o_106 v) (.node (o_174 v) .nil .nil) .nil) (.node (o_140 v) (.node (o_208 v) .nil .nil) .nil)) (.node (o_90 v) (.node (o_124 v) (.node (o_192 v) .nil .nil) .nil) (.node (o_156 v) (.node (o_224 v) .nil .nil) .nil))) (.node (o_64 v) (.node (o_82 v) (.node (o_114 v) (.node (o_182 v) .nil .nil) .nil) (.node (o_148 v) (.node (o_216 v) .nil .nil) .nil)) (.node (o_98 v) (.node (o_132 v) (.node (o_200 v) .nil .nil) .nil) (.node (o_166 v) .nil .nil))))) (.node (b6 v) (.node (b10 v) (.node (o_54 v) (.node (o_70 v) (.node (o_104 v) (.node (o_172 v) .nil .nil) .nil) (.node (o_138 v) (.node (o_206 v) .nil .nil) .nil)) (.node (o_88 v) (.node (o_122 v) (.node (o_188 v) .nil .nil) .nil) (.node (o_154 v) (.node (o_222 v) .nil .nil) .nil))) (.node (o_62 v) (.node (o_80 v) (.node (o_112 v) (.node (o_180 v) .nil .nil) .nil) (.node (o_146 v) (.node (o_214 v) .nil .nil) .nil)) (.node (o_96 v) (.node (o_130 v) (.node (o_198 v) .nil .nil) .nil) (.node (o_164 v) .nil .nil)))) (.node (o_46 v) (.node (o_58 v) (.node (o_76 v) (.node (o_108 v) (.node (o_176 v) .nil .nil) .nil) (.node (o_142 v) (.node (o_210 v) .nil .nil) .nil)) (.node (o_92 v) (.node (o_126 v) (.node (o_194 v) .nil .nil) .nil) (.node (o_158 v) (.node (o_226 v) .nil .nil) .nil))) (.node (o_66 v) (.node (o_84 v) (.node (o_118 v) (.node (o_184 v) .nil .nil) .nil) (.node (o_150 v) (.node (o_218 v) .nil .nil) .nil)) (.node (o_100 v) (.node (o_134 v) (.node (o_202 v) .nil .nil) .nil) (.node (o_168 v) .nil .nil)))))))
noncomputable def o_232 : PO := fun v => (.mk (.type k3) .none (.dict #[(de v z43 165 (.str z16 404)), (de v z24 166 .none), (de v z44 167 .none), (de v z45 168 (.builtin k4)), (de v z46 169 .none), (de v z47 170 (.ref 6)), (de v z48 171 (.ref 4)), (de v z49 173 (.str z4 172)), (de v z50 174 .none), (de v z9 193 (.ref 21)), (de v z51 197 (.int 12 196)), (de v z52 199 (.int 4 198)), (de v z53 201 (.int 16 200)), (de v z54 219 (.ref 31)), (de v z55 283 (.ref 72)), (de v z56 354 (.ref 114)), (de v z57 358 (.int 128 357)), (de v z58 384 (.ref 128)), (de v z59 396 (.ref 139)), (de v z34 403 (.ref 146)), (de v z31 431 (.ref 156)), (de v z60 438 (.ref 167)), (de v z25 450 (.ref 174)), (de v z33 460 (.ref 181)), (de v z61 473 (.ref 182)), (de v z62 475 (.int 4865 474)), (de v z63 477 (.bytes #[56, 118, 44, 247, 245, 89, 52, 179, 77, 23, 154, 230, 164, 200, 12, 173, 204, 187, 127, 10] 476)), (de v z64 479 (.bytes #[13, 237, 227, 222, 247, 0, 166, 219, 129, 147, 129, 190, 110, 38, 157, 203, 249, 189, 46, 217] 478)), (de v z65 486 (.ref 192)), (de v z66 502 (.ref 202)), (de v z67 514 (.ref 211))] 31) #[])
noncomputable def o_233 : PO := fun v => (.mk .none .none (.fields #[(.int 1 0), (.int 0 0), (.ref 20), (.int 8 0), (.int 0 0), (.ref 27), (.int 10 0), (.int 0 0), (.ref 40), (.int 33 0), (.int 0 0), (.ref 82), (.int 77 0), (.int 0 0), (.ref 124), (.int 81 0), (.int 0 0), (.ref 138), (.int 91 0), (.int 0 0), (.ref 145), (.int 94 0), (.int 0 0), (.ref 152), (.int 98 0), (.int 0 0), (.ref 166), (.int 102 0), (.int 0 0), (.ref 173), (.int 104 0), (.int 0 0), (.ref 180), (.int 110 0), (.int 0 0), (.ref 191), (.int 112 0), (.int 0 0), (.ref 198), (.int 114 0), (.int 0 0), (.ref 210)]) #[])
noncomputable def o_234 : PO := fun v => (.mk (.type k9) .none (.cls (.mk z54 [(.type k6)] [(.ref 31), (.type k6), (.type k10), (.type k11), (.type k12)] 30 z54 .true [] [(.ref 202)] .false .none .false)) #[(.some (.ref 22)), .none, (.some (.str z54 202)), (.some (.str z54 210)), (.some (.builtin k13)), (.some (.bool .true))])
noncomputable def o_235 : PO := fun v => (.mk (.type k0) .none (.seq #[] 0) #[])
noncomputable def o_236 : PO := fun v => (.mk .none .none (.fields #[]) #[])
noncomputable def o_237 : PO := fun v => (.mk (.type k0) .none (.seq #[(.str z1 483)] 0) #[])
noncomputable def o_238 : PO := fun v => (.mk (.type k0) .none (.seq #[] 0) #[])
noncomputable def o_239 : PO := fun v => (.mk .none .none (.func (.mk z65 z65 (fA (sg PB 22)) (.stmts (fB (sg PB 22))) (fC (sg PB 22)) 0 [] .none .none .none .none .none .none .none 0)) #[])
noncomputable def o_240 : PO := fun v => (.mk (.type k1) .none (.fields #[(.str z65 480), (.str z65 481), (.str z4 482), (.int 110 0), (.int 1 0), (.int 0 0), (.int 0 0), (.int 3 0), (.ref 186), (.bool .true), (.int 181 0), (.ref 187), .none, (.ref 188), (.ref 189), (.ref 190), (.int 484 0), (.int 110 0), (.str z4 485)]) #[])
noncomputable def o_241 : PO := fun v => (.mk (.type k5) .none (.func (.mk z65 z65 (fA (sg PB 22)) (.stmts (fB (sg PB 22))) (fC (sg PB 22)) 3 [] .none .none .none (.str z16 404) .none (.ref 191) .none 0)) #[])
noncomputable def o_242 : PO := fun v => (.mk (.type k0) .none (.seq #[(.ref 31)] 0) #[])
noncomputable def o_243 : PO := fun v => (.mk (.type k7) .none (.fields #[(.builtin k8), (.type k9)]) #[])
noncomputable def o_244 : PO := fun v => (.mk (.type k3) .none (.dict #[(de v z15 494 (.str z16 404)), (de v z30 496 (.str z66 495)), (de v z17 498 (.int 112 497)), (de v z21 499 (.ref 200))] 4) #[])
noncomputable def o_245 : PO := fun v => (.mk (.type k0) .none (.seq #[] 0) #[])
noncomputable def o_246 : PO := fun v => (.mk .none .none (.fields #[]) #[])
noncomputable def o_247 : PO := fun v => (.mk (.type k1) .none (.fields #[(.str z66 489), (.str z66 490), (.str z4 491), (.int 112 0), (.int 0 0), (.int 0 0), (.int 0 0), (.int 0 0), (.ref 196), (.bool .false), (.int 181 0), (.ref 197), .none, .none, .none, .none, (.int 492 0), (.int 112 0), (.str z4 493)]) #[])
noncomputable def o_248 : PO := fun v => (.mk (.type k2) .none .plain #[(.some (.ref 198)), (.some (.ref 3)), (.some (.ref 195)), .none, (.some (.str z16 404)), .none, (.some (.ref 0))])
noncomputable def o_249 : PO := fun v => (.mk (.type k0) .none (.seq #[] 0) #[])
noncomputable def o_250 : PO := fun v => (.mk (.type k3) .none (.dict #[(de v z15 494 (.str z16 404)), (de v z17 498 (.int 112 497)), (de v z21 499 (.ref 200)), (de v z24 500 .none)] 2) #[])
noncomputable def o_251 : PO := fun v => (.mk (.type k9) .none (.cls (.mk z66 [(.ref 31)] [(.ref 202), (.ref 31), (.type k6), (.type k10), (.type k11), (.type k12)] 201 z66 .true [] [] .false .none .false)) #[(.some (.ref 193)), .none, (.some (.str z66 487)), (.some (.str z66 495)), (.some (.builtin k13)), (.some (.bool .true))])
noncomputable def o_252 : PO := fun v => (.mk (.type k16) .none (.fields #[(.ref 202), (.ref 202), (.ref 202)]) #[])
noncomputable def o_253 : PO := fun v => (.mk (.type k7) .none (.fields #[(.builtin k17), (.ref 202)]) #[])
noncomputable def o_254 : PO := fun v => (.mk (.type k0) .none (.seq #[] 0) #[])
noncomputable def o_255 : PO := fun v => (.mk .none .none (.fields #[]) #[])
noncomputable def o_256 : PO := fun v => (.mk (.type k0) .none (.seq #[(.str z103 506), (.str z137 507), (.str z138 508), (.str z139 509), (.str z140 510), (.str z141 511)] 0) #[])
noncomputable def o_257 : PO := fun v => (.mk (.type k0) .none (.seq #[] 0) #[])
noncomputable def o_258 : PO := fun v => (.mk .none .none (.func (.mk z67 z67 (fA (sg PB 24)) (.stmts (fB (sg PB 24))) (fC (sg PB 24)) 0 [] .none .none .none .none .none .none .none 0)) #[])
noncomputable def o_259 : PO := fun v => (.mk (.type k1) .none (.fields #[(.str z67 503), (.str z67 504), (.str z4 505), (.int 114 0), (.int 1 0), (.int 0 0), (.int 3 0), (.int 3 0), (.ref 205), (.bool .true), (.int 181 0), (.ref 206), .none, (.ref 207), (.ref 208), (.ref 209), (.int 512 0), (.int 114 0), (.str z4 513)]) #[])
noncomputable def o_260 : PO := fun v => (.mk (.type k5) .none (.func (.mk z67 z67 (fA (sg PB 24)) (.stmts (fB (sg PB 24))) (fC (sg PB 24)) 3 [] .none .none .none (.str z16 404) .none (.ref 210) .none 0)) #[])
noncomputable def tree_260 : PT := fun v => (.node (b0 v) (.node (b1 v) (.node (o_232 v) (.node (b7 v) (.node (o_51 v) (.node (o_234 v) (.node (o_101 v) (.node (o_169 v) .nil .nil) (.node (o_240 v) .nil .nil)) (.node (o_135 v) (.node (o_203 v) .nil .nil) .nil)) (.node (o_85 v) (.node (o_119 v) (.node (o_185 v) .nil .nil) (.node (o_256 v) .nil .nil)) (.node (o_151 v) (.node (o_219 v) .nil .nil) .nil))) (.node (o_59 v) (.node (o_77 v) (.node (o_109 v) (.node (o_177 v) .nil .nil) (.node (o_248 v) .nil .nil)) (.node (o_143 v) (.node (o_211 v) .nil .nil) .nil)) (.node (o_93 v) (.node (o_127 v) (.node (o_195 v) .nil .nil) .nil) (.node (o_161 v) (.node (o_227 v) .nil .nil) .nil)))) (.node (o_43 v) (.node (o_55 v) (.node (o_73 v) (.node (o_105 v) (.node (o_173 v) .nil .nil) (.node (o_244 v) .nil .nil)) (.node (o_139 v) (.node (o_207 v) .nil .nil) .nil)) (.node (o_89 v) (.node (o_123 v) (.node (o_191 v) .nil .nil) (.node (o_260 v) .nil .nil)) (.node (o_155 v) (.node (o_223 v) .nil .nil) .nil))) (.node (o_63 v) (.node (o_81 v) (.node (o_113 v) (.node (o_181 v) .nil .nil) (.node (o_252 v) .nil .nil)) (.node (o_147 v) (.node (o_215 v) .nil .nil) .nil)) (.node (o_97 v) (.node (o_131 v) (.node (o_199 v) .nil .nil) .nil) (.node (o_165 v) (.node (o_236 v) .nil .nil) .nil))))) (.node (b5 v) (.node (b9 v) (.node (o_53 v) (.node (o_69 v) (.node (o_103 v) (.node (o_171 v) .nil .nil) (.node (o_242 v) .nil .nil)) (.node (o_137 v) (.node (o_205 v) .nil .nil) .nil)) (.node (o_87 v) (.node (o_121 v) (.node (o_187 v) .nil .nil) (.node (o_258 v) .nil .nil)) (.node (o_153 v) (.node (o_221 v) .nil .nil) .nil))) (.node (o_61 v) (.node (o_79 v) (.node (o_111 v) (.node (o_179 v) .nil .nil) (.node (o_250 v) .nil .nil)) (.node (o_145 v) (.node (o_213 v) .nil .nil) .nil)) (.node (o_95 v) (.node (o_129 v) (.node (o_197 v) .nil .nil) .nil) (.node (o_163 v) (.node (o_229 v) .nil .nil) .nil)))) (.node (o_45 v) (.node (o_57 v) (.node (o_75 v) (.node (o_107 v) (.node (o_175 v) .nil .nil) (.node (o_246 v) .nil .nil)) (.node (o_141 v) (.node (o_209 v) .nil .nil) .nil)) (.node (o_91 v) (.node (o_125 v) (.node (o_193 v) .nil .nil) .nil) (.node (o_157 v) (.node (o_225 v) .nil .nil) .nil))) (.node (o_65 v) (.node (o_83 v) (.node (o_117 v) (.node (o_183 v) .nil .nil) (.node (o_254 v) .nil .nil)) (.node (o_149 v) (.node (o_217 v) .nil .nil) .nil)) (.node (o_99 v) (.node (o_133 v) (.node (o_201 v) .nil .nil) .nil) (.node (o_167 v) (.node (o_238 v) .nil .nil) .nil)))))) (.node (b2 v) (.node (b4 v) (.node (b8 v) (.node (o_52 v) (.node (o_68 v) (.node (o_102 v) (.node (o_170 v) .nil .nil) (.node (o_241 v) .nil .nil)) (.node (o_136 v) (.node (o_204 v) .nil .nil) .nil)) (.node (o_86 v) (.node (o_120 v) (.node (o_186 v) .nil .nil) (.node (o_257 v) .nil .nil)) (.node (o_152 v) (.node (o_220 v) .nil .nil) .nil))) (.node (o_60 v) (.node (o_78 v) (.node (o_110 v) (.node (o_178 v) .nil .nil) (.node (o_249 v) .nil .nil)) (.node (o_144 v) (.node (o_212 v) .nil .nil) .nil)) (.node (o_94 v) (.node (o_128 v) (.node (o_196 v) .nil .nil) .nil) (.node (o_162 v) (.node (o_228 v) .nil .nil) .nil)))) (.node (o_233 v) (.node (o_56 v) (.node (o_74 v) (.node (o_106 v) (.node (o_174 v) .nil .nil) (.node (o_245 v) .nil .nil)) (.node (o_140 v) (.node (o_208 v) .nil .nil) .nil)) (.node (o_90 v) (.node (o_124 v) (.node (o_192 v) .nil .nil) .nil) (.node (o_156 v) (.node (o_224 v) .nil .nil) .nil))) (.node (o_64 v) (.node (o_82 v) (.node (o_114 v) (.node (o_182 v) .nil .nil) (.node (o_253 v) .nil .nil)) (.node (o_148 v) (.node (o_216 v) .nil .nil) .nil)) (.node (o_98 v) (.node (o_132 v) (.node (o_200 v) .nil .nil) .nil) (.node (o_166 v) (.node (o_237 v) .nil .nil) .nil))))) (.node (b6 v) (.node (b10 v) (.node (o_54 v) (.node (o_70 v) (.node (o_104 v) (.node (o_172 v) .nil .nil) (.node (o_243 v) .nil .nil)) (.node (o_138 v) (.node (o_206 v) .nil .nil) .nil)) (.node (o_88 v) (.node (o_122 v) (.node (o_188 v) .nil .nil) (.node (o_259 v) .nil .nil)) (.node (o_154 v) (.node (o_222 v) .nil .nil) .nil))) (.node (o_62 v) (.node (o_80 v) (.node (o_112 v) (.node (o_180 v) .nil .nil) (.node (o_251 v) .nil .nil)) (.node (o_146 v) (.node (o_214 v) .nil .nil) .nil)) (.node (o_96 v) (.node (o_130 v) (.node (o_198 v) .nil .nil) .nil) (.node (o_164 v) (.node (o_235 v) .nil .nil) .nil)))) (.node (o_46 v) (.node (o_58 v) (.node (o_76 v) (.node (o_108 v) (.node (o_176 v) .nil .nil) (.node (o_247 v) .nil .nil)) (.node (o_142 v) (.node (o_210 v) .nil .nil) .nil)) (.node (o_92 v) (.node (o_126 v) (.node (o_194 v) .nil .nil) .nil) (.node (o_158 v) (.node (o_226 v) .nil .nil) .nil))) (.node (o_66 v) (.node (o_84 v) (.node (o_118 v) (.node (o_184 v) .nil .nil) (.node (o_255 v) .nil .nil)) (.node (o_150 v) (.node (o_218 v) .nil .nil) .nil)) (.node (o_100 v) (.node (o_134 v) (.node (o_202 v) .nil .nil) .nil) (.node (o_168 v) (.node (o_239 v) .nil .nil) .nil)))))))
noncomputable def o_261 : PO := fun v => (.mk (.type k3) .none (.dict #[(de v z43 165 (.str z16 404)), (de v z24 166 .none), (de v z44 167 .none), (de v z45 168 (.builtin k4)), (de v z46 169 .none), (de v z47 170 (.ref 6)), (de v z48 171 (.ref 4)), (de v z49 173 (.str z4 172)), (de v z50 174 .none), (de v z9 193 (.ref 21)), (de v z51 197 (.int 12 196)), (de v z52 199 (.int 4 198)), (de v z53 201 (.int 16 200)), (de v z54 219 (.ref 31)), (de v z55 283 (.ref 72)), (de v z56 354 (.ref 114)), (de v z57 358 (.int 128 357)), (de v z58 384 (.ref 128)), (de v z59 396 (.ref 139)), (de v z34 403 (.ref 146)), (de v z31 431 (.ref 156)), (de v z60 438 (.ref 167)), (de v z25 450 (.ref 174)), (de v z33 460 (.ref 181)), (de v z61 473 (.ref 182)), (de v z62 475 (.int 4865 474)), (de v z63 477 (.bytes #[56, 118, 44, 247, 245, 89, 52, 179, 77, 23, 154, 230, 164, 200, 12, 173, 204, 187, 127, 10] 476)), (de v z64 479 (.bytes #[13, 237, 227, 222, 247, 0, 166, 219, 129, 147, 129, 190, 110, 38, 157, 203, 249, 189, 46, 217] 478)), (de v z65 486 (.ref 192)), (de v z66 502 (.ref 202)), (de v z67 514 (.ref 211)), (de v z68 612 (.ref 264))] 32) #[])
noncomputable def o_262 : PO := fun v => (.mk .none .none (.fields #[(.int 1 0), (.int 0 0), (.ref 20), (.int 8 0), (.int 0 0), (.ref 27), (.int 10 0), (.int 0 0), (.ref 40), (.int 33 0), (.int 0 0), (.ref 82), (.int 77 0), (.int 0 0), (.ref 124), (.int 81 0), (.int 0 0), (.ref 138), (.int 91 0), (.int 0 0), (.ref 145), (.int 94 0), (.int 0 0), (.ref 152), (.int 98 0), (.int 0 0), (.ref 166), (.int 102 0), (.int 0 0), (.ref 173), (.int 104 0), (.int 0 0), (.ref 180), (.int 110 0), (.int 0 0), (.ref 191), (.int 112 0), (.int 0 0), (.ref 198), (.int 114 0), (.int 0 0), (.ref 210), (.int 124 0), (.int 0 0), (.ref 217)]) #[])
noncomputable def o_263 : PO := fun v => (.mk (.type k0) .none (.seq #[] 0) #[])
noncomputable def o_264 : PO := fun v => (.mk (.type k7) .none (.fields #[(.builtin k8), (.type k9)]) #[])
noncomputable def o_265 : PO := fun v => (.mk (.type k3) .none (.dict #[(de v z15 522 (.str z16 404)), (de v z30 524 (.str z68 523)), (de v z17 526 (.int 124 525)), (de v z2 538 (.ref 226)), (de v z75 555 (.ref 233)), (de v z7 566 (.ref 240)), (de v z35 573 (.ref 247)), (de v z85 588 (.ref 254)), (de v z81 595 (.ref 261)), (de v z21 605 (.ref 262))] 10) #[])
noncomputable def o_266 : PO := fun v => (.mk (.type k0) .none (.seq #[] 0) #[])
noncomputable def o_267 : PO := fun v => (.mk .none .none (.fields #[(.int 126 0), (.int 4 0), (.ref 225), (.int 137 0), (.int 4 0), (.ref 232), (.int 152 0), (.int 4 0), (.ref 239), (.int 157 0), (.int 4 0), (.ref 246), (.int 160 0), (.int 4 0), (.ref 253), (.int 170 0), (.int 4 0), (.ref 260)]) #[])
noncomputable def o_268 : PO := fun v => (.mk (.type k1) .none (.fields #[(.str z68 517), (.str z68 518), (.str z4 519), (.int 124 0), (.int 0 0), (.int 0 0), (.int 0 0), (.int 0 0), (.ref 215), (.bool .false), (.int 181 0), (.ref 216), .none, .none, .none, .none, (.int 520 0), (.int 124 0), (.str z4 521)]) #[])
noncomputable def o_269 : PO := fun v => (.mk (.type k2) .none .plain #[(.some (.ref 217)), (.some (.ref 3)), (.some (.ref 214)), .none, (.some (.str z16 404)), .none, (.some (.ref 0))])
noncomputable def o_270 : PO := fun v => (.mk (.type k0) .none (.seq #[(.int 0 527), (.ref 192), (.ref 192)] 0) #[])
noncomputable def o_271 : PO := fun v => (.mk (.type k0) .none (.seq #[] 0) #[])
noncomputable def o_272 : PO := fun v => (.mk .none .none (.fields #[]) #[])
noncomputable def o_273 : PO := fun v => (.mk (.type k0) .none (.seq #[(.str z10 531), (.str z103 532), (.str z96 533), (.str z166 534), (.str z167 535)] 0) #[])
noncomputable def o_274 : PO := fun v => (.mk (.type k0) .none (.seq #[] 0) #[])
noncomputable def o_275 : PO := fun v => (.mk .none .none (.func (.mk z2 z86 (fA (sg (fB (sg PB 25)) 0)) (.stmts (fB (sg (fB (sg PB 25)) 0))) (fC (sg (fB (sg PB 25)) 0)) 0 [] .none .none .none .none .none .none .none 0)) #[])
noncomputable def o_276 : PO := fun v => (.mk (.type k1) .none (.fields #[(.str z2 528), (.str z86 529), (.str z4 530), (.int 126 0), (.int 5 0), (.int 0 0), (.int 0 0), (.int 3 0), (.ref 220), (.bool .true), (.int 181 0), (.ref 221), .none, (.ref 222), (.ref 223), (.ref 224), (.int 536 0), (.int 126 0), (.str z4 537)]) #[])
noncomputable def o_277 : PO := fun v => (.mk (.type k5) .none (.func (.mk z2 z86 (fA (sg (fB (sg PB 25)) 0)) (.stmts (fB (sg (fB (sg PB 25)) 0))) (fC (sg (fB (sg PB 25)) 0)) 3 [] (.ref 219) .none .none (.str z16 404) .none (.ref 225) .none 0)) #[])
noncomputable def o_278 : PO := fun v => (.mk (.type k0) .none (.seq #[] 0) #[])
noncomputable def o_279 : PO := fun v => (.mk .none .none (.fields #[]) #[])
noncomputable def o_280 : PO := fun v => (.mk (.type k0) .none (.seq #[(.str z10 542), (.str z151 543), (.str z152 544), (.str z153 545), (.str z154 546), (.str z145 547), (.str z168 548), (.str z162 549), (.str z136 550), (.str z96 551), (.str z155 552)] 0) #[])
noncomputable def o_281 : PO := fun v => (.mk (.type k0) .none (.seq #[] 0) #[])
noncomputable def o_282 : PO := fun v => (.mk .none .none (.func (.mk z75 z142 (fA (sg (fB (sg PB 25)) 1)) (.stmts (fB (sg (fB (sg PB 25)) 1))) (fC (sg (fB (sg PB 25)) 1)) 0 [] .none .none .none .none .none .none .none 0)) #[])
noncomputable def o_283 : PO := fun v => (.mk (.type k1) .none (.fields #[(.str z75 539), (.str z142 540), (.str z4 541), (.int 137 0), (.int 4 0), (.int 0 0), (.int 0 0), (.int 3 0), (.ref 227), (.bool .true), (.int 181 0), (.ref 228), .none, (.ref 229), (.ref 230), (.ref 231), (.int 553 0), (.int 137 0), (.str z4 554)]) #[])
noncomputable def o_284 : PO := fun v => (.mk (.type k5) .none (.func (.mk z75 z142 (fA (sg (fB (sg PB 25)) 1)) (.stmts (fB (sg (fB (sg PB 25)) 1))) (fC (sg (fB (sg PB 25)) 1)) 3 [] .none .none .none (.str z16 404) .none (.ref 232) .none 0)) #[])
noncomputable def o_285 : PO := fun v => (.mk (.type k0) .none (.seq #[] 0) #[])
noncomputable def o_286 : PO := fun v => (.mk .none .none (.fields #[]) #[])
noncomputable def o_287 : PO := fun v => (.mk (.type k0) .none (.seq #[(.str z10 559), (.str z154 560), (.str z170 561), (.str z145 562), (.str z171 563)] 0) #[])
noncomputable def o_288 : PO := fun v => (.mk (.type k0) .none (.seq #[] 0) #[])
noncomputable def o_289 : PO := fun v => (.mk .none .none (.func (.mk z7 z116 (fA (sg (fB (sg PB 25)) 2)) (.stmts (fB (sg (fB (sg PB 25)) 2))) (fC (sg (fB (sg PB 25)) 2)) 0 [] .none .none .none .none .none .none .none 0)) #[])
noncomputable def o_290 : PO := fun v => (.mk (.type k1) .none (.fields #[(.str z7 556), (.str z116 557), (.str z4 558), (.int 152 0), (.int 4 0), (.int 0 0), (.int 0 0), (.int 3 0), (.ref 234), (.bool .true), (.int 181 0), (.ref 235), .none, (.ref 236), (.ref 237), (.ref 238), (.int 564 0), (.int 152 0), (.str z4 565)]) #[])
noncomputable def o_291 : PO := fun v => (.mk (.type k5) .none (.func (.mk z7 z116 (fA (sg (fB (sg PB 25)) 2)) (.stmts (fB (sg (fB (sg PB 25)) 2))) (fC (sg (fB (sg PB 25)) 2)) 3 [] .none .none .none (.str z16 404) .none (.ref 239) .none 0)) #[])
noncomputable def o_292 : PO := fun v => (.mk (.type k0) .none (.seq #[] 0) #[])
noncomputable def o_293 : PO := fun v => (.mk .none .none (.fields #[]) #[])
noncomputable def o_294 : PO := fun v => (.mk (.type k0) .none (.seq #[(.str z10 570)] 0) #[])
noncomputable def o_295 : PO := fun v => (.mk (.type k0) .none (.seq #[] 0) #[])
noncomputable def o_296 : PO := fun v => (.mk .none .none (.func (.mk z35 z36 (fA (sg (fB (sg PB 25)) 3)) (.stmts (fB (sg (fB (sg PB 25)) 3))) (fC (sg (fB (sg PB 28)) 5)) 0 [] .none .none .none .none .none .none .none 0)) #[])
noncomputable def o_297 : PO := fun v => (.mk (.type k1) .none (.fields #[(.str z35 567), (.str z36 568), (.str z4 569), (.int 157 0), (.int 1 0), (.int 0 0), (.int 0 0), (.int 3 0), (.ref 241), (.bool .true), (.int 181 0), (.ref 242), .none, (.ref 243), (.ref 244), (.ref 245), (.int 571 0), (.int 157 0), (.str z4 572)]) #[])
noncomputable def o_298 : PO := fun v => (.mk (.type k5) .none (.func (.mk z35 z36 (fA (sg (fB (sg PB 25)) 3)) (.stmts (fB (sg (fB (sg PB 25)) 3))) (fC (sg (fB (sg PB 28)) 5)) 3 [] .none .none .none (.str z16 404) .none (.ref 246) .none 0)) #[])
noncomputable def o_299 : PO := fun v => (.mk (.type k0) .none (.seq #[] 0) #[])
noncomputable def o_300 : PO := fun v => (.mk .none .none (.fields #[]) #[])
noncomputable def o_301 : PO := fun v => (.mk (.type k0) .none (.seq #[(.str z10 577), (.str z137 578), (.str z138 579), (.str z139 580), (.str z195 581), (.str z196 582), (.str z39 583), (.str z188 584), (.str z177 585)] 0) #[])
noncomputable def o_302 : PO := fun v => (.mk (.type k0) .none (.seq #[] 0) #[])
noncomputable def o_303 : PO := fun v => (.mk .none .none (.func (.mk z85 z169 (fA (sg (fB (sg PB 25)) 4)) (.stmts (fB (sg (fB (sg PB 25)) 4))) (fC (sg (fB (sg PB 25)) 4)) 0 [] .none .none .none .none .none .none .none 0)) #[])
noncomputable def o_304 : PO := fun v => (.mk (.type k1) .none (.fields #[(.str z85 574), (.str z169 575), (.str z4 576), (.int 160 0), (.int 1 0), (.int 0 0), (.int 3 0), (.int 3 0), (.ref 248), (.bool .true), (.int 181 0), (.ref 249), .none, (.ref 250), (.ref 251), (.ref 252), (.int 586 0), (.int 160 0), (.str z4 587)]) #[])
noncomputable def o_305 : PO := fun v => (.mk (.type k5) .none (.func (.mk z85 z169 (fA (sg (fB (sg PB 25)) 4)) (.stmts (fB (sg (fB (sg PB 25)) 4))) (fC (sg (fB (sg PB 25)) 4)) 3 [] .none .none .none (.str z16 404) .none (.ref 253) .none 0)) #[])
noncomputable def o_306 : PO := fun v => (.mk (.type k0) .none (.seq #[] 0) #[])
noncomputable def o_307 : PO := fun v => (.mk .none .none (.fields #[]) #[])
noncomputable def o_308 : PO := fun v => (.mk (.type k0) .none (.seq #[(.str z10 592)] 0) #[])
noncomputable def o_309 : PO := fun v => (.mk (.type k0) .none (.seq #[] 0) #[])
noncomputable def o_310 : PO := fun v => (.mk .none .none (.func (.mk z81 z82 (fA (sg (fB (sg PB 25)) 5)) (.stmts (fB (sg (fB (sg PB 25)) 5))) (fC (sg (fB (sg PB 28)) 4)) 0 [] .none .none .none .none .none .none .none 0)) #[])
noncomputable def o_311 : PO := fun v => (.mk (.type k1) .none (.fields #[(.str z81 589), (.str z82 590), (.str z4 591), (.int 170 0), (.int 1 0), (.int 0 0), (.int 0 0), (.int 3 0), (.ref 255), (.bool .true), (.int 181 0), (.ref 256), .none, (.ref 257), (.ref 258), (.ref 259), (.int 593 0), (.int 170 0), (.str z4 594)]) #[])
noncomputable def o_312 : PO := fun v => (.mk (.type k5) .none (.func (.mk z81 z82 (fA (sg (fB (sg PB 25)) 5)) (.stmts (fB (sg (fB (sg PB 25)) 5))) (fC (sg (fB (sg PB 28)) 4)) 3 [] .none .none .none (.str z16 404) .none (.ref 260) .none 0)) #[])
noncomputable def o_313 : PO := fun v => (.mk (.type k0) .none (.seq #[(.str z174 596), (.str z175 597), (.str z176 598), (.str z137 599), (.str z177 600), (.str z96 601), (.str z103 602), (.str z138 603), (.str z139 604)] 0) #[])
noncomputable def o_314 : PO := fun v => (.mk (.type k3) .none (.dict #[(de v z15 522 (.str z16 404)), (de v z17 526 (.int 124 525)), (de v z2 538 (.ref 226)), (de v z75 555 (.ref 233)), (de v z7 566 (.ref 240)), (de v z35 573 (.ref 247)), (de v z85 588 (.ref 254)), (de v z81 595 (.ref 261)), (de v z21 605 (.ref 262)), (de v z22 607 (.ref 265)), (de v z23 609 (.ref 266)), (de v z24 610 .none)] 4) #[])
noncomputable def o_315 : PO := fun v => (.mk (.type k9) .none (.cls (.mk z68 [(.type k12)] [(.ref 264), (.type k12)] 263 z68 .true [] [] .false .none .false)) #[.none, .none, (.some (.str z68 515)), (.some (.str z68 523)), (.some (.builtin k18)), (.some (.bool .true))])
noncomputable def o_316 : PO := fun v => (.mk (.type k14) .none (.fields #[(.str z22 606), (.ref 264), (.builtin k19), (.builtin k20)]) #[])
noncomputable def o_317 : PO := fun v => (.mk (.type k14) .none (.fields #[(.str z23 608), (.ref 264), (.builtin k15), .none]) #[])
noncomputable def o_318 : PO := fun v => (.mk (.type k16) .none (.fields #[(.ref 264), (.ref 264), (.ref 264)]) #[])
noncomputable def o_319 : PO := fun v => (.mk (.type k7) .none (.fields #[(.builtin k17), (.ref 264)]) #[])
noncomputable def tree_319 : PT := fun v => (.node (b0 v) (.node (b1 v) (.node (o_261 v) (.node (b7 v) (.node (o_51 v) (.node (o_234 v) (.node (o_101 v) (.node (o_169 v) (.node (o_306 v) .nil .nil) .nil) (.node (o_240 v) .nil .nil)) (.node (o_135 v) (.node (o_203 v) .nil .nil) (.node (o_274 v) .nil .nil))) (.node (o_85 v) (.node (o_119 v) (.node (o_185 v) .nil .nil) (.node (o_256 v) .nil .nil)) (.node (o_151 v) (.node (o_219 v) .nil .nil) (.node (o_290 v) .nil .nil)))) (.node (o_59 v) (.node (o_77 v) (.node (o_109 v) (.node (o_177 v) (.node (o_314 v) .nil .nil) .nil) (.node (o_248 v) .nil .nil)) (.node (o_143 v) (.node (o_211 v) .nil .nil) (.node (o_282 v) .nil .nil))) (.node (o_93 v) (.node (o_127 v) (.node (o_195 v) .nil .nil) (.node (o_266 v) .nil .nil)) (.node (o_161 v) (.node (o_227 v) .nil .nil) (.node (o_298 v) .nil .nil))))) (.node (o_43 v) (.node (o_55 v) (.node (o_73 v) (.node (o_105 v) (.node (o_173 v) (.node (o_310 v) .nil .nil) .nil) (.node (o_244 v) .nil .nil)) (.node (o_139 v) (.node (o_207 v) .nil .nil) (.node (o_278 v) .nil .nil))) (.node (o_89 v) (.node (o_123 v) (.node (o_191 v) .nil .nil) (.node (o_260 v) .nil .nil)) (.node (o_155 v) (.node (o_223 v) .nil .nil) (.node (o_294 v) .nil .nil)))) (.node (o_63 v) (.node (o_81 v) (.node (o_113 v) (.node (o_181 v) (.node (o_318 v) .nil .nil) .nil) (.node (o_252 v) .nil .nil)) (.node (o_147 v) (.node (o_215 v) .nil .nil) (.node (o_286 v) .nil .nil))) (.node (o_97 v) (.node (o_131 v) (.node (o_199 v) .nil .nil) (.node (o_270 v) .nil .nil)) (.node (o_165 v) (.node (o_236 v) .nil .nil) (.node (o_302 v) .nil .nil)))))) (.node (b5 v) (.node (b9 v) (.node (o_53 v) (.node (o_69 v) (.node (o_103 v) (.node (o_171 v) (.node (o_308 v) .nil .nil) .nil) (.node (o_242 v) .nil .nil)) (.node (o_137 v) (.node (o_205 v) .nil .nil) (.node (o_276 v) .nil .nil))) (.node (o_87 v) (.node (o_121 v) (.node (o_187 v) .nil .nil) (.node (o_258 v) .nil .nil)) (.node (o_153 v) (.node (o_221 v) .nil .nil) (.node (o_292 v) .nil .nil)))) (.node (o_61 v) (.node (o_79 v) (.node (o_111 v) (.node (o_179 v) (.node (o_316 v) .nil .nil) .nil) (.node (o_250 v) .nil .nil)) (.node (o_145 v) (.node (o_213 v) .nil .nil) (.node (o_284 v) .nil .nil))) (.node (o_95 v) (.node (o_129 v) (.node (o_197 v) .nil .nil) (.node (o_268 v) .nil .nil)) (.node (o_163 v) (.node (o_229 v) .nil .nil) (.node (o_300 v) .nil .nil))))) (.node (o_45 v) (.node (o_57 v) (.node (o_75 v) (.node (o_107 v) (.node (o_175 v) (.node (o_312 v) .nil .nil) .nil) (.node (o_246 v) .nil .nil)) (.node (o_141 v) (.node (o_209 v) .nil .nil) (.node (o_280 v) .nil .nil))) (.node (o_91 v) (.node (o_125 v) (.node (o_193 v) .nil .nil) (.node (o_264 v) .nil .nil)) (.node (o_157 v) (.node (o_225 v) .nil .nil) (.node (o_296 v) .nil .nil)))) (.node (o_65 v) (.node (o_83 v) (.node (o_117 v) (.node (o_183 v) .nil .nil) (.node (o_254 v) .nil .nil)) (.node (o_149 v) (.node (o_217 v) .nil .nil) (.node (o_288 v) .nil .nil))) (.node (o_99 v) (.node (o_133 v) (.node (o_201 v) .nil .nil) (.node (o_272 v) .nil .nil)) (.node (o_167 v) (.node (o_238 v) .nil .nil) (.node (o_304 v) .nil .nil))))))) (.node (b2 v) (.node (b4 v) (.node (b8 v) (.node (o_52 v) (.node (o_68 v) (.node (o_102 v) (.node (o_170 v) (.node (o_307 v) .nil .nil) .nil) (.node (o_241 v) .nil .nil)) (.node (o_136 v) (.node (o_204 v) .nil .nil) (.node (o_275 v) .nil .nil))) (.node (o_86 v) (.node (o_120 v) (.node (o_186 v) .nil .nil) (.node (o_257 v) .nil .nil)) (.node (o_152 v) (.node (o_220 v) .nil .nil) (.node (o_291 v) .nil .nil)))) (.node (o_60 v) (.node (o_78 v) (.node (o_110 v) (.node (o_178 v) (.node (o_315 v) .nil .nil) .nil) (.node (o_249 v) .nil .nil)) (.node (o_144 v) (.node (o_212 v) .nil .nil) (.node (o_283 v) .nil .nil))) (.node (o_94 v) (.node (o_128 v) (.node (o_196 v) .nil .nil) (.node (o_267 v) .nil .nil)) (.node (o_162 v) (.node (o_228 v) .nil .nil) (.node (o_299 v) .nil .nil))))) (.node (o_262 v) (.node (o_56 v) (.node (o_74 v) (.node (o_106 v) (.node (o_174 v) (.node (o_311 v) .nil .nil) .nil) (.node (o_245 v) .nil .nil)) (.node (o_140 v) (.node (o_208 v) .nil .nil) (.node (o_279 v) .nil .nil))) (.node (o_90 v) (.node (o_124 v) (.node (o_192 v) .nil .nil) (.node (o_263 v) .nil .nil)) (.node (o_156 v) (.node (o_224 v) .nil .nil) (.node (o_295 v) .nil .nil)))) (.node (o_64 v) (.node (o_82 v) (.node (o_114 v) (.node (o_182 v) (.node (o_319 v) .nil .nil) .nil) (.node (o_253 v) .nil .nil)) (.node (o_148 v) (.node (o_216 v) .nil .nil) (.node (o_287 v) .nil .nil))) (.node (o_98 v) (.node (o_132 v) (.node (o_200 v) .nil .nil) (.node (o_271 v) .nil .nil)) (.node (o_166 v) (.node (o_237 v) .nil .nil) (.node (o_303 v) .nil .nil)))))) (.node (b6 v) (.node (b10 v) (.node (o_54 v) (.node (o_70 v) (.node (o_104 v) (.node (o_172 v) (.node (o_309 v) .nil .nil) .nil) (.node (o_243 v) .nil .nil)) (.node (o_138 v) (.node (o_206 v) .nil .nil) (.node (o_277 v) .nil .nil))) (.node (o_88 v) (.node (o_122 v) (.node (o_188 v) .nil .nil) (.node (o_259 v) .nil .nil)) (.node (o_154 v) (.node (o_222 v) .nil .nil) (.node (o_293 v) .nil .nil)))) (.node (o_62 v) (.node (o_80 v) (.node (o_112 v) (.node (o_180 v) (.node (o_317 v) .nil .nil) .nil) (.node (o_251 v) .nil .nil)) (.node (o_146 v) (.node (o_214 v) .nil .nil) (.node (o_285 v) .nil .nil))) (.node (o_96 v) (.node (o_130 v) (.node (o_198 v) .nil .nil) (.node (o_269 v) .nil .nil)) (.node (o_164 v) (.node (o_235 v) .nil .nil) (.node (o_301 v) .nil .nil))))) (.node (o_46 v) (.node (o_58 v) (.node (o_76 v) (.node (o_108 v) (.node (o_176 v) (.node (o_313 v) .nil .nil) .nil) (.node (o_247 v) .nil .nil)) (.node (o_142 v) (.node (o_210 v) .nil .nil) (.node (o_281 v) .nil .nil))) (.node (o_92 v) (.node (o_126 v) (.node (o_194 v) .nil .nil) (.node (o_265 v) .nil .nil)) (.node (o_158 v) (.node (o_226 v) .nil .nil) (.node (o_297 v) .nil .nil)))) (.node (o_66 v) (.node (o_84 v) (.node (o_118 v) (.node (o_184 v) .nil .nil) (.node (o_255 v) .nil .nil)) (.node (o_150 v) (.node (o_218 v) .nil .nil) (.node (o_289 v) .nil .nil))) (.node (o_100 v) (.node (o_134 v) (.node (o_202 v) .nil .nil) (.node (o_273 v) .nil .nil)) (.node (o_168 v) (.node (o_239 v) .nil .nil) (.node (o_305 v) .nil .nil))))))))
noncomputable def o_320 : PO := fun v => (.mk (.type k3) .none (.dict #[(de v z43 165 (.str z16 404)), (de v z24 166 .none), (de v z44 167 .none), (de v z45 168 (.builtin k4)), (de v z46 169 .none), (de v z47 170 (.ref 6)), (de v z48 171 (.ref 4)), (de v z49 173 (.str z4 172)), (de v z50 174 .none), (de v z9 193 (.ref 21)), (de v z51 197 (.int 12 196)), (de v z52 199 (.int 4 198)), (de v z53 201 (.int 16 200)), (de v z54 219 (.ref 31)), (de v z55 283 (.ref 72)), (de v z56 354 (.ref 114)), (de v z57 358 (.int 128 357)), (de v z58 384 (.ref 128)), (de v z59 396 (.ref 139)), (de v z34 403 (.ref 146)), (de v z31 431 (.ref 156)), (de v z60 438 (.ref 167)), (de v z25 450 (.ref 174)), (de v z33 460 (.ref 181)), (de v z61 473 (.ref 182)), (de v z62 475 (.int 4865 474)), (de v z63 477 (.bytes #[56, 118, 44, 247, 245, 89, 52, 179, 77, 23, 154, 230, 164, 200, 12, 173, 204, 187, 127, 10] 476)), (de v z64 479 (.bytes #[13, 237, 227, 222, 247, 0, 166, 219, 129, 147, 129, 190, 110, 38, 157, 203, 249, 189, 46, 217] 478)), (de v z65 486 (.ref 192)), (de v z66 502 (.ref 202)), (de v z67 514 (.ref 211)), (de v z68 612 (.ref 264)), (de v z90 621 (.ref 275)), (de v z91 631 (.ref 282))] 34) #[])
noncomputable def o_321 : PO := fun v => (.mk .none .none (.fields #[(.int 1 0), (.int 0 0), (.ref 20), (.int 8 0), (.int 0 0), (.ref 27), (.int 10 0), (.int 0 0), (.ref 40), (.int 33 0), (.int 0 0), (.ref 82), (.int 77 0), (.int 0 0), (.ref 124), (.int 81 0), (.int 0 0), (.ref 138), (.int 91 0), (.int 0 0), (.ref 145), (.int 94 0), (.int 0 0), (.ref 152), (.int 98 0), (.int 0 0), (.ref 166), (.int 102 0), (.int 0 0), (.ref 173), (.int 104 0), (.int 0 0), (.ref 180), (.int 110 0), (.int 0 0), (.ref 191), (.int 112 0), (.int 0 0), (.ref 198), (.int 114 0), (.int 0 0), (.ref 210), (.int 124 0), (.int 0 0), (.ref 217), (.int 172 0), (.int 0 0), (.ref 274), (.int 177 0), (.int 0 0), (.ref 281)]) #[])
noncomputable def o_322 : PO := fun v => (.mk (.type k0) .none (.seq #[] 0) #[])
noncomputable def o_323 : PO := fun v => (.mk .none .none (.fields #[]) #[])
noncomputable def o_324 : PO := fun v => (.mk (.type k0) .none (.seq #[(.str z10 616), (.str z136 617), (.str z1 618)] 0) #[])
noncomputable def o_325 : PO := fun v => (.mk (.type k0) .none (.seq #[] 0) #[])
noncomputable def o_326 : PO := fun v => (.mk .none .none (.func (.mk z90 z90 (fA (sg PB 26)) (.stmts (fB (sg PB 26))) (fC (sg PB 26)) 0 [] .none .none .none .none .none .none .none 0)) #[])
noncomputable def o_327 : PO := fun v => (.mk (.type k1) .none (.fields #[(.str z90 613), (.str z90 614), (.str z4 615), (.int 172 0), (.int 3 0), (.int 0 0), (.int 0 0), (.int 3 0), (.ref 269), (.bool .true), (.int 181 0), (.ref 270), .none, (.ref 271), (.ref 272), (.ref 273), (.int 619 0), (.int 172 0), (.str z4 620)]) #[])
noncomputable def o_328 : PO := fun v => (.mk (.type k5) .none (.func (.mk z90 z90 (fA (sg PB 26)) (.stmts (fB (sg PB 26))) (fC (sg PB 26)) 3 [] .none .none .none (.str z16 404) .none (.ref 274) .none 0)) #[])
noncomputable def o_329 : PO := fun v => (.mk (.type k0) .none (.seq #[] 0) #[])
noncomputable def o_330 : PO := fun v => (.mk .none .none (.fields #[]) #[])
noncomputable def o_331 : PO := fun v => (.mk (.type k0) .none (.seq #[(.str z10 625), (.str z140 626), (.str z172 627), (.str z136 628)] 0) #[])
noncomputable def o_332 : PO := fun v => (.mk (.type k0) .none (.seq #[] 0) #[])
noncomputable def o_333 : PO := fun v => (.mk .none .none (.func (.mk z91 z91 (fA (sg PB 27)) (.stmts (fB (sg PB 27))) (fC (sg PB 27)) 0 [] .none .none .none .none .none .none .none 0)) #[])
noncomputable def o_334 : PO := fun v => (.mk (.type k1) .none (.fields #[(.str z91 622), (.str z91 623), (.str z4 624), (.int 177 0), (.int 1 0), (.int 0 0), (.int 0 0), (.int 3 0), (.ref 276), (.bool .true), (.int 181 0), (.ref 277), .none, (.ref 278), (.ref 279), (.ref 280), (.int 629 0), (.int 177 0), (.str z4 630)]) #[])
noncomputable def o_335 : PO := fun v => (.mk (.type k5) .none (.func (.mk z91 z91 (fA (sg PB 27)) (.stmts (fB (sg PB 27))) (fC (sg PB 27)) 3 [] .none .none .none (.str z16 404) .none (.ref 281) .none 0)) #[])
noncomputable def tree_335 : PT := fun v => (.node (b0 v) (.node (b1 v) (.node (o_320 v) (.node (b7 v) (.node (o_51 v) (.node (o_234 v) (.node (o_101 v) (.node (o_169 v) (.node (o_306 v) .nil .nil) .nil) (.node (o_240 v) .nil .nil)) (.node (o_135 v) (.node (o_203 v) .nil .nil) (.node (o_274 v) .nil .nil))) (.node (o_85 v) (.node (o_119 v) (.node (o_185 v) (.node (o_324 v) .nil .nil) .nil) (.node (o_256 v) .nil .nil)) (.node (o_151 v) (.node (o_219 v) .nil .nil) (.node (o_290 v) .nil .nil)))) (.node (o_59 v) (.node (o_77 v) (.node (o_109 v) (.node (o_177 v) (.node (o_314 v) .nil .nil) .nil) (.node (o_248 v) .nil .nil)) (.node (o_143 v) (.node (o_211 v) .nil .nil) (.node (o_282 v) .nil .nil))) (.node (o_93 v) (.node (o_127 v) (.node (o_195 v) (.node (o_332 v) .nil .nil) .nil) (.node (o_266 v) .nil .nil)) (.node (o_161 v) (.node (o_227 v) .nil .nil) (.node (o_298 v) .nil .nil))))) (.node (o_43 v) (.node (o_55 v) (.node (o_73 v) (.node (o_105 v) (.node (o_173 v) (.node (o_310 v) .nil .nil) .nil) (.node (o_244 v) .nil .nil)) (.node (o_139 v) (.node (o_207 v) .nil .nil) (.node (o_278 v) .nil .nil))) (.node (o_89 v) (.node (o_123 v) (.node (o_191 v) (.node (o_328 v) .nil .nil) .nil) (.node (o_260 v) .nil .nil)) (.node (o_155 v) (.node (o_223 v) .nil .nil) (.node (o_294 v) .nil .nil)))) (.node (o_63 v) (.node (o_81 v) (.node (o_113 v) (.node (o_181 v) (.node (o_318 v) .nil .nil) .nil) (.node (o_252 v) .nil .nil)) (.node (o_147 v) (.node (o_215 v) .nil .nil) (.node (o_286 v) .nil .nil))) (.node (o_97 v) (.node (o_131 v) (.node (o_199 v) .nil .nil) (.node (o_270 v) .nil .nil)) (.node (o_165 v) (.node (o_236 v) .nil .nil) (.node (o_302 v) .nil .nil)))))) (.node (b5 v) (.node (b9 v) (.node (o_53 v) (.node (o_69 v) (.node (o_103 v) (.node (o_171 v) (.node (o_308 v) .nil .nil) .nil) (.node (o_242 v) .nil .nil)) (.node (o_137 v) (.node (o_205 v) .nil .nil) (.node (o_276 v) .nil .nil))) (.node (o_87 v) (.node (o_121 v) (.node (o_187 v) (.node (o_326 v) .nil .nil) .nil) (.node (o_258 v) .nil .nil)) (.node (o_153 v) (.node (o_221 v) .nil .nil) (.node (o_292 v) .nil .nil)))) (.node (o_61 v) (.node (o_79 v) (.node (o_111 v) (.node (o_179 v) (.node (o_316 v) .nil .nil) .nil) (.node (o_250 v) .nil .nil)) (.node (o_145 v) (.node (o_213 v) .nil .nil) (.node (o_284 v) .nil .nil))) (.node (o_95 v) (.node (o_129 v) (.node (o_197 v) (.node (o_334 v) .nil .nil) .nil) (.node (o_268 v) .nil .nil)) (.node (o_163 v) (.node (o_229 v) .nil .nil) (.node (o_300 v) .nil .nil))))) (.node (o_45 v) (.node (o_57 v) (.node (o_75 v) (.node (o_107 v) (.node (o_175 v) (.node (o_312 v) .nil .nil) .nil) (.node (o_246 v) .nil .nil)) (.node (o_141 v) (.node (o_209 v) .nil .nil) (.node (o_280 v) .nil .nil))) (.node (o_91 v) (.node (o_125 v) (.node (o_193 v) (.node (o_330 v) .nil .nil) .nil) (.node (o_264 v) .nil .nil)) (.node (o_157 v) (.node (o_225 v) .nil .nil) (.node (o_296 v) .nil .nil)))) (.node (o_65 v) (.node (o_83 v) (.node (o_117 v) (.node (o_183 v) (.node (o_322 v) .nil .nil) .nil) (.node (o_254 v) .nil .nil)) (.node (o_149 v) (.node (o_217 v) .nil .nil) (.node (o_288 v) .nil .nil))) (.node (o_99 v) (.node (o_133 v) (.node (o_201 v) .nil .nil) (.node (o_272 v) .nil .nil)) (.node (o_167 v) (.node (o_238 v) .nil .nil) (.node (o_304 v) .nil .nil))))))) (.node (b2 v) (.node (b4 v) (.node (b8 v) (.node (o_52 v) (.node (o_68 v) (.node (o_102 v) (.node (o_170 v) (.node (o_307 v) .nil .nil) .nil) (.node (o_241 v) .nil .nil)) (.node (o_136 v) (.node (o_204 v) .nil .nil) (.node (o_275 v) .nil .nil))) (.node (o_86 v) (.node (o_120 v) (.node (o_186 v) (.node (o_325 v) .nil .nil) .nil) (.node (o_257 v) .nil .nil)) (.node (o_152 v) (.node (o_220 v) .nil .nil) (.node (o_291 v) .nil .nil)))) (.node (o_60 v) (.node (o_78 v) (.node (o_110 v) (.node (o_178 v) (.node (o_315 v) .nil .nil) .nil) (.node (o_249 v) .nil .nil)) (.node (o_144 v) (.node (o_212 v) .nil .nil) (.node (o_283 v) .nil .nil))) (.node (o_94 v) (.node (o_128 v) (.node (o_196 v) (.node (o_333 v) .nil .nil) .nil) (.node (o_267 v) .nil .nil)) (.node (o_162 v) (.node (o_228 v) .nil .nil) (.node (o_299 v) .nil .nil))))) (.node (o_321 v) (.node (o_56 v) (.node (o_74 v) (.node (o_106 v) (.node (o_174 v) (.node (o_311 v) .nil .nil) .nil) (.node (o_245 v) .nil .nil)) (.node (o_140 v) (.node (o_208 v) .nil .nil) (.node (o_279 v) .nil .nil))) (.node (o_90 v) (.node (o_124 v) (.node (o_192 v) (.node (o_329 v) .nil .nil) .nil) (.node (o_263 v) .nil .nil)) (.node (o_156 v) (.node (o_224 v) .nil .nil) (.node (o_295 v) .nil .nil)))) (.node (o_64 v) (.node (o_82 v) (.node (o_114 v) (.node (o_182 v) (.node (o_319 v) .nil .nil) .nil) (.node (o_253 v) .nil .nil)) (.node (o_148 v) (.node (o_216 v) .nil .nil) (.node (o_287 v) .nil .nil))) (.node (o_98 v) (.node (o_132 v) (.node (o_200 v) .nil .nil) (.node (o_271 v) .nil .nil)) (.node (o_166 v) (.node (o_237 v) .nil .nil) (.node (o_303 v) .nil .nil)))))) (.node (b6 v) (.node (b10 v) (.node (o_54 v) (.node (o_70 v) (.node (o_104 v) (.node (o_172 v) (.node (o_309 v) .nil .nil) .nil) (.node (o_243 v) .nil .nil)) (.node (o_138 v) (.node (o_206 v) .nil .nil) (.node (o_277 v) .nil .nil))) (.node (o_88 v) (.node (o_122 v) (.node (o_188 v) (.node (o_327 v) .nil .nil) .nil) (.node (o_259 v) .nil .nil)) (.node (o_154 v) (.node (o_222 v) .nil .nil) (.node (o_293 v) .nil .nil)))) (.node (o_62 v) (.node (o_80 v) (.node (o_112 v) (.node (o_180 v) (.node (o_317 v) .nil .nil) .nil) (.node (o_251 v) .nil .nil)) (.node (o_146 v) (.node (o_214 v) .nil .nil) (.node (o_285 v) .nil .nil))) (.node (o_96 v) (.node (o_130 v) (.node (o_198 v) (.node (o_335 v) .nil .nil) .nil) (.node (o_269 v) .nil .nil)) (.node (o_164 v) (.node (o_235 v) .nil .nil) (.node (o_301 v) .nil .nil))))) (.node (o_46 v) (.node (o_58 v) (.node (o_76 v) (.node (o_108 v) (.node (o_176 v) (.node (o_313 v) .nil .nil) .nil) (.node (o_247 v) .nil .nil)) (.node (o_142 v) (.node (o_210 v) .nil .nil) (.node (o_281 v) .nil .nil))) (.node (o_92 v) (.node (o_126 v) (.node (o_194 v) (.node (o_331 v) .nil .nil) .nil) (.node (o_265 v) .nil .nil)) (.node (o_158 v) (.node (o_226 v) .nil .nil) (.node (o_297 v) .nil .nil)))) (.node (o_66 v) (.node (o_84 v) (.node (o_118 v) (.node (o_184 v) (.node (o_323 v) .nil .nil) .nil) (.node (o_255 v) .nil .nil)) (.node (o_150 v) (.node (o_218 v) .nil .nil) (.node (o_289 v) .nil .nil))) (.node (o_100 v) (.node (o_134 v) (.node (o_202 v) .nil .nil) (.node (o_273 v) .nil .nil)) (.node (o_168 v) (.node (o_239 v) .nil .nil) (.node (o_305 v) .nil .nil))))))))
noncomputable def o_336 : PO := fun v => (.mk (.type k3) .none (.dict #[(de v z43 165 (.str z16 404)), (de v z24 166 .none), (de v z44 167 .none), (de v z45 168 (.builtin k4)), (de v z46 169 .none), (de v z47 170 (.ref 6)), (de v z48 171 (.ref 4)), (de v z49 173 (.str z4 172)), (de v z50 174 .none), (de v z9 193 (.ref 21)), (de v z51 197 (.int 12 196)), (de v z52 199 (.int 4 198)), (de v z53 201 (.int 16 200)), (de v z54 219 (.ref 31)), (de v z55 283 (.ref 72)), (de v z56 354 (.ref 114)), (de v z57 358 (.int 128 357)), (de v z58 384 (.ref 128)), (de v z59 396 (.ref 139)), (de v z34 403 (.ref 146)), (de v z31 431 (.ref 156)), (de v z60 438 (.ref 167)), (de v z25 450 (.ref 174)), (de v z33 460 (.ref 181)), (de v z61 473 (.ref 182)), (de v z62 475 (.int 4865 474)), (de v z63 477 (.bytes #[56, 118, 44, 247, 245, 89, 52, 179, 77, 23, 154, 230, 164, 200, 12, 173, 204, 187, 127, 10] 476)), (de v z64 479 (.bytes #[13, 237, 227, 222, 247, 0, 166, 219, 129, 147, 129, 190, 110, 38, 157, 203, 249, 189, 46, 217] 478)), (de v z65 486 (.ref 192)), (de v z66 502 (.ref 202)), (de v z67 514 (.ref 211)), (de v z68 612 (.ref 264)), (de v z90 621 (.ref 275)), (de v z91 631 (.ref 282)), (de v z118 737 (.ref 350))] 35) #[])
noncomputable def o_337 : PO := fun v => (.mk .none .none (.fields #[(.int 1 0), (.int 0 0), (.ref 20), (.int 8 0), (.int 0 0), (.ref 27), (.int 10 0), (.int 0 0), (.ref 40), (.int 33 0), (.int 0 0), (.ref 82), (.int 77 0), (.int 0 0), (.ref 124), (.int 81 0), (.int 0 0), (.ref 138), (.int 91 0), (.int 0 0), (.ref 145), (.int 94 0), (.int 0 0), (.ref 152), (.int 98 0), (.int 0 0), (.ref 166), (.int 102 0), (.int 0 0), (.ref 173), (.int 104 0), (.int 0 0), (.ref 180), (.int 110 0), (.int 0 0), (.ref 191), (.int 112 0), (.int 0 0), (.ref 198), (.int 114 0), (.int 0 0), (.ref 210), (.int 124 0), (.int 0 0), (.ref 217), (.int 172 0), (.int 0 0), (.ref 274), (.int 177 0), (.int 0 0), (.ref 281), (.int 186 0), (.int 0 0), (.ref 288)]) #[])
noncomputable def o_338 : PO := fun v => (.mk (.type k0) .none (.seq #[] 0) #[])
noncomputable def o_339 : PO := fun v => (.mk (.type k7) .none (.fields #[(.builtin k8), (.type k9)]) #[])
noncomputable def o_340 : PO := fun v => (.mk (.type k3) .none (.dict #[(de v z15 639 (.str z16 404)), (de v z30 641 (.str z118 640)), (de v z17 643 (.int 186 642)), (de v z2 655 (.ref 297)), (de v z75 669 (.ref 304)), (de v z7 679 (.ref 311)), (de v z156 694 (.ref 318)), (de v z81 701 (.ref 325)), (de v z5 708 (.ref 332)), (de v z96 716 (.ref 340)), (de v z149 724 (.ref 347)), (de v z21 730 (.ref 348))] 12) #[])
noncomputable def o_341 : PO := fun v => (.mk (.type k0) .none (.seq #[] 0) #[])
noncomputable def o_342 : PO := fun v => (.mk .none .none (.fields #[(.int 188 0), (.int 4 0), (.ref 296), (.int 195 0), (.int 4 0), (.ref 303), (.int 201 0), (.int 4 0), (.ref 310), (.int 206 0), (.int 4 0), (.ref 317), (.int 220 0), (.int 4 0), (.ref 324), (.int 223 0), (.int 4 0), (.ref 331), (.int 227 0), (.int 4 0), (.ref 338), (.int 233 0), (.int 4 0), (.ref 346)]) #[])
noncomputable def o_343 : PO := fun v => (.mk (.type k1) .none (.fields #[(.str z118 634), (.str z118 635), (.str z4 636), (.int 186 0), (.int 0 0), (.int 0 0), (.int 0 0), (.int 0 0), (.ref 286), (.bool .false), (.int 181 0), (.ref 287), .none, .none, .none, .none, (.int 637 0), (.int 186 0), (.str z4 638)]) #[])
noncomputable def o_344 : PO := fun v => (.mk (.type k2) .none .plain #[(.some (.ref 288)), (.some (.ref 3)), (.some (.ref 285)), .none, (.some (.str z16 404)), .none, (.some (.ref 0))])
noncomputable def o_345 : PO := fun v => (.mk (.type k0) .none (.seq #[(.ref 192), (.ref 192), (.ref 192), (.ref 192)] 0) #[])
noncomputable def o_346 : PO := fun v => (.mk (.type k0) .none (.seq #[] 0) #[])
noncomputable def o_347 : PO := fun v => (.mk .none .none (.fields #[]) #[])
noncomputable def o_348 : PO := fun v => (.mk (.type k0) .none (.seq #[(.str z10 647), (.str z103 648), (.str z110 649), (.str z111 650), (.str z112 651), (.str z113 652)] 0) #[])
noncomputable def o_349 : PO := fun v => (.mk (.type k0) .none (.seq #[] 0) #[])
noncomputable def o_350 : PO := fun v => (.mk .none .none (.func (.mk z2 z148 (fA (sg (fB (sg PB 28)) 0)) (.stmts (fB (sg (fB (sg PB 28)) 0))) (fC (sg (fB (sg PB 28)) 0)) 0 [] .none .none .none .none .none .none .none 0)) #[])
noncomputable def o_351 : PO := fun v => (.mk (.type k1) .none (.fields #[(.str z2 644), (.str z148 645), (.str z4 646), (.int 188 0), (.int 6 0), (.int 0 0), (.int 0 0), (.int 3 0), (.ref 291), (.bool .true), (.int 181 0), (.ref 292), .none, (.ref 293), (.ref 294), (.ref 295), (.int 653 0), (.int 188 0), (.str z4 654)]) #[])
noncomputable def o_352 : PO := fun v => (.mk (.type k5) .none (.func (.mk z2 z148 (fA (sg (fB (sg PB 28)) 0)) (.stmts (fB (sg (fB (sg PB 28)) 0))) (fC (sg (fB (sg PB 28)) 0)) 3 [] (.ref 290) .none .none (.str z16 404) .none (.ref 296) .none 0)) #[])
noncomputable def o_353 : PO := fun v => (.mk (.type k0) .none (.seq #[] 0) #[])
noncomputable def o_354 : PO := fun v => (.mk .none .none (.fields #[]) #[])
noncomputable def o_355 : PO := fun v => (.mk (.type k0) .none (.seq #[(.str z10 659), (.str z151 660), (.str z152 661), (.str z153 662), (.str z154 663), (.str z155 664), (.str z145 665), (.str z5 666)] 0) #[])
noncomputable def o_356 : PO := fun v => (.mk (.type k0) .none (.seq #[] 0) #[])
noncomputable def o_357 : PO := fun v => (.mk .none .none (.func (.mk z75 z76 (fA (sg (fB (sg PB 28)) 1)) (.stmts (fB (sg (fB (sg PB 28)) 1))) (fC (sg (fB (sg PB 28)) 1)) 0 [] .none .none .none .none .none .none .none 0)) #[])
noncomputable def o_358 : PO := fun v => (.mk (.type k1) .none (.fields #[(.str z75 656), (.str z76 657), (.str z4 658), (.int 195 0), (.int 4 0), (.int 0 0), (.int 0 0), (.int 3 0), (.ref 298), (.bool .true), (.int 181 0), (.ref 299), .none, (.ref 300), (.ref 301), (.ref 302), (.int 667 0), (.int 195 0), (.str z4 668)]) #[])
noncomputable def o_359 : PO := fun v => (.mk (.type k5) .none (.func (.mk z75 z76 (fA (sg (fB (sg PB 28)) 1)) (.stmts (fB (sg (fB (sg PB 28)) 1))) (fC (sg (fB (sg PB 28)) 1)) 3 [] .none .none .none (.str z16 404) .none (.ref 303) .none 0)) #[])
noncomputable def o_360 : PO := fun v => (.mk (.type k0) .none (.seq #[] 0) #[])
noncomputable def o_361 : PO := fun v => (.mk .none .none (.fields #[]) #[])
noncomputable def o_362 : PO := fun v => (.mk (.type k0) .none (.seq #[(.str z10 673), (.str z154 674), (.str z170 675), (.str z145 676)] 0) #[])
noncomputable def o_363 : PO := fun v => (.mk (.type k0) .none (.seq #[] 0) #[])
noncomputable def o_364 : PO := fun v => (.mk .none .none (.func (.mk z7 z8 (fA (sg (fB (sg PB 28)) 2)) (.stmts (fB (sg (fB (sg PB 28)) 2))) (fC (sg (fB (sg PB 28)) 2)) 0 [] .none .none .none .none .none .none .none 0)) #[])
noncomputable def o_365 : PO := fun v => (.mk (.type k1) .none (.fields #[(.str z7 670), (.str z8 671), (.str z4 672), (.int 201 0), (.int 4 0), (.int 0 0), (.int 0 0), (.int 3 0), (.ref 305), (.bool .true), (.int 181 0), (.ref 306), .none, (.ref 307), (.ref 308), (.ref 309), (.int 677 0), (.int 201 0), (.str z4 678)]) #[])
noncomputable def o_366 : PO := fun v => (.mk (.type k5) .none (.func (.mk z7 z8 (fA (sg (fB (sg PB 28)) 2)) (.stmts (fB (sg (fB (sg PB 28)) 2))) (fC (sg (fB (sg PB 28)) 2)) 3 [] .none .none .none (.str z16 404) .none (.ref 310) .none 0)) #[])
noncomputable def o_367 : PO := fun v => (.mk (.type k0) .none (.seq #[] 0) #[])
noncomputable def o_368 : PO := fun v => (.mk .none .none (.fields #[]) #[])
noncomputable def o_369 : PO := fun v => (.mk (.type k0) .none (.seq #[(.str z10 683), (.str z181 684), (.str z190 685), (.str z139 686), (.str z191 687), (.str z192 688), (.str z193 689), (.str z140 690), (.str z194 691)] 0) #[])
noncomputable def o_370 : PO := fun v => (.mk (.type k0) .none (.seq #[] 0) #[])
noncomputable def o_371 : PO := fun v => (.mk .none .none (.func (.mk z156 z157 (fA (sg (fB (sg PB 28)) 3)) (.stmts (fB (sg (fB (sg PB 28)) 3))) (fC (sg (fB (sg PB 28)) 3)) 0 [] .none .none .none .none .none .none .none 0)) #[])
noncomputable def o_372 : PO := fun v => (.mk (.type k1) .none (.fields #[(.str z156 680), (.str z157 681), (.str z4 682), (.int 206 0), (.int 4 0), (.int 0 0), (.int 0 0), (.int 3 0), (.ref 312), (.bool .true), (.int 181 0), (.ref 313), .none, (.ref 314), (.ref 315), (.ref 316), (.int 692 0), (.int 206 0), (.str z4 693)]) #[])
noncomputable def o_373 : PO := fun v => (.mk (.type k5) .none (.func (.mk z156 z157 (fA (sg (fB (sg PB 28)) 3)) (.stmts (fB (sg (fB (sg PB 28)) 3))) (fC (sg (fB (sg PB 28)) 3)) 3 [] .none .none .none (.str z16 404) .none (.ref 317) .none 0)) #[])
noncomputable def o_374 : PO := fun v => (.mk (.type k0) .none (.seq #[] 0) #[])
noncomputable def o_375 : PO := fun v => (.mk .none .none (.fields #[]) #[])
noncomputable def o_376 : PO := fun v => (.mk (.type k0) .none (.seq #[(.str z10 698)] 0) #[])
noncomputable def o_377 : PO := fun v => (.mk (.type k0) .none (.seq #[] 0) #[])
noncomputable def o_378 : PO := fun v => (.mk .none .none (.func (.mk z81 z115 (fA (sg (fB (sg PB 28)) 4)) (.stmts (fB (sg (fB (sg PB 28)) 4))) (fC (sg (fB (sg PB 28)) 4)) 0 [] .none .none .none .none .none .none .none 0)) #[])
noncomputable def o_379 : PO := fun v => (.mk (.type k1) .none (.fields #[(.str z81 695), (.str z115 696), (.str z4 697), (.int 220 0), (.int 1 0), (.int 0 0), (.int 0 0), (.int 3 0), (.ref 319), (.bool .true), (.int 181 0), (.ref 320), .none, (.ref 321), (.ref 322), (.ref 323), (.int 699 0), (.int 220 0), (.str z4 700)]) #[])
noncomputable def o_380 : PO := fun v => (.mk (.type k5) .none (.func (.mk z81 z115 (fA (sg (fB (sg PB 28)) 4)) (.stmts (fB (sg (fB (sg PB 28)) 4))) (fC (sg (fB (sg PB 28)) 4)) 3 [] .none .none .none (.str z16 404) .none (.ref 324) .none 0)) #[])
noncomputable def o_381 : PO := fun v => (.mk (.type k0) .none (.seq #[] 0) #[])
noncomputable def o_382 : PO := fun v => (.mk .none .none (.fields #[]) #[])
noncomputable def o_383 : PO := fun v => (.mk (.type k0) .none (.seq #[(.str z10 705)] 0) #[])
noncomputable def o_384 : PO := fun v => (.mk (.type k0) .none (.seq #[] 0) #[])
noncomputable def o_385 : PO := fun v => (.mk .none .none (.func (.mk z5 z6 (fA (sg (fB (sg PB 28)) 5)) (.stmts (fB (sg (fB (sg PB 28)) 5))) (fC (sg (fB (sg PB 28)) 5)) 0 [] .none .none .none .none .none .none .none 0)) #[])
noncomputable def o_386 : PO := fun v => (.mk (.type k1) .none (.fields #[(.str z5 702), (.str z6 703), (.str z4 704), (.int 223 0), (.int 1 0), (.int 0 0), (.int 0 0), (.int 3 0), (.ref 326), (.bool .true), (.int 181 0), (.ref 327), .none, (.ref 328), (.ref 329), (.ref 330), (.int 706 0), (.int 223 0), (.str z4 707)]) #[])
noncomputable def o_387 : PO := fun v => (.mk (.type k5) .none (.func (.mk z5 z6 (fA (sg (fB (sg PB 28)) 5)) (.stmts (fB (sg (fB (sg PB 28)) 5))) (fC (sg (fB (sg PB 28)) 5)) 3 [] .none .none .none (.str z16 404) .none (.ref 331) .none 0)) #[])
noncomputable def o_388 : PO := fun v => (.mk (.type k0) .none (.seq #[] 0) #[])
noncomputable def o_389 : PO := fun v => (.mk .none .none (.fields #[]) #[])
noncomputable def o_390 : PO := fun v => (.mk (.type k0) .none (.seq #[(.str z10 712)] 0) #[])
noncomputable def o_391 : PO := fun v => (.mk (.type k0) .none (.seq #[] 0) #[])
noncomputable def o_392 : PO := fun v => (.mk .none .none (.func (.mk z96 z97 (fA (sg (fB (sg PB 28)) 6)) (.stmts (fB (sg (fB (sg PB 28)) 6))) (fC (sg (fB (sg PB 28)) 6)) 0 [] .none .none .none .none .none .none .none 0)) #[])
noncomputable def o_393 : PO := fun v => (.mk (.type k1) .none (.fields #[(.str z96 709), (.str z97 710), (.str z4 711), (.int 226 0), (.int 1 0), (.int 0 0), (.int 0 0), (.int 3 0), (.ref 333), (.bool .true), (.int 181 0), (.ref 334), .none, (.ref 335), (.ref 336), (.ref 337), (.int 713 0), (.int 226 0), (.str z4 714)]) #[])
noncomputable def o_394 : PO := fun v => (.mk (.type k5) .none (.func (.mk z96 z97 (fA (sg (fB (sg PB 28)) 6)) (.stmts (fB (sg (fB (sg PB 28)) 6))) (fC (sg (fB (sg PB 28)) 6)) 3 [] .none .none .none (.str z16 404) .none (.ref 338) .none 0)) #[])
noncomputable def o_395 : PO := fun v => (.mk (.type k21) .none (.fields #[(.ref 339), .none, .none, .none, (.str z96 716), (.bool .false)]) #[])
noncomputable def o_396 : PO := fun v => (.mk (.type k0) .none (.seq #[] 0) #[])
noncomputable def o_397 : PO := fun v => (.mk .none .none (.fields #[]) #[])
noncomputable def o_398 : PO := fun v => (.mk (.type k0) .none (.seq #[(.str z10 720), (.str z1 721)] 0) #[])
noncomputable def o_399 : PO := fun v => (.mk (.type k0) .none (.seq #[] 0) #[])
noncomputable def o_400 : PO := fun v => (.mk .none .none (.func (.mk z149 z150 (fA (sg (fB (sg PB 28)) 7)) (.stmts (fB (sg (fB (sg PB 28)) 7))) (fC (sg (fB (sg PB 28)) 7)) 0 [] .none .none .none .none .none .none .none 0)) #[])
noncomputable def o_401 : PO := fun v => (.mk (.type k1) .none (.fields #[(.str z149 717), (.str z150 718), (.str z4 719), (.int 233 0), (.int 2 0), (.int 0 0), (.int 0 0), (.int 3 0), (.ref 341), (.bool .true), (.int 181 0), (.ref 342), .none, (.ref 343), (.ref 344), (.ref 345), (.int 722 0), (.int 233 0), (.str z4 723)]) #[])
noncomputable def o_402 : PO := fun v => (.mk (.type k5) .none (.func (.mk z149 z150 (fA (sg (fB (sg PB 28)) 7)) (.stmts (fB (sg (fB (sg PB 28)) 7))) (fC (sg (fB (sg PB 28)) 7)) 3 [] .none .none .none (.str z16 404) .none (.ref 346) .none 0)) #[])
noncomputable def o_403 : PO := fun v => (.mk (.type k0) .none (.seq #[(.str z101 725), (.str z102 726), (.str z103 727), (.str z104 728), (.str z105 729)] 0) #[])
noncomputable def o_404 : PO := fun v => (.mk (.type k3) .none (.dict #[(de v z15 639 (.str z16 404)), (de v z17 643 (.int 186 642)), (de v z2 655 (.ref 297)), (de v z75 669 (.ref 304)), (de v z7 679 (.ref 311)), (de v z156 694 (.ref 318)), (de v z81 701 (.ref 325)), (de v z5 708 (.ref 332)), (de v z96 716 (.ref 340)), (de v z149 724 (.ref 347)), (de v z21 730 (.ref 348)), (de v z22 732 (.ref 351)), (de v z23 734 (.ref 352)), (de v z24 735 .none)] 4) #[])
noncomputable def o_405 : PO := fun v => (.mk (.type k9) .none (.cls (.mk z118 [(.type k12)] [(.ref 350), (.type k12)] 349 z118 .true [] [] .false .none .false)) #[.none, .none, (.some (.str z118 632)), (.some (.str z118 640)), (.some (.builtin k18)), (.some (.bool .true))])
noncomputable def o_406 : PO := fun v => (.mk (.type k14) .none (.fields #[(.str z22 731), (.ref 350), (.builtin k19), (.builtin k20)]) #[])
noncomputable def o_407 : PO := fun v => (.mk (.type k14) .none (.fields #[(.str z23 733), (.ref 350), (.builtin k15), .none]) #[])
noncomputable def o_408 : PO := fun v => (.mk (.type k16) .none (.fields #[(.ref 350), (.ref 350), (.ref 350)]) #[])
noncomputable def o_409 : PO := fun v => (.mk (.type k7) .none (.fields #[(.builtin k17), (.ref 350)]) #[])
noncomputable def tree_409 : PT := fun v => (.node (b0 v) (.node (b1 v) (.node (o_336 v) (.node (b7 v) (.node (o_51 v) (.node (o_234 v) (.node (o_101 v) (.node (o_169 v) (.node (o_306 v) .nil .nil) .nil) (.node (o_240 v) (.node (o_374 v) .nil .nil) .nil)) (.node (o_135 v) (.node (o_203 v) (.node (o_342 v) .nil .nil) .nil) (.node (o_274 v) (.node (o_406 v) .nil .nil) .nil))) (.node (o_85 v) (.node (o_119 v) (.node (o_185 v) (.node (o_324 v) .nil .nil) .nil) (.node (o_256 v) (.node (o_390 v) .nil .nil) .nil)) (.node (o_151 v) (.node (o_219 v) (.node (o_358 v) .nil .nil) .nil) (.node (o_290 v) .nil .nil)))) (.node (o_59 v) (.node (o_77 v) (.node (o_109 v) (.node (o_177 v) (.node (o_314 v) .nil .nil) .nil) (.node (o_248 v) (.node (o_382 v) .nil .nil) .nil)) (.node (o_143 v) (.node (o_211 v) (.node (o_350 v) .nil .nil) .nil) (.node (o_282 v) .nil .nil))) (.node (o_93 v) (.node (o_127 v) (.node (o_195 v) (.node (o_332 v) .nil .nil) .nil) (.node (o_266 v) (.node (o_398 v) .nil .nil) .nil)) (.node (o_161 v) (.node (o_227 v) (.node (o_366 v) .nil .nil) .nil) (.node (o_298 v) .nil .nil))))) (.node (o_43 v) (.node (o_55 v) (.node (o_73 v) (.node (o_105 v) (.node (o_173 v) (.node (o_310 v) .nil .nil) .nil) (.node (o_244 v) (.node (o_378 v) .nil .nil) .nil)) (.node (o_139 v) (.node (o_207 v) (.node (o_346 v) .nil .nil) .nil) (.node (o_278 v) .nil .nil))) (.node (o_89 v) (.node (o_123 v) (.node (o_191 v) (.node (o_328 v) .nil .nil) .nil) (.node (o_260 v) (.node (o_394 v) .nil .nil) .nil)) (.node (o_155 v) (.node (o_223 v) (.node (o_362 v) .nil .nil) .nil) (.node (o_294 v) .nil .nil)))) (.node (o_63 v) (.node (o_81 v) (.node (o_113 v) (.node (o_181 v) (.node (o_318 v) .nil .nil) .nil) (.node (o_252 v) (.node (o_386 v) .nil .nil) .nil)) (.node (o_147 v) (.node (o_215 v) (.node (o_354 v) .nil .nil) .nil) (.node (o_286 v) .nil .nil))) (.node (o_97 v) (.node (o_131 v) (.node (o_199 v) (.node (o_338 v) .nil .nil) .nil) (.node (o_270 v) (.node (o_402 v) .nil .nil) .nil)) (.node (o_165 v) (.node (o_236 v) (.node (o_370 v) .nil .nil) .nil) (.node (o_302 v) .nil .nil)))))) (.node (b5 v) (.node (b9 v) (.node (o_53 v) (.node (o_69 v) (.node (o_103 v) (.node (o_171 v) (.node (o_308 v) .nil .nil) .nil) (.node (o_242 v) (.node (o_376 v) .nil .nil) .nil)) (.node (o_137 v) (.node (o_205 v) (.node (o_344 v) .nil .nil) .nil) (.node (o_276 v) (.node (o_408 v) .nil .nil) .nil))) (.node (o_87 v) (.node (o_121 v) (.node (o_187 v) (.node (o_326 v) .nil .nil) .nil) (.node (o_258 v) (.node (o_392 v) .nil .nil) .nil)) (.node (o_153 v) (.node (o_221 v) (.node (o_360 v) .nil .nil) .nil) (.node (o_292 v) .nil .nil)))) (.node (o_61 v) (.node (o_79 v) (.node (o_111 v) (.node (o_179 v) (.node (o_316 v) .nil .nil) .nil) (.node (o_250 v) (.node (o_384 v) .nil .nil) .nil)) (.node (o_145 v) (.node (o_213 v) (.node (o_352 v) .nil .nil) .nil) (.node (o_284 v) .nil .nil))) (.node (o_95 v) (.node (o_129 v) (.node (o_197 v) (.node (o_334 v) .nil .nil) .nil) (.node (o_268 v) (.node (o_400 v) .nil .nil) .nil)) (.node (o_163 v) (.node (o_229 v) (.node (o_368 v) .nil .nil) .nil) (.node (o_300 v) .nil .nil))))) (.node (o_45 v) (.node (o_57 v) (.node (o_75 v) (.node (o_107 v) (.node (o_175 v) (.node (o_312 v) .nil .nil) .nil) (.node (o_246 v) (.node (o_380 v) .nil .nil) .nil)) (.node (o_141 v) (.node (o_209 v) (.node (o_348 v) .nil .nil) .nil) (.node (o_280 v) .nil .nil))) (.node (o_91 v) (.node (o_125 v) (.node (o_193 v) (.node (o_330 v) .nil .nil) .nil) (.node (o_264 v) (.node (o_396 v) .nil .nil) .nil)) (.node (o_157 v) (.node (o_225 v) (.node (o_364 v) .nil .nil) .nil) (.node (o_296 v) .nil .nil)))) (.node (o_65 v) (.node (o_83 v) (.node (o_117 v) (.node (o_183 v) (.node (o_322 v) .nil .nil) .nil) (.node (o_254 v) (.node (o_388 v) .nil .nil) .nil)) (.node (o_149 v) (.node (o_217 v) (.node (o_356 v) .nil .nil) .nil) (.node (o_288 v) .nil .nil))) (.node (o_99 v) (.node (o_133 v) (.node (o_201 v) (.node (o_340 v) .nil .nil) .nil) (.node (o_272 v) (.node (o_404 v) .nil .nil) .nil)) (.node (o_167 v) (.node (o_238 v) (.node (o_372 v) .nil .nil) .nil) (.node (o_304 v) .nil .nil))))))) (.node (b2 v) (.node (b4 v) (.node (b8 v) (.node (o_52 v) (.node (o_68 v) (.node (o_102 v) (.node (o_170 v) (.node (o_307 v) .nil .nil) .nil) (.node (o_241 v) (.node (o_375 v) .nil .nil) .nil)) (.node (o_136 v) (.node (o_204 v) (.node (o_343 v) .nil .nil) .nil) (.node (o_275 v) (.node (o_407 v) .nil .nil) .nil))) (.node (o_86 v) (.node (o_120 v) (.node (o_186 v) (.node (o_325 v) .nil .nil) .nil) (.node (o_257 v) (.node (o_391 v) .nil .nil) .nil)) (.node (o_152 v) (.node (o_220 v) (.node (o_359 v) .nil .nil) .nil) (.node (o_291 v) .nil .nil)))) (.node (o_60 v) (.node (o_78 v) (.node (o_110 v) (.node (o_178 v) (.node (o_315 v) .nil .nil) .nil) (.node (o_249 v) (.node (o_383 v) .nil .nil) .nil)) (.node (o_144 v) (.node (o_212 v) (.node (o_351 v) .nil .nil) .nil) (.node (o_283 v) .nil .nil))) (.node (o_94 v) (.node (o_128 v) (.node (o_196 v) (.node (o_333 v) .nil .nil) .nil) (.node (o_267 v) (.node (o_399 v) .nil .nil) .nil)) (.node (o_162 v) (.node (o_228 v) (.node (o_367 v) .nil .nil) .nil) (.node (o_299 v) .nil .nil))))) (.node (o_337 v) (.node (o_56 v) (.node (o_74 v) (.node (o_106 v) (.node (o_174 v) (.node (o_311 v) .nil .nil) .nil) (.node (o_245 v) (.node (o_379 v) .nil .nil) .nil)) (.node (o_140 v) (.node (o_208 v) (.node (o_347 v) .nil .nil) .nil) (.node (o_279 v) .nil .nil))) (.node (o_90 v) (.node (o_124 v) (.node (o_192 v) (.node (o_329 v) .nil .nil) .nil) (.node (o_263 v) (.node (o_395 v) .nil .nil) .nil)) (.node (o_156 v) (.node (o_224 v) (.node (o_363 v) .nil .nil) .nil) (.node (o_295 v) .nil .nil)))) (.node (o_64 v) (.node (o_82 v) (.node (o_114 v) (.node (o_182 v) (.node (o_319 v) .nil .nil) .nil) (.node (o_253 v) (.node (o_387 v) .nil .nil) .nil)) (.node (o_148 v) (.node (o_216 v) (.node (o_355 v) .nil .nil) .nil) (.node (o_287 v) .nil .nil))) (.node (o_98 v) (.node (o_132 v) (.node (o_200 v) (.node (o_339 v) .nil .nil) .nil) (.node (o_271 v) (.node (o_403 v) .nil .nil) .nil)) (.node (o_166 v) (.node (o_237 v) (.node (o_371 v) .nil .nil) .nil) (.node (o_303 v) .nil .nil)))))) (.node (b6 v) (.node (b10 v) (.node (o_54 v) (.node (o_70 v) (.node (o_104 v) (.node (o_172 v) (.node (o_309 v) .nil .nil) .nil) (.node (o_243 v) (.node (o_377 v) .nil .nil) .nil)) (.node (o_138 v) (.node (o_206 v) (.node (o_345 v) .nil .nil) .nil) (.node (o_277 v) (.node (o_409 v) .nil .nil) .nil))) (.node (o_88 v) (.node (o_122 v) (.node (o_188 v) (.node (o_327 v) .nil .nil) .nil) (.node (o_259 v) (.node (o_393 v) .nil .nil) .nil)) (.node (o_154 v) (.node (o_222 v) (.node (o_361 v) .nil .nil) .nil) (.node (o_293 v) .nil .nil)))) (.node (o_62 v) (.node (o_80 v) (.node (o_112 v) (.node (o_180 v) (.node (o_317 v) .nil .nil) .nil) (.node (o_251 v) (.node (o_385 v) .nil .nil) .nil)) (.node (o_146 v) (.node (o_214 v) (.node (o_353 v) .nil .nil) .nil) (.node (o_285 v) .nil .nil))) (.node (o_96 v) (.node (o_130 v) (.node (o_198 v) (.node (o_335 v) .nil .nil) .nil) (.node (o_269 v) (.node (o_401 v) .nil .nil) .nil)) (.node (o_164 v) (.node (o_235 v) (.node (o_369 v) .nil .nil) .nil) (.node (o_301 v) .nil .nil))))) (.node (o_46 v) (.node (o_58 v) (.node (o_76 v) (.node (o_108 v) (.node (o_176 v) (.node (o_313 v) .nil .nil) .nil) (.node (o_247 v) (.node (o_381 v) .nil .nil) .nil)) (.node (o_142 v) (.node (o_210 v) (.node (o_349 v) .nil .nil) .nil) (.node (o_281 v) .nil .nil))) (.node (o_92 v) (.node (o_126 v) (.node (o_194 v) (.node (o_331 v) .nil .nil) .nil) (.node (o_265 v) (.node (o_397 v) .nil .nil) .nil)) (.node (o_158 v) (.node (o_226 v) (.node (o_365 v) .nil .nil) .nil) (.node (o_297 v) .nil .nil)))) (.node (o_66 v) (.node (o_84 v) (.node (o_118 v) (.node (o_184 v) (.node (o_323 v) .nil .nil) .nil) (.node (o_255 v) (.node (o_389 v) .nil .nil) .nil)) (.node (o_150 v) (.node (o_218 v) (.node (o_357 v) .nil .nil) .nil) (.node (o_289 v) .nil .nil))) (.node (o_100 v) (.node (o_134 v) (.node (o_202 v) (.node (o_341 v) .nil .nil) .nil) (.node (o_273 v) (.node (o_405 v) .nil .nil) .nil)) (.node (o_168 v) (.node (o_239 v) (.node (o_373 v) .nil .nil) .nil) (.node (o_305 v) .nil .nil))))))))
noncomputable def o_410 : PO := fun v => (.mk (.type k3) .none (.dict #[(de v z43 165 (.str z27 738)), (de v z24 166 .none), (de v z44 167 .none), (de v z45 168 (.builtin k4)), (de v z46 169 .none), (de v z47 170 (.ref 6)), (de v z48 171 (.ref 4)), (de v z49 173 (.str z4 172)), (de v z50 174 .none), (de v z9 193 (.ref 21)), (de v z51 197 (.int 12 196)), (de v z52 199 (.int 4 198)), (de v z53 201 (.int 16 200)), (de v z54 219 (.ref 31)), (de v z55 283 (.ref 72)), (de v z56 354 (.ref 114)), (de v z57 358 (.int 128 357)), (de v z58 384 (.ref 128)), (de v z59 396 (.ref 139)), (de v z34 403 (.ref 146)), (de v z31 431 (.ref 156)), (de v z60 438 (.ref 167)), (de v z25 450 (.ref 174)), (de v z33 460 (.ref 181)), (de v z61 473 (.ref 182)), (de v z62 475 (.int 4865 474)), (de v z63 477 (.bytes #[56, 118, 44, 247, 245, 89, 52, 179, 77, 23, 154, 230, 164, 200, 12, 173, 204, 187, 127, 10] 476)), (de v z64 479 (.bytes #[13, 237, 227, 222, 247, 0, 166, 219, 129, 147, 129, 190, 110, 38, 157, 203, 249, 189, 46, 217] 478)), (de v z65 486 (.ref 192)), (de v z66 502 (.ref 202)), (de v z67 514 (.ref 211)), (de v z68 612 (.ref 264)), (de v z90 621 (.ref 275)), (de v z91 631 (.ref 282)), (de v z118 737 (.ref 350)), (de v z69 749 (.ref 361)), (de v z119 758 (.ref 368)), (de v z120 766 (.ref 375)), (de v z0 775 (.ref 382)), (de v z114 787 (.ref 389)), (de v z121 799 (.ref 396)), (de v z122 808 (.ref 403)), (de v z32 819 (.ref 410)), (de v z123 828 (.ref 417)), (de v z26 840 (.ref 424)), (de v z29 846 (.ref 429)), (de v z124 856 (.ref 436))] 47) #[])
noncomputable def o_411 : PO := fun v => (.mk .none .none (.fields #[(.int 1 0), (.int 0 0), (.ref 20), (.int 8 0), (.int 0 0), (.ref 27), (.int 10 0), (.int 0 0), (.ref 40), (.int 33 0), (.int 0 0), (.ref 82), (.int 77 0), (.int 0 0), (.ref 124), (.int 81 0), (.int 0 0), (.ref 138), (.int 91 0), (.int 0 0), (.ref 145), (.int 94 0), (.int 0 0), (.ref 152), (.int 98 0), (.int 0 0), (.ref 166), (.int 102 0), (.int 0 0), (.ref 173), (.int 104 0), (.int 0 0), (.ref 180), (.int 110 0), (.int 0 0), (.ref 191), (.int 112 0), (.int 0 0), (.ref 198), (.int 114 0), (.int 0 0), (.ref 210), (.int 124 0), (.int 0 0), (.ref 217), (.int 172 0), (.int 0 0), (.ref 274), (.int 177 0), (.int 0 0), (.ref 281), (.int 186 0), (.int 0 0), (.ref 288), (.int 238 0), (.int 0 0), (.ref 360), (.int 245 0), (.int 0 0), (.ref 367), (.int 248 0), (.int 0 0), (.ref 374), (.int 250 0), (.int 0 0), (.ref 381), (.int 255 0), (.int 0 0), (.ref 388), (.int 258 0), (.int 0 0), (.ref 395), (.int 263 0), (.int 0 0), (.ref 402), (.int 265 0), (.int 0 0), (.ref 409), (.int 267 0), (.int 0 0), (.ref 416), (.int 269 0), (.int 0 0), (.ref 423), (.int 279 0), (.int 0 0), (.ref 428), (.int 294 0), (.int 0 0), (.ref 435)]) #[])
noncomputable def o_412 : PO := fun v => (.mk (.type k0) .none (.seq #[] 0) #[])
noncomputable def o_413 : PO := fun v => (.mk .none .none (.fields #[]) #[])
noncomputable def o_414 : PO := fun v => (.mk (.type k0) .none (.seq #[(.str z11 743), (.str z71 744), (.str z72 745), (.str z189 746)] 0) #[])
noncomputable def o_415 : PO := fun v => (.mk (.type k0) .none (.seq #[] 0) #[])
noncomputable def o_416 : PO := fun v => (.mk .none .none (.func (.mk z69 z69 (fA (sg PB 30)) (.stmts (fB (sg PB 30))) (fC (sg PB 30)) 0 [] .none .none .none .none .none .none .none 0)) #[])
noncomputable def o_417 : PO := fun v => (.mk (.type k1) .none (.fields #[(.str z69 740), (.str z69 741), (.str z4 742), (.int 238 0), (.int 2 0), (.int 0 0), (.int 0 0), (.int 3 0), (.ref 355), (.bool .true), (.int 181 0), (.ref 356), .none, (.ref 357), (.ref 358), (.ref 359), (.int 747 0), (.int 238 0), (.str z4 748)]) #[])
noncomputable def o_418 : PO := fun v => (.mk (.type k5) .none (.func (.mk z69 z69 (fA (sg PB 30)) (.stmts (fB (sg PB 30))) (fC (sg PB 30)) 3 [] .none .none .none (.str z27 738) .none (.ref 360) .none 0)) #[])
noncomputable def o_419 : PO := fun v => (.mk (.type k0) .none (.seq #[] 0) #[])
noncomputable def o_420 : PO := fun v => (.mk .none .none (.fields #[]) #[])
noncomputable def o_421 : PO := fun v => (.mk (.type k0) .none (.seq #[(.str z70 753), (.str z71 754), (.str z72 755)] 0) #[])
noncomputable def o_422 : PO := fun v => (.mk (.type k0) .none (.seq #[] 0) #[])
noncomputable def o_423 : PO := fun v => (.mk .none .none (.func (.mk z119 z119 (fA (sg PB 31)) (.stmts (fB (sg PB 31))) (fC (sg PB 31)) 0 [] .none .none .none .none .none .none .none 0)) #[])
noncomputable def o_424 : PO := fun v => (.mk (.type k1) .none (.fields #[(.str z119 750), (.str z119 751), (.str z4 752), (.int 245 0), (.int 2 0), (.int 0 0), (.int 0 0), (.int 3 0), (.ref 362), (.bool .true), (.int 181 0), (.ref 363), .none, (.ref 364), (.ref 365), (.ref 366), (.int 756 0), (.int 245 0), (.str z4 757)]) #[])
noncomputable def o_425 : PO := fun v => (.mk (.type k5) .none (.func (.mk z119 z119 (fA (sg PB 31)) (.stmts (fB (sg PB 31))) (fC (sg PB 31)) 3 [] .none .none .none (.str z27 738) .none (.ref 367) .none 0)) #[])
noncomputable def o_426 : PO := fun v => (.mk (.type k0) .none (.seq #[] 0) #[])
noncomputable def o_427 : PO := fun v => (.mk .none .none (.fields #[]) #[])
noncomputable def o_428 : PO := fun v => (.mk (.type k0) .none (.seq #[(.str z11 762), (.str z12 763)] 0) #[])
noncomputable def o_429 : PO := fun v => (.mk (.type k0) .none (.seq #[] 0) #[])
noncomputable def o_430 : PO := fun v => (.mk .none .none (.func (.mk z120 z120 (fA (sg PB 32)) (.stmts (fB (sg PB 32))) (fC (sg PB 32)) 0 [] .none .none .none .none .none .none .none 0)) #[])
noncomputable def o_431 : PO := fun v => (.mk (.type k1) .none (.fields #[(.str z120 759), (.str z120 760), (.str z4 761), (.int 248 0), (.int 2 0), (.int 0 0), (.int 0 0), (.int 3 0), (.ref 369), (.bool .true), (.int 181 0), (.ref 370), .none, (.ref 371), (.ref 372), (.ref 373), (.int 764 0), (.int 248 0), (.str z4 765)]) #[])
noncomputable def o_432 : PO := fun v => (.mk (.type k5) .none (.func (.mk z120 z120 (fA (sg PB 32)) (.stmts (fB (sg PB 32))) (fC (sg PB 32)) 3 [] .none .none .none (.str z27 738) .none (.ref 374) .none 0)) #[])
noncomputable def o_433 : PO := fun v => (.mk (.type k0) .none (.seq #[] 0) #[])
noncomputable def o_434 : PO := fun v => (.mk .none .none (.fields #[]) #[])
noncomputable def o_435 : PO := fun v => (.mk (.type k0) .none (.seq #[(.str z134 770), (.str z135 771), (.str z12 772)] 0) #[])
noncomputable def o_436 : PO := fun v => (.mk (.type k0) .none (.seq #[] 0) #[])
noncomputable def o_437 : PO := fun v => (.mk .none .none (.func (.mk z0 z0 (fA (sg PB 33)) (.stmts (fB (sg PB 33))) (fC (sg PB 33)) 0 [] .none .none .none .none .none .none .none 0)) #[])
noncomputable def o_438 : PO := fun v => (.mk (.type k1) .none (.fields #[(.str z0 767), (.str z0 768), (.str z4 769), (.int 250 0), (.int 2 0), (.int 0 0), (.int 0 0), (.int 3 0), (.ref 376), (.bool .true), (.int 181 0), (.ref 377), .none, (.ref 378), (.ref 379), (.ref 380), (.int 773 0), (.int 250 0), (.str z4 774)]) #[])
noncomputable def o_439 : PO := fun v => (.mk (.type k5) .none (.func (.mk z0 z0 (fA (sg PB 33)) (.stmts (fB (sg PB 33))) (fC (sg PB 33)) 3 [] .none .none .none (.str z27 738) .none (.ref 381) .none 0)) #[])
noncomputable def o_440 : PO := fun v => (.mk (.type k0) .none (.seq #[] 0) #[])
noncomputable def o_441 : PO := fun v => (.mk .none .none (.fields #[]) #[])
noncomputable def o_442 : PO := fun v => (.mk (.type k0) .none (.seq #[(.str z38 779), (.str z39 780), (.str z185 781), (.str z143 782), (.str z186 783), (.str z134 784)] 0) #[])
noncomputable def o_443 : PO := fun v => (.mk (.type k0) .none (.seq #[] 0) #[])
noncomputable def o_444 : PO := fun v => (.mk .none .none (.func (.mk z114 z114 (fA (sg PB 34)) (.stmts (fB (sg PB 34))) (fC (sg PB 34)) 0 [] .none .none .none .none .none .none .none 0)) #[])
noncomputable def o_445 : PO := fun v => (.mk (.type k1) .none (.fields #[(.str z114 776), (.str z114 777), (.str z4 778), (.int 255 0), (.int 5 0), (.int 0 0), (.int 0 0), (.int 3 0), (.ref 383), (.bool .true), (.int 181 0), (.ref 384), .none, (.ref 385), (.ref 386), (.ref 387), (.int 785 0), (.int 255 0), (.str z4 786)]) #[])
noncomputable def o_446 : PO := fun v => (.mk (.type k5) .none (.func (.mk z114 z114 (fA (sg PB 34)) (.stmts (fB (sg PB 34))) (fC (sg PB 34)) 3 [] .none .none .none (.str z27 738) .none (.ref 388) .none 0)) #[])
noncomputable def o_447 : PO := fun v => (.mk (.type k0) .none (.seq #[] 0) #[])
noncomputable def o_448 : PO := fun v => (.mk .none .none (.fields #[]) #[])
noncomputable def o_449 : PO := fun v => (.mk (.type k0) .none (.seq #[(.str z38 791), (.str z39 792), (.str z185 793), (.str z143 794), (.str z186 795), (.str z187 796)] 0) #[])
noncomputable def o_450 : PO := fun v => (.mk (.type k0) .none (.seq #[] 0) #[])
noncomputable def o_451 : PO := fun v => (.mk .none .none (.func (.mk z121 z121 (fA (sg PB 35)) (.stmts (fB (sg PB 35))) (fC (sg PB 35)) 0 [] .none .none .none .none .none .none .none 0)) #[])
noncomputable def o_452 : PO := fun v => (.mk (.type k1) .none (.fields #[(.str z121 788), (.str z121 789), (.str z4 790), (.int 258 0), (.int 5 0), (.int 0 0), (.int 0 0), (.int 3 0), (.ref 390), (.bool .true), (.int 181 0), (.ref 391), .none, (.ref 392), (.ref 393), (.ref 394), (.int 797 0), (.int 258 0), (.str z4 798)]) #[])
noncomputable def o_453 : PO := fun v => (.mk (.type k5) .none (.func (.mk z121 z121 (fA (sg PB 35)) (.stmts (fB (sg PB 35))) (fC (sg PB 35)) 3 [] .none .none .none (.str z27 738) .none (.ref 395) .none 0)) #[])
noncomputable def o_454 : PO := fun v => (.mk (.type k0) .none (.seq #[] 0) #[])
noncomputable def o_455 : PO := fun v => (.mk .none .none (.fields #[]) #[])
noncomputable def o_456 : PO := fun v => (.mk (.type k0) .none (.seq #[(.str z38 803), (.str z39 804), (.str z173 805)] 0) #[])
noncomputable def o_457 : PO := fun v => (.mk (.type k0) .none (.seq #[] 0) #[])
noncomputable def o_458 : PO := fun v => (.mk .none .none (.func (.mk z122 z122 (fA (sg PB 36)) (.stmts (fB (sg PB 36))) (fC (sg PB 36)) 0 [] .none .none .none .none .none .none .none 0)) #[])
noncomputable def o_459 : PO := fun v => (.mk (.type k1) .none (.fields #[(.str z122 800), (.str z122 801), (.str z4 802), (.int 263 0), (.int 3 0), (.int 0 0), (.int 0 0), (.int 3 0), (.ref 397), (.bool .true), (.int 181 0), (.ref 398), .none, (.ref 399), (.ref 400), (.ref 401), (.int 806 0), (.int 263 0), (.str z4 807)]) #[])
noncomputable def o_460 : PO := fun v => (.mk (.type k5) .none (.func (.mk z122 z122 (fA (sg PB 36)) (.stmts (fB (sg PB 36))) (fC (sg PB 36)) 3 [] .none .none .none (.str z27 738) .none (.ref 402) .none 0)) #[])
noncomputable def o_461 : PO := fun v => (.mk (.type k0) .none (.seq #[] 0) #[])
noncomputable def o_462 : PO := fun v => (.mk .none .none (.fields #[]) #[])
noncomputable def o_463 : PO := fun v => (.mk (.type k0) .none (.seq #[(.str z12 812), (.str z138 813), (.str z172 814), (.str z178 815), (.str z179 816)] 0) #[])
noncomputable def o_464 : PO := fun v => (.mk (.type k0) .none (.seq #[] 0) #[])
noncomputable def o_465 : PO := fun v => (.mk .none .none (.func (.mk z32 z32 (fA (sg PB 37)) (.stmts (fB (sg PB 37))) (fC (sg PB 37)) 0 [] .none .none .none .none .none .none .none 0)) #[])
noncomputable def o_466 : PO := fun v => (.mk (.type k1) .none (.fields #[(.str z32 809), (.str z32 810), (.str z4 811), (.int 265 0), (.int 5 0), (.int 0 0), (.int 0 0), (.int 3 0), (.ref 404), (.bool .true), (.int 181 0), (.ref 405), .none, (.ref 406), (.ref 407), (.ref 408), (.int 817 0), (.int 265 0), (.str z4 818)]) #[])
noncomputable def o_467 : PO := fun v => (.mk (.type k5) .none (.func (.mk z32 z32 (fA (sg PB 37)) (.stmts (fB (sg PB 37))) (fC (sg PB 37)) 3 [] .none .none .none (.str z27 738) .none (.ref 409) .none 0)) #[])
noncomputable def o_468 : PO := fun v => (.mk (.type k0) .none (.seq #[] 0) #[])
noncomputable def o_469 : PO := fun v => (.mk .none .none (.fields #[]) #[])
noncomputable def o_470 : PO := fun v => (.mk (.type k0) .none (.seq #[(.str z12 823), (.str z132 824), (.str z133 825)] 0) #[])
noncomputable def o_471 : PO := fun v => (.mk (.type k0) .none (.seq #[] 0) #[])
noncomputable def o_472 : PO := fun v => (.mk .none .none (.func (.mk z123 z123 (fA (sg PB 38)) (.stmts (fB (sg PB 38))) (fC (sg PB 38)) 0 [] .none .none .none .none .none .none .none 0)) #[])
noncomputable def o_473 : PO := fun v => (.mk (.type k1) .none (.fields #[(.str z123 820), (.str z123 821), (.str z4 822), (.int 267 0), (.int 3 0), (.int 0 0), (.int 0 0), (.int 3 0), (.ref 411), (.bool .true), (.int 181 0), (.ref 412), .none, (.ref 413), (.ref 414), (.ref 415), (.int 826 0), (.int 267 0), (.str z4 827)]) #[])
noncomputable def o_474 : PO := fun v => (.mk (.type k5) .none (.func (.mk z123 z123 (fA (sg PB 38)) (.stmts (fB (sg PB 38))) (fC (sg PB 38)) 3 [] .none .none .none (.str z27 738) .none (.ref 416) .none 0)) #[])
noncomputable def o_475 : PO := fun v => (.mk (.type k0) .none (.seq #[] 0) #[])
noncomputable def o_476 : PO := fun v => (.mk .none .none (.fields #[]) #[])
noncomputable def o_477 : PO := fun v => (.mk (.type k0) .none (.seq #[(.str z37 832), (.str z38 833), (.str z39 834), (.str z40 835), (.str z41 836), (.str z42 837)] 0) #[])
noncomputable def o_478 : PO := fun v => (.mk (.type k0) .none (.seq #[] 0) #[])
noncomputable def o_479 : PO := fun v => (.mk .none .none (.func (.mk z26 z26 (fA (sg PB 39)) (.stmts (fB (sg PB 39))) (fC (sg PB 39)) 0 [] .none .none .none .none .none .none .none 0)) #[])
noncomputable def o_480 : PO := fun v => (.mk (.type k1) .none (.fields #[(.str z26 829), (.str z26 830), (.str z4 831), (.int 269 0), (.int 6 0), (.int 0 0), (.int 0 0), (.int 3 0), (.ref 418), (.bool .true), (.int 181 0), (.ref 419), .none, (.ref 420), (.ref 421), (.ref 422), (.int 838 0), (.int 269 0), (.str z4 839)]) #[])
noncomputable def o_481 : PO := fun v => (.mk (.type k5) .none (.func (.mk z26 z26 (fA (sg PB 39)) (.stmts (fB (sg PB 39))) (fC (sg PB 39)) 3 [] .none .none .none (.str z27 738) .none (.ref 423) .none 0)) #[])
noncomputable def o_482 : PO := fun v => (.mk (.type k0) .none (.seq #[] 0) #[])
noncomputable def o_483 : PO := fun v => (.mk .none .none (.fields #[]) #[])
noncomputable def o_484 : PO := fun v => (.mk .none .none (.func (.mk z29 z29 (fA (sg PB 40)) (.stmts (fB (sg PB 40))) (fC (sg PB 40)) 0 [] .none .none .none .none .none .none .none 0)) #[])
noncomputable def o_485 : PO := fun v => (.mk (.type k1) .none (.fields #[(.str z29 841), (.str z29 842), (.str z4 843), (.int 279 0), (.int 6 0), (.int 0 0), (.int 0 0), (.int 3 0), (.ref 425), (.bool .true), (.int 181 0), (.ref 426), .none, .none, .none, (.ref 427), (.int 844 0), (.int 279 0), (.str z4 845)]) #[])
noncomputable def o_486 : PO := fun v => (.mk (.type k5) .none (.func (.mk z29 z29 (fA (sg PB 40)) (.stmts (fB (sg PB 40))) (fC (sg PB 40)) 3 [] .none .none .none (.str z27 738) .none (.ref 428) .none 0)) #[])
noncomputable def o_487 : PO := fun v => (.mk (.type k0) .none (.seq #[] 0) #[])
noncomputable def o_488 : PO := fun v => (.mk .none .none (.fields #[]) #[])
noncomputable def o_489 : PO := fun v => (.mk (.type k0) .none (.seq #[(.str z139 850), (.str z165 851), (.str z138 852), (.str z12 853)] 0) #[])
noncomputable def o_490 : PO := fun v => (.mk (.type k0) .none (.seq #[] 0) #[])
noncomputable def o_491 : PO := fun v => (.mk .none .none (.func (.mk z124 z124 (fA (sg PB 41)) (.stmts (fB (sg PB 41))) (fC (sg PB 41)) 0 [] .none .none .none .none .none .none .none 0)) #[])
noncomputable def o_492 : PO := fun v => (.mk (.type k1) .none (.fields #[(.str z124 847), (.str z124 848), (.str z4 849), (.int 294 0), (.int 3 0), (.int 0 0), (.int 0 0), (.int 3 0), (.ref 430), (.bool .true), (.int 181 0), (.ref 431), .none, (.ref 432), (.ref 433), (.ref 434), (.int 854 0), (.int 294 0), (.str z4 855)]) #[])
noncomputable def o_493 : PO := fun v => (.mk (.type k5) .none (.func (.mk z124 z124 (fA (sg PB 41)) (.stmts (fB (sg PB 41))) (fC (sg PB 41)) 3 [] .none .none .none (.str z27 738) .none (.ref 435) .none 0)) #[])
noncomputable def tree_493 : PT := fun v => (.node (b0 v) (.node (b1 v) (.node (o_410 v) (.node (b7 v) (.node (o_51 v) (.node (o_234 v) (.node (o_101 v) (.node (o_169 v) (.node (o_306 v) .nil .nil) (.node (o_440 v) .nil .nil)) (.node (o_240 v) (.node (o_374 v) .nil .nil) .nil)) (.node (o_135 v) (.node (o_203 v) (.node (o_342 v) .nil .nil) (.node (o_472 v) .nil .nil)) (.node (o_274 v) (.node (o_406 v) .nil .nil) .nil))) (.node (o_85 v) (.node (o_119 v) (.node (o_185 v) (.node (o_324 v) .nil .nil) (.node (o_456 v) .nil .nil)) (.node (o_256 v) (.node (o_390 v) .nil .nil) .nil)) (.node (o_151 v) (.node (o_219 v) (.node (o_358 v) .nil .nil) (.node (o_488 v) .nil .nil)) (.node (o_290 v) (.node (o_424 v) .nil .nil) .nil)))) (.node (o_59 v) (.node (o_77 v) (.node (o_109 v) (.node (o_177 v) (.node (o_314 v) .nil .nil) (.node (o_448 v) .nil .nil)) (.node (o_248 v) (.node (o_382 v) .nil .nil) .nil)) (.node (o_143 v) (.node (o_211 v) (.node (o_350 v) .nil .nil) (.node (o_480 v) .nil .nil)) (.node (o_282 v) (.node (o_416 v) .nil .nil) .nil))) (.node (o_93 v) (.node (o_127 v) (.node (o_195 v) (.node (o_332 v) .nil .nil) (.node (o_464 v) .nil .nil)) (.node (o_266 v) (.node (o_398 v) .nil .nil) .nil)) (.node (o_161 v) (.node (o_227 v) (.node (o_366 v) .nil .nil) .nil) (.node (o_298 v) (.node (o_432 v) .nil .nil) .nil))))) (.node (o_43 v) (.node (o_55 v) (.node (o_73 v) (.node (o_105 v) (.node (o_173 v) (.node (o_310 v) .nil .nil) (.node (o_444 v) .nil .nil)) (.node (o_244 v) (.node (o_378 v) .nil .nil) .nil)) (.node (o_139 v) (.node (o_207 v) (.node (o_346 v) .nil .nil) (.node (o_476 v) .nil .nil)) (.node (o_278 v) (.node (o_412 v) .nil .nil) .nil))) (.node (o_89 v) (.node (o_123 v) (.node (o_191 v) (.node (o_328 v) .nil .nil) (.node (o_460 v) .nil .nil)) (.node (o_260 v) (.node (o_394 v) .nil .nil) .nil)) (.node (o_155 v) (.node (o_223 v) (.node (o_362 v) .nil .nil) (.node (o_492 v) .nil .nil)) (.node (o_294 v) (.node (o_428 v) .nil .nil) .nil)))) (.node (o_63 v) (.node (o_81 v) (.node (o_113 v) (.node (o_181 v) (.node (o_318 v) .nil .nil) (.node (o_452 v) .nil .nil)) (.node (o_252 v) (.node (o_386 v) .nil .nil) .nil)) (.node (o_147 v) (.node (o_215 v) (.node (o_354 v) .nil .nil) (.node (o_484 v) .nil .nil)) (.node (o_286 v) (.node (o_420 v) .nil .nil) .nil))) (.node (o_97 v) (.node (o_131 v) (.node (o_199 v) (.node (o_338 v) .nil .nil) (.node (o_468 v) .nil .nil)) (.node (o_270 v) (.node (o_402 v) .nil .nil) .nil)) (.node (o_165 v) (.node (o_236 v) (.node (o_370 v) .nil .nil) .nil) (.node (o_302 v) (.node (o_436 v) .nil .nil) .nil)))))) (.node (b5 v) (.node (b9 v) (.node (o_53 v) (.node (o_69 v) (.node (o_103 v) (.node (o_171 v) (.node (o_308 v) .nil .nil) (.node (o_442 v) .nil .nil)) (.node (o_242 v) (.node (o_376 v) .nil .nil) .nil)) (.node (o_137 v) (.node (o_205 v) (.node (o_344 v) .nil .nil) (.node (o_474 v) .nil .nil)) (.node (o_276 v) (.node (o_408 v) .nil .nil) .nil))) (.node (o_87 v) (.node (o_121 v) (.node (o_187 v) (.node (o_326 v) .nil .nil) (.node (o_458 v) .nil .nil)) (.node (o_258 v) (.node (o_392 v) .nil .nil) .nil)) (.node (o_153 v) (.node (o_221 v) (.node (o_360 v) .nil .nil) (.node (o_490 v) .nil .nil)) (.node (o_292 v) (.node (o_426 v) .nil .nil) .nil)))) (.node (o_61 v) (.node (o_79 v) (.node (o_111 v) (.node (o_179 v) (.node (o_316 v) .nil .nil) (.node (o_450 v) .nil .nil)) (.node (o_250 v) (.node (o_384 v) .nil .nil) .nil)) (.node (o_145 v) (.node (o_213 v) (.node (o_352 v) .nil .nil) (.node (o_482 v) .nil .nil)) (.node (o_284 v) (.node (o_418 v) .nil .nil) .nil))) (.node (o_95 v) (.node (o_129 v) (.node (o_197 v) (.node (o_334 v) .nil .nil) (.node (o_466 v) .nil .nil)) (.node (o_268 v) (.node (o_400 v) .nil .nil) .nil)) (.node (o_163 v) (.node (o_229 v) (.node (o_368 v) .nil .nil) .nil) (.node (o_300 v) (.node (o_434 v) .nil .nil) .nil))))) (.node (o_45 v) (.node (o_57 v) (.node (o_75 v) (.node (o_107 v) (.node (o_175 v) (.node (o_312 v) .nil .nil) (.node (o_446 v) .nil .nil)) (.node (o_246 v) (.node (o_380 v) .nil .nil) .nil)) (.node (o_141 v) (.node (o_209 v) (.node (o_348 v) .nil .nil) (.node (o_478 v) .nil .nil)) (.node (o_280 v) (.node (o_414 v) .nil .nil) .nil))) (.node (o_91 v) (.node (o_125 v) (.node (o_193 v) (.node (o_330 v) .nil .nil) (.node (o_462 v) .nil .nil)) (.node (o_264 v) (.node (o_396 v) .nil .nil) .nil)) (.node (o_157 v) (.node (o_225 v) (.node (o_364 v) .nil .nil) .nil) (.node (o_296 v) (.node (o_430 v) .nil .nil) .nil)))) (.node (o_65 v) (.node (o_83 v) (.node (o_117 v) (.node (o_183 v) (.node (o_322 v) .nil .nil) (.node (o_454 v) .nil .nil)) (.node (o_254 v) (.node (o_388 v) .nil .nil) .nil)) (.node (o_149 v) (.node (o_217 v) (.node (o_356 v) .nil .nil) (.node (o_486 v) .nil .nil)) (.node (o_288 v) (.node (o_422 v) .nil .nil) .nil))) (.node (o_99 v) (.node (o_133 v) (.node (o_201 v) (.node (o_340 v) .nil .nil) (.node (o_470 v) .nil .nil)) (.node (o_272 v) (.node (o_404 v) .nil .nil) .nil)) (.node (o_167 v) (.node (o_238 v) (.node (o_372 v) .nil .nil) .nil) (.node (o_304 v) (.node (o_438 v) .nil .nil) .nil))))))) (.node (b2 v) (.node (b4 v) (.node (b8 v) (.node (o_52 v) (.node (o_68 v) (.node (o_102 v) (.node (o_170 v) (.node (o_307 v) .nil .nil) (.node (o_441 v) .nil .nil)) (.node (o_241 v) (.node (o_375 v) .nil .nil) .nil)) (.node (o_136 v) (.node (o_204 v) (.node (o_343 v) .nil .nil) (.node (o_473 v) .nil .nil)) (.node (o_275 v) (.node (o_407 v) .nil .nil) .nil))) (.node (o_86 v) (.node (o_120 v) (.node (o_186 v) (.node (o_325 v) .nil .nil) (.node (o_457 v) .nil .nil)) (.node (o_257 v) (.node (o_391 v) .nil .nil) .nil)) (.node (o_152 v) (.node (o_220 v) (.node (o_359 v) .nil .nil) (.node (o_489 v) .nil .nil)) (.node (o_291 v) (.node (o_425 v) .nil .nil) .nil)))) (.node (o_60 v) (.node (o_78 v) (.node (o_110 v) (.node (o_178 v) (.node (o_315 v) .nil .nil) (.node (o_449 v) .nil .nil)) (.node (o_249 v) (.node (o_383 v) .nil .nil) .nil)) (.node (o_144 v) (.node (o_212 v) (.node (o_351 v) .nil .nil) (.node (o_481 v) .nil .nil)) (.node (o_283 v) (.node (o_417 v) .nil .nil) .nil))) (.node (o_94 v) (.node (o_128 v) (.node (o_196 v) (.node (o_333 v) .nil .nil) (.node (o_465 v) .nil .nil)) (.node (o_267 v) (.node (o_399 v) .nil .nil) .nil)) (.node (o_162 v) (.node (o_228 v) (.node (o_367 v) .nil .nil) .nil) (.node (o_299 v) (.node (o_433 v) .nil .nil) .nil))))) (.node (o_411 v) (.node (o_56 v) (.node (o_74 v) (.node (o_106 v) (.node (o_174 v) (.node (o_311 v) .nil .nil) (.node (o_445 v) .nil .nil)) (.node (o_245 v) (.node (o_379 v) .nil .nil) .nil)) (.node (o_140 v) (.node (o_208 v) (.node (o_347 v) .nil .nil) (.node (o_477 v) .nil .nil)) (.node (o_279 v) (.node (o_413 v) .nil .nil) .nil))) (.node (o_90 v) (.node (o_124 v) (.node (o_192 v) (.node (o_329 v) .nil .nil) (.node (o_461 v) .nil .nil)) (.node (o_263 v) (.node (o_395 v) .nil .nil) .nil)) (.node (o_156 v) (.node (o_224 v) (.node (o_363 v) .nil .nil) (.node (o_493 v) .nil .nil)) (.node (o_295 v) (.node (o_429 v) .nil .nil) .nil)))) (.node (o_64 v) (.node (o_82 v) (.node (o_114 v) (.node (o_182 v) (.node (o_319 v) .nil .nil) (.node (o_453 v) .nil .nil)) (.node (o_253 v) (.node (o_387 v) .nil .nil) .nil)) (.node (o_148 v) (.node (o_216 v) (.node (o_355 v) .nil .nil) (.node (o_485 v) .nil .nil)) (.node (o_287 v) (.node (o_421 v) .nil .nil) .nil))) (.node (o_98 v) (.node (o_132 v) (.node (o_200 v) (.node (o_339 v) .nil .nil) (.node (o_469 v) .nil .nil)) (.node (o_271 v) (.node (o_403 v) .nil .nil) .nil)) (.node (o_166 v) (.node (o_237 v) (.node (o_371 v) .nil .nil) .nil) (.node (o_303 v) (.node (o_437 v) .nil .nil) .nil)))))) (.node (b6 v) (.node (b10 v) (.node (o_54 v) (.node (o_70 v) (.node (o_104 v) (.node (o_172 v) (.node (o_309 v) .nil .nil) (.node (o_443 v) .nil .nil)) (.node (o_243 v) (.node (o_377 v) .nil .nil) .nil)) (.node (o_138 v) (.node (o_206 v) (.node (o_345 v) .nil .nil) (.node (o_475 v) .nil .nil)) (.node (o_277 v) (.node (o_409 v) .nil .nil) .nil))) (.node (o_88 v) (.node (o_122 v) (.node (o_188 v) (.node (o_327 v) .nil .nil) (.node (o_459 v) .nil .nil)) (.node (o_259 v) (.node (o_393 v) .nil .nil) .nil)) (.node (o_154 v) (.node (o_222 v) (.node (o_361 v) .nil .nil) (.node (o_491 v) .nil .nil)) (.node (o_293 v) (.node (o_427 v) .nil .nil) .nil)))) (.node (o_62 v) (.node (o_80 v) (.node (o_112 v) (.node (o_180 v) (.node (o_317 v) .nil .nil) (.node (o_451 v) .nil .nil)) (.node (o_251 v) (.node (o_385 v) .nil .nil) .nil)) (.node (o_146 v) (.node (o_214 v) (.node (o_353 v) .nil .nil) (.node (o_483 v) .nil .nil)) (.node (o_285 v) (.node (o_419 v) .nil .nil) .nil))) (.node (o_96 v) (.node (o_130 v) (.node (o_198 v) (.node (o_335 v) .nil .nil) (.node (o_467 v) .nil .nil)) (.node (o_269 v) (.node (o_401 v) .nil .nil) .nil)) (.node (o_164 v) (.node (o_235 v) (.node (o_369 v) .nil .nil) .nil) (.node (o_301 v) (.node (o_435 v) .nil .nil) .nil))))) (.node (o_46 v) (.node (o_58 v) (.node (o_76 v) (.node (o_108 v) (.node (o_176 v) (.node (o_313 v) .nil .nil) (.node (o_447 v) .nil .nil)) (.node (o_247 v) (.node (o_381 v) .nil .nil) .nil)) (.node (o_142 v) (.node (o_210 v) (.node (o_349 v) .nil .nil) (.node (o_479 v) .nil .nil)) (.node (o_281 v) (.node (o_415 v) .nil .nil) .nil))) (.node (o_92 v) (.node (o_126 v) (.node (o_194 v) (.node (o_331 v) .nil .nil) (.node (o_463 v) .nil .nil)) (.node (o_265 v) (.node (o_397 v) .nil .nil) .nil)) (.node (o_158 v) (.node (o_226 v) (.node (o_365 v) .nil .nil) .nil) (.node (o_297 v) (.node (o_431 v) .nil .nil) .nil)))) (.node (o_66 v) (.node (o_84 v) (.node (o_118 v) (.node (o_184 v) (.node (o_323 v) .nil .nil) (.node (o_455 v) .nil .nil)) (.node (o_255 v) (.node (o_389 v) .nil .nil) .nil)) (.node (o_150 v) (.node (o_218 v) (.node (o_357 v) .nil .nil) (.node (o_487 v) .nil .nil)) (.node (o_289 v) (.node (o_423 v) .nil .nil) .nil))) (.node (o_100 v) (.node (o_134 v) (.node (o_202 v) (.node (o_341 v) .nil .nil) (.node (o_471 v) .nil .nil)) (.node (o_273 v) (.node (o_405 v) .nil .nil) .nil)) (.node (o_168 v) (.node (o_239 v) (.node (o_373 v) .nil .nil) .nil) (.node (o_305 v) (.node (o_439 v) .nil .nil) .nil))))))))
noncomputable def o_494 : PO := fun v => (.mk (.type k3) .none (.dict #[(de v z43 165 (.str z27 738)), (de v z24 166 .none), (de v z44 167 .none), (de v z45 168 (.builtin k4)), (de v z46 169 .none), (de v z47 170 (.ref 6)), (de v z48 171 (.ref 4)), (de v z49 173 (.str z4 172)), (de v z50 174 .none), (de v z9 193 (.ref 21)), (de v z51 197 (.int 12 196)), (de v z52 199 (.int 4 198)), (de v z53 201 (.int 16 200)), (de v z54 219 (.ref 31)), (de v z55 283 (.ref 72)), (de v z56 354 (.ref 114)), (de v z57 358 (.int 128 357)), (de v z58 384 (.ref 128)), (de v z59 396 (.ref 139)), (de v z34 403 (.ref 146)), (de v z31 431 (.ref 156)), (de v z60 438 (.ref 167)), (de v z25 450 (.ref 174)), (de v z33 460 (.ref 181)), (de v z61 473 (.ref 182)), (de v z62 475 (.int 4865 474)), (de v z63 477 (.bytes #[56, 118, 44, 247, 245, 89, 52, 179, 77, 23, 154, 230, 164, 200, 12, 173, 204, 187, 127, 10] 476)), (de v z64 479 (.bytes #[13, 237, 227, 222, 247, 0, 166, 219, 129, 147, 129, 190, 110, 38, 157, 203, 249, 189, 46, 217] 478)), (de v z65 486 (.ref 192)), (de v z66 502 (.ref 202)), (de v z67 514 (.ref 211)), (de v z68 612 (.ref 264)), (de v z90 621 (.ref 275)), (de v z91 631 (.ref 282)), (de v z118 737 (.ref 350)), (de v z69 749 (.ref 361)), (de v z119 758 (.ref 368)), (de v z120 766 (.ref 375)), (de v z0 775 (.ref 382)), (de v z114 787 (.ref 389)), (de v z121 799 (.ref 396)), (de v z122 808 (.ref 403)), (de v z32 819 (.ref 410)), (de v z123 828 (.ref 417)), (de v z26 840 (.ref 424)), (de v z29 846 (.ref 429)), (de v z124 856 (.ref 436)), (de v z125 866 (.ref 443)), (de v z98 881 (.ref 450)), (de v z89 887 (.ref 455))] 50) #[])
noncomputable def o_495 : PO := fun v => (.mk .none .none (.fields #[(.int 1 0), (.int 0 0), (.ref 20), (.int 8 0), (.int 0 0), (.ref 27), (.int 10 0), (.int 0 0), (.ref 40), (.int 33 0), (.int 0 0), (.ref 82), (.int 77 0), (.int 0 0), (.ref 124), (.int 81 0), (.int 0 0), (.ref 138), (.int 91 0), (.int 0 0), (.ref 145), (.int 94 0), (.int 0 0), (.ref 152), (.int 98 0), (.int 0 0), (.ref 166), (.int 102 0), (.int 0 0), (.ref 173), (.int 104 0), (.int 0 0), (.ref 180), (.int 110 0), (.int 0 0), (.ref 191), (.int 112 0), (.int 0 0), (.ref 198), (.int 114 0), (.int 0 0), (.ref 210), (.int 124 0), (.int 0 0), (.ref 217), (.int 172 0), (.int 0 0), (.ref 274), (.int 177 0), (.int 0 0), (.ref 281), (.int 186 0), (.int 0 0), (.ref 288), (.int 238 0), (.int 0 0), (.ref 360), (.int 245 0), (.int 0 0), (.ref 367), (.int 248 0), (.int 0 0), (.ref 374), (.int 250 0), (.int 0 0), (.ref 381), (.int 255 0), (.int 0 0), (.ref 388), (.int 258 0), (.int 0 0), (.ref 395), (.int 263 0), (.int 0 0), (.ref 402), (.int 265 0), (.int 0 0), (.ref 409), (.int 267 0), (.int 0 0), (.ref 416), (.int 269 0), (.int 0 0), (.ref 423), (.int 279 0), (.int 0 0), (.ref 428), (.int 294 0), (.int 0 0), (.ref 435), (.int 297 0), (.int 0 0), (.ref 442), (.int 300 0), (.int 0 0), (.ref 449), (.int 316 0), (.int 0 0), (.ref 454)]) #[])
noncomputable def o_496 : PO := fun v => (.mk (.type k0) .none (.seq #[] 0) #[])
noncomputable def o_497 : PO := fun v => (.mk .none .none (.fields #[]) #[])
noncomputable def o_498 : PO := fun v => (.mk (.type k0) .none (.seq #[(.str z139 860), (.str z181 861), (.str z172 862), (.str z132 863)] 0) #[])
noncomputable def o_499 : PO := fun v => (.mk (.type k0) .none (.seq #[] 0) #[])
noncomputable def o_500 : PO := fun v => (.mk .none .none (.func (.mk z125 z125 (fA (sg PB 42)) (.stmts (fB (sg PB 42))) (fC (sg PB 42)) 0 [] .none .none .none .none .none .none .none 0)) #[])
noncomputable def o_501 : PO := fun v => (.mk (.type k1) .none (.fields #[(.str z125 857), (.str z125 858), (.str z4 859), (.int 297 0), (.int 3 0), (.int 0 0), (.int 0 0), (.int 3 0), (.ref 437), (.bool .true), (.int 181 0), (.ref 438), .none, (.ref 439), (.ref 440), (.ref 441), (.int 864 0), (.int 297 0), (.str z4 865)]) #[])
noncomputable def o_502 : PO := fun v => (.mk (.type k5) .none (.func (.mk z125 z125 (fA (sg PB 42)) (.stmts (fB (sg PB 42))) (fC (sg PB 42)) 3 [] .none .none .none (.str z27 738) .none (.ref 442) .none 0)) #[])
noncomputable def o_503 : PO := fun v => (.mk (.type k0) .none (.seq #[] 0) #[])
noncomputable def o_504 : PO := fun v => (.mk .none .none (.fields #[]) #[])
noncomputable def o_505 : PO := fun v => (.mk (.type k0) .none (.seq #[(.str z11 870), (.str z139 871), (.str z180 872), (.str z181 873), (.str z165 874), (.str z182 875), (.str z183 876), (.str z12 877), (.str z99 878)] 0) #[])
noncomputable def o_506 : PO := fun v => (.mk (.type k0) .none (.seq #[] 0) #[])
noncomputable def o_507 : PO := fun v => (.mk .none .none (.func (.mk z98 z98 (fA (sg PB 43)) (.stmts (fB (sg PB 43))) (fC (sg PB 43)) 0 [] .none .none .none .none .none .none .none 0)) #[])
noncomputable def o_508 : PO := fun v => (.mk (.type k1) .none (.fields #[(.str z98 867), (.str z98 868), (.str z4 869), (.int 300 0), (.int 1 0), (.int 0 0), (.int 0 0), (.int 3 0), (.ref 444), (.bool .true), (.int 181 0), (.ref 445), .none, (.ref 446), (.ref 447), (.ref 448), (.int 879 0), (.int 300 0), (.str z4 880)]) #[])
noncomputable def o_509 : PO := fun v => (.mk (.type k5) .none (.func (.mk z98 z98 (fA (sg PB 43)) (.stmts (fB (sg PB 43))) (fC (sg PB 43)) 3 [] .none .none .none (.str z27 738) .none (.ref 449) .none 0)) #[])
noncomputable def o_510 : PO := fun v => (.mk (.type k0) .none (.seq #[] 0) #[])
noncomputable def o_511 : PO := fun v => (.mk .none .none (.fields #[]) #[])
noncomputable def o_512 : PO := fun v => (.mk .none .none (.func (.mk z89 z89 (fA (sg PB 44)) (.stmts (fB (sg PB 44))) (fC (sg PB 44)) 0 [] .none .none .none .none .none .none .none 0)) #[])
noncomputable def o_513 : PO := fun v => (.mk (.type k1) .none (.fields #[(.str z89 882), (.str z89 883), (.str z4 884), (.int 316 0), (.int 1 0), (.int 0 0), (.int 0 0), (.int 3 0), (.ref 451), (.bool .true), (.int 181 0), (.ref 452), .none, .none, .none, (.ref 453), (.int 885 0), (.int 316 0), (.str z4 886)]) #[])
noncomputable def o_514 : PO := fun v => (.mk (.type k5) .none (.func (.mk z89 z89 (fA (sg PB 44)) (.stmts (fB (sg PB 44))) (fC (sg PB 44)) 3 [] .none .none .none (.str z27 738) .none (.ref 454) .none 0)) #[])
noncomputable def tree_514 : PT := fun v => (.node (b0 v) (.node (b1 v) (.node (o_494 v) (.node (b7 v) (.node (o_51 v) (.node (o_234 v) (.node (o_101 v) (.node (o_169 v) (.node (o_306 v) .nil .nil) (.node (o_440 v) .nil .nil)) (.node (o_240 v) (.node (o_374 v) .nil .nil) (.node (o_506 v) .nil .nil))) (.node (o_135 v) (.node (o_203 v) (.node (o_342 v) .nil .nil) (.node (o_472 v) .nil .nil)) (.node (o_274 v) (.node (o_406 v) .nil .nil) .nil))) (.node (o_85 v) (.node (o_119 v) (.node (o_185 v) (.node (o_324 v) .nil .nil) (.node (o_456 v) .nil .nil)) (.node (o_256 v) (.node (o_390 v) .nil .nil) .nil)) (.node (o_151 v) (.node (o_219 v) (.node (o_358 v) .nil .nil) (.node (o_488 v) .nil .nil)) (.node (o_290 v) (.node (o_424 v) .nil .nil) .nil)))) (.node (o_59 v) (.node (o_77 v) (.node (o_109 v) (.node (o_177 v) (.node (o_314 v) .nil .nil) (.node (o_448 v) .nil .nil)) (.node (o_248 v) (.node (o_382 v) .nil .nil) (.node (o_514 v) .nil .nil))) (.node (o_143 v) (.node (o_211 v) (.node (o_350 v) .nil .nil) (.node (o_480 v) .nil .nil)) (.node (o_282 v) (.node (o_416 v) .nil .nil) .nil))) (.node (o_93 v) (.node (o_127 v) (.node (o_195 v) (.node (o_332 v) .nil .nil) (.node (o_464 v) .nil .nil)) (.node (o_266 v) (.node (o_398 v) .nil .nil) .nil)) (.node (o_161 v) (.node (o_227 v) (.node (o_366 v) .nil .nil) (.node (o_498 v) .nil .nil)) (.node (o_298 v) (.node (o_432 v) .nil .nil) .nil))))) (.node (o_43 v) (.node (o_55 v) (.node (o_73 v) (.node (o_105 v) (.node (o_173 v) (.node (o_310 v) .nil .nil) (.node (o_444 v) .nil .nil)) (.node (o_244 v) (.node (o_378 v) .nil .nil) (.node (o_510 v) .nil .nil))) (.node (o_139 v) (.node (o_207 v) (.node (o_346 v) .nil .nil) (.node (o_476 v) .nil .nil)) (.node (o_278 v) (.node (o_412 v) .nil .nil) .nil))) (.node (o_89 v) (.node (o_123 v) (.node (o_191 v) (.node (o_328 v) .nil .nil) (.node (o_460 v) .nil .nil)) (.node (o_260 v) (.node (o_394 v) .nil .nil) .nil)) (.node (o_155 v) (.node (o_223 v) (.node (o_362 v) .nil .nil) (.node (o_492 v) .nil .nil)) (.node (o_294 v) (.node (o_428 v) .nil .nil) .nil)))) (.node (o_63 v) (.node (o_81 v) (.node (o_113 v) (.node (o_181 v) (.node (o_318 v) .nil .nil) (.node (o_452 v) .nil .nil)) (.node (o_252 v) (.node (o_386 v) .nil .nil) .nil)) (.node (o_147 v) (.node (o_215 v) (.node (o_354 v) .nil .nil) (.node (o_484 v) .nil .nil)) (.node (o_286 v) (.node (o_420 v) .nil .nil) .nil))) (.node (o_97 v) (.node (o_131 v) (.node (o_199 v) (.node (o_338 v) .nil .nil) (.node (o_468 v) .nil .nil)) (.node (o_270 v) (.node (o_402 v) .nil .nil) .nil)) (.node (o_165 v) (.node (o_236 v) (.node (o_370 v) .nil .nil) (.node (o_502 v) .nil .nil)) (.node (o_302 v) (.node (o_436 v) .nil .nil) .nil)))))) (.node (b5 v) (.node (b9 v) (.node (o_53 v) (.node (o_69 v) (.node (o_103 v) (.node (o_171 v) (.node (o_308 v) .nil .nil) (.node (o_442 v) .nil .nil)) (.node (o_242 v) (.node (o_376 v) .nil .nil) (.node (o_508 v) .nil .nil))) (.node (o_137 v) (.node (o_205 v) (.node (o_344 v) .nil .nil) (.node (o_474 v) .nil .nil)) (.node (o_276 v) (.node (o_408 v) .nil .nil) .nil))) (.node (o_87 v) (.node (o_121 v) (.node (o_187 v) (.node (o_326 v) .nil .nil) (.node (o_458 v) .nil .nil)) (.node (o_258 v) (.node (o_392 v) .nil .nil) .nil)) (.node (o_153 v) (.node (o_221 v) (.node (o_360 v) .nil .nil) (.node (o_490 v) .nil .nil)) (.node (o_292 v) (.node (o_426 v) .nil .nil) .nil)))) (.node (o_61 v) (.node (o_79 v) (.node (o_111 v) (.node (o_179 v) (.node (o_316 v) .nil .nil) (.node (o_450 v) .nil .nil)) (.node (o_250 v) (.node (o_384 v) .nil .nil) .nil)) (.node (o_145 v) (.node (o_213 v) (.node (o_352 v) .nil .nil) (.node (o_482 v) .nil .nil)) (.node (o_284 v) (.node (o_418 v) .nil .nil) .nil))) (.node (o_95 v) (.node (o_129 v) (.node (o_197 v) (.node (o_334 v) .nil .nil) (.node (o_466 v) .nil .nil)) (.node (o_268 v) (.node (o_400 v) .nil .nil) .nil)) (.node (o_163 v) (.node (o_229 v) (.node (o_368 v) .nil .nil) (.node (o_500 v) .nil .nil)) (.node (o_300 v) (.node (o_434 v) .nil .nil) .nil))))) (.node (o_45 v) (.node (o_57 v) (.node (o_75 v) (.node (o_107 v) (.node (o_175 v) (.node (o_312 v) .nil .nil) (.node (o_446 v) .nil .nil)) (.node (o_246 v) (.node (o_380 v) .nil .nil) (.node (o_512 v) .nil .nil))) (.node (o_141 v) (.node (o_209 v) (.node (o_348 v) .nil .nil) (.node (o_478 v) .nil .nil)) (.node (o_280 v) (.node (o_414 v) .nil .nil) .nil))) (.node (o_91 v) (.node (o_125 v) (.node (o_193 v) (.node (o_330 v) .nil .nil) (.node (o_462 v) .nil .nil)) (.node (o_264 v) (.node (o_396 v) .nil .nil) .nil)) (.node (o_157 v) (.node (o_225 v) (.node (o_364 v) .nil .nil) (.node (o_496 v) .nil .nil)) (.node (o_296 v) (.node (o_430 v) .nil .nil) .nil)))) (.node (o_65 v) (.node (o_83 v) (.node (o_117 v) (.node (o_183 v) (.node (o_322 v) .nil .nil) (.node (o_454 v) .nil .nil)) (.node (o_254 v) (.node (o_388 v) .nil .nil) .nil)) (.node (o_149 v) (.node (o_217 v) (.node (o_356 v) .nil .nil) (.node (o_486 v) .nil .nil)) (.node (o_288 v) (.node (o_422 v) .nil .nil) .nil))) (.node (o_99 v) (.node (o_133 v) (.node (o_201 v) (.node (o_340 v) .nil .nil) (.node (o_470 v) .nil .nil)) (.node (o_272 v) (.node (o_404 v) .nil .nil) .nil)) (.node (o_167 v) (.node (o_238 v) (.node (o_372 v) .nil .nil) (.node (o_504 v) .nil .nil)) (.node (o_304 v) (.node (o_438 v) .nil .nil) .nil))))))) (.node (b2 v) (.node (b4 v) (.node (b8 v) (.node (o_52 v) (.node (o_68 v) (.node (o_102 v) (.node (o_170 v) (.node (o_307 v) .nil .nil) (.node (o_441 v) .nil .nil)) (.node (o_241 v) (.node (o_375 v) .nil .nil) (.node (o_507 v) .nil .nil))) (.node (o_136 v) (.node (o_204 v) (.node (o_343 v) .nil .nil) (.node (o_473 v) .nil .nil)) (.node (o_275 v) (.node (o_407 v) .nil .nil) .nil))) (.node (o_86 v) (.node (o_120 v) (.node (o_186 v) (.node (o_325 v) .nil .nil) (.node (o_457 v) .nil .nil)) (.node (o_257 v) (.node (o_391 v) .nil .nil) .nil)) (.node (o_152 v) (.node (o_220 v) (.node (o_359 v) .nil .nil) (.node (o_489 v) .nil .nil)) (.node (o_291 v) (.node (o_425 v) .nil .nil) .nil)))) (.node (o_60 v) (.node (o_78 v) (.node (o_110 v) (.node (o_178 v) (.node (o_315 v) .nil .nil) (.node (o_449 v) .nil .nil)) (.node (o_249 v) (.node (o_383 v) .nil .nil) .nil)) (.node (o_144 v) (.node (o_212 v) (.node (o_351 v) .nil .nil) (.node (o_481 v) .nil .nil)) (.node (o_283 v) (.node (o_417 v) .nil .nil) .nil))) (.node (o_94 v) (.node (o_128 v) (.node (o_196 v) (.node (o_333 v) .nil .nil) (.node (o_465 v) .nil .nil)) (.node (o_267 v) (.node (o_399 v) .nil .nil) .nil)) (.node (o_162 v) (.node (o_228 v) (.node (o_367 v) .nil .nil) (.node (o_499 v) .nil .nil)) (.node (o_299 v) (.node (o_433 v) .nil .nil) .nil))))) (.node (o_495 v) (.node (o_56 v) (.node (o_74 v) (.node (o_106 v) (.node (o_174 v) (.node (o_311 v) .nil .nil) (.node (o_445 v) .nil .nil)) (.node (o_245 v) (.node (o_379 v) .nil .nil) (.node (o_511 v) .nil .nil))) (.node (o_140 v) (.node (o_208 v) (.node (o_347 v) .nil .nil) (.node (o_477 v) .nil .nil)) (.node (o_279 v) (.node (o_413 v) .nil .nil) .nil))) (.node (o_90 v) (.node (o_124 v) (.node (o_192 v) (.node (o_329 v) .nil .nil) (.node (o_461 v) .nil .nil)) (.node (o_263 v) (.node (o_395 v) .nil .nil) .nil)) (.node (o_156 v) (.node (o_224 v) (.node (o_363 v) .nil .nil) (.node (o_493 v) .nil .nil)) (.node (o_295 v) (.node (o_429 v) .nil .nil) .nil)))) (.node (o_64 v) (.node (o_82 v) (.node (o_114 v) (.node (o_182 v) (.node (o_319 v) .nil .nil) (.node (o_453 v) .nil .nil)) (.node (o_253 v) (.node (o_387 v) .nil .nil) .nil)) (.node (o_148 v) (.node (o_216 v) (.node (o_355 v) .nil .nil) (.node (o_485 v) .nil .nil)) (.node (o_287 v) (.node (o_421 v) .nil .nil) .nil))) (.node (o_98 v) (.node (o_132 v) (.node (o_200 v) (.node (o_339 v) .nil .nil) (.node (o_469 v) .nil .nil)) (.node (o_271 v) (.node (o_403 v) .nil .nil) .nil)) (.node (o_166 v) (.node (o_237 v) (.node (o_371 v) .nil .nil) (.node (o_503 v) .nil .nil)) (.node (o_303 v) (.node (o_437 v) .nil .nil) .nil)))))) (.node (b6 v) (.node (b10 v) (.node (o_54 v) (.node (o_70 v) (.node (o_104 v) (.node (o_172 v) (.node (o_309 v) .nil .nil) (.node (o_443 v) .nil .nil)) (.node (o_243 v) (.node (o_377 v) .nil .nil) (.node (o_509 v) .nil .nil))) (.node (o_138 v) (.node (o_206 v) (.node (o_345 v) .nil .nil) (.node (o_475 v) .nil .nil)) (.node (o_277 v) (.node (o_409 v) .nil .nil) .nil))) (.node (o_88 v) (.node (o_122 v) (.node (o_188 v) (.node (o_327 v) .nil .nil) (.node (o_459 v) .nil .nil)) (.node (o_259 v) (.node (o_393 v) .nil .nil) .nil)) (.node (o_154 v) (.node (o_222 v) (.node (o_361 v) .nil .nil) (.node (o_491 v) .nil .nil)) (.node (o_293 v) (.node (o_427 v) .nil .nil) .nil)))) (.node (o_62 v) (.node (o_80 v) (.node (o_112 v) (.node (o_180 v) (.node (o_317 v) .nil .nil) (.node (o_451 v) .nil .nil)) (.node (o_251 v) (.node (o_385 v) .nil .nil) .nil)) (.node (o_146 v) (.node (o_214 v) (.node (o_353 v) .nil .nil) (.node (o_483 v) .nil .nil)) (.node (o_285 v) (.node (o_419 v) .nil .nil) .nil))) (.node (o_96 v) (.node (o_130 v) (.node (o_198 v) (.node (o_335 v) .nil .nil) (.node (o_467 v) .nil .nil)) (.node (o_269 v) (.node (o_401 v) .nil .nil) .nil)) (.node (o_164 v) (.node (o_235 v) (.node (o_369 v) .nil .nil) (.node (o_501 v) .nil .nil)) (.node (o_301 v) (.node (o_435 v) .nil .nil) .nil))))) (.node (o_46 v) (.node (o_58 v) (.node (o_76 v) (.node (o_108 v) (.node (o_176 v) (.node (o_313 v) .nil .nil) (.node (o_447 v) .nil .nil)) (.node (o_247 v) (.node (o_381 v) .nil .nil) (.node (o_513 v) .nil .nil))) (.node (o_142 v) (.node (o_210 v) (.node (o_349 v) .nil .nil) (.node (o_479 v) .nil .nil)) (.node (o_281 v) (.node (o_415 v) .nil .nil) .nil))) (.node (o_92 v) (.node (o_126 v) (.node (o_194 v) (.node (o_331 v) .nil .nil) (.node (o_463 v) .nil .nil)) (.node (o_265 v) (.node (o_397 v) .nil .nil) .nil)) (.node (o_158 v) (.node (o_226 v) (.node (o_365 v) .nil .nil) (.node (o_497 v) .nil .nil)) (.node (o_297 v) (.node (o_431 v) .nil .nil) .nil)))) (.node (o_66 v) (.node (o_84 v) (.node (o_118 v) (.node (o_184 v) (.node (o_323 v) .nil .nil) (.node (o_455 v) .nil .nil)) (.node (o_255 v) (.node (o_389 v) .nil .nil) .nil)) (.node (o_150 v) (.node (o_218 v) (.node (o_357 v) .nil .nil) (.node (o_487 v) .nil .nil)) (.node (o_289 v) (.node (o_423 v) .nil .nil) .nil))) (.node (o_100 v) (.node (o_134 v) (.node (o_202 v) (.node (o_341 v) .nil .nil) (.node (o_471 v) .nil .nil)) (.node (o_273 v) (.node (o_405 v) .nil .nil) .nil)) (.node (o_168 v) (.node (o_239 v) (.node (o_373 v) .nil .nil) (.node (o_505 v) .nil .nil)) (.node (o_305 v) (.node (o_439 v) .nil .nil) .nil))))))))
noncomputable def env_41 : Env := (.mk (@PySem.Module.scope (@PySem.Program.main ((@PySem.W.OpenRow.toRowW (@PySem.W.Fast.tw2368527892694137696 PySem.Challenge.rw_ja0003_02))).1)) @PySem.mainNs @PySem.mainNs [] @PySem.Str.empty .none (.ref 13) (.some 14) 0)
noncomputable def sts_115 : List Stmt := [(sg PB 7), (sg PB 8), (sg PB 9)]
noncomputable def sts_159 : List Stmt := [(sg PB 10), (sg PB 11), (sg PB 12), (sg PB 13)]
noncomputable def sts_189 : List Stmt := [(sg PB 14), (sg PB 15), (sg PB 16), (sg PB 17), (sg PB 18), (sg PB 19), (sg PB 20), (sg PB 21)]
noncomputable def sts_232 : List Stmt := [(sg PB 22), (sg PB 23), (sg PB 24)]
noncomputable def sts_261 : List Stmt := [(sg PB 25)]
noncomputable def sts_320 : List Stmt := [(sg PB 26), (sg PB 27)]
noncomputable def sts_336 : List Stmt := [(sg PB 28)]
noncomputable def sts_410 : List Stmt := [(sg PB 29), (sg PB 30), (sg PB 31), (sg PB 32), (sg PB 33), (sg PB 34), (sg PB 35), (sg PB 36), (sg PB 37), (sg PB 38), (sg PB 39), (sg PB 40), (sg PB 41)]
noncomputable def sts_49 : List Stmt := [(sg PB 0), (sg PB 1), (sg PB 2), (sg PB 3), (sg PB 4), (sg PB 5)]
noncomputable def sts_494 : List Stmt := [(sg PB 42), (sg PB 43), (sg PB 44)]
noncomputable def sts_71 : List Stmt := [(sg PB 6)]
noncomputable def heap_46 : Params → Heap := (fun (v0 : @PySem.Params) => (.mk (.mk [(@PySem.W.boot_o_0 v0), (@PySem.W.boot_o_1 v0), (@PySem.W.boot_o_2 v0), (@PySem.W.boot_o_3 v0), (@PySem.W.boot_o_4 v0), (@PySem.W.boot_o_5 v0), (@PySem.W.boot_o_6 v0), (@PySem.W.boot_o_7 v0), (@PySem.W.boot_o_8 v0), (@PySem.W.boot_o_9 v0), (@PySem.W.boot_o_10 v0), (o_43 v0), (o_44 v0), (o_45 v0), (o_46 v0)]) (.mk [] [] [] 0 [] [] .false #[] [] 0 .false .false .false 0 [2000, 10, 10] .false 0 .true [] [] 0 .false)))
noncomputable def heap_515 : Params → Heap := (fun (v0 : @PySem.Params) => (.mk (.mk [(@PySem.W.boot_o_0 v0), (@PySem.W.boot_o_1 v0), (@PySem.W.boot_o_2 v0), (o_494 v0), (@PySem.W.boot_o_4 v0), (@PySem.W.boot_o_5 v0), (@PySem.W.boot_o_6 v0), (@PySem.W.boot_o_7 v0), (@PySem.W.boot_o_8 v0), (@PySem.W.boot_o_9 v0), (@PySem.W.boot_o_10 v0), (o_43 v0), (o_495 v0), (o_45 v0), (o_46 v0), (o_51 v0), (o_52 v0), (o_53 v0), (o_54 v0), (o_55 v0), (o_56 v0), (o_57 v0), (o_58 v0), (o_59 v0), (o_60 v0), (o_61 v0), (o_62 v0), (o_63 v0), (o_64 v0), (o_65 v0), (o_66 v0), (o_234 v0), (o_68 v0), (o_69 v0), (o_70 v0), (o_73 v0), (o_74 v0), (o_75 v0), (o_76 v0), (o_77 v0), (o_78 v0), (o_79 v0), (o_80 v0), (o_81 v0), (o_82 v0), (o_83 v0), (o_84 v0), (o_85 v0), (o_86 v0), (o_87 v0), (o_88 v0), (o_89 v0), (o_90 v0), (o_91 v0), (o_92 v0), (o_93 v0), (o_94 v0), (o_95 v0), (o_96 v0), (o_97 v0), (o_98 v0), (o_99 v0), (o_100 v0), (o_101 v0), (o_102 v0), (o_103 v0), (o_104 v0), (o_105 v0), (o_106 v0), (o_107 v0), (o_108 v0), (o_109 v0), (o_110 v0), (o_111 v0), (o_112 v0), (o_113 v0), (o_114 v0), (o_117 v0), (o_118 v0), (o_119 v0), (o_120 v0), (o_121 v0), (o_122 v0), (o_123 v0), (o_124 v0), (o_125 v0), (o_126 v0), (o_127 v0), (o_128 v0), (o_129 v0), (o_130 v0), (o_131 v0), (o_132 v0), (o_133 v0), (o_134 v0), (o_135 v0), (o_136 v0), (o_137 v0), (o_138 v0), (o_139 v0), (o_140 v0), (o_141 v0), (o_142 v0), (o_143 v0), (o_144 v0), (o_145 v0), (o_146 v0), (o_147 v0), (o_148 v0), (o_149 v0), (o_150 v0), (o_151 v0), (o_152 v0), (o_153 v0), (o_154 v0), (o_155 v0), (o_156 v0), (o_157 v0), (o_158 v0), (o_161 v0), (o_162 v0), (o_163 v0), (o_164 v0), (o_165 v0), (o_166 v0), (o_167 v0), (o_168 v0), (o_169 v0), (o_170 v0), (o_171 v0), (o_172 v0), (o_173 v0), (o_174 v0), (o_175 v0), (o_176 v0), (o_177 v0), (o_178 v0), (o_179 v0), (o_180 v0), (o_181 v0), (o_182 v0), (o_183 v0), (o_184 v0), (o_185 v0), (o_186 v0), (o_187 v0), (o_188 v0), (o_191 v0), (o_192 v0), (o_193 v0), (o_194 v0), (o_195 v0), (o_196 v0), (o_197 v0), (o_198 v0), (o_199 v0), (o_200 v0), (o_201 v0), (o_202 v0), (o_203 v0), (o_204 v0), (o_205 v0), (o_206 v0), (o_207 v0), (o_208 v0), (o_209 v0), (o_210 v0), (o_211 v0), (o_212 v0), (o_213 v0), (o_214 v0), (o_215 v0), (o_216 v0), (o_217 v0), (o_218 v0), (o_219 v0), (o_220 v0), (o_221 v0), (o_222 v0), (o_223 v0), (o_224 v0), (o_225 v0), (o_226 v0), (o_227 v0), (o_228 v0), (o_229 v0), (o_235 v0), (o_236 v0), (o_237 v0), (o_238 v0), (o_239 v0), (o_240 v0), (o_241 v0), (o_242 v0), (o_243 v0), (o_244 v0), (o_245 v0), (o_246 v0), (o_247 v0), (o_248 v0), (o_249 v0), (o_250 v0), (o_251 v0), (o_252 v0), (o_253 v0), (o_254 v0), (o_255 v0), (o_256 v0), (o_257 v0), (o_258 v0), (o_259 v0), (o_260 v0), (o_263 v0), (o_264 v0), (o_265 v0), (o_266 v0), (o_267 v0), (o_268 v0), (o_269 v0), (o_270 v0), (o_271 v0), (o_272 v0), (o_273 v0), (o_274 v0), (o_275 v0), (o_276 v0), (o_277 v0), (o_278 v0), (o_279 v0), (o_280 v0), (o_281 v0), (o_282 v0), (o_283 v0), (o_284 v0), (o_285 v0), (o_286 v0), (o_287 v0), (o_288 v0), (o_289 v0), (o_290 v0), (o_291 v0), (o_292 v0), (o_293 v0), (o_294 v0), (o_295 v0), (o_296 v0), (o_297 v0), (o_298 v0), (o_299 v0), (o_300 v0), (o_301 v0), (o_302 v0), (o_303 v0), (o_304 v0), (o_305 v0), (o_306 v0), (o_307 v0), (o_308 v0), (o_309 v0), (o_310 v0), (o_311 v0), (o_312 v0), (o_313 v0), (o_314 v0), (o_315 v0), (o_316 v0), (o_317 v0), (o_318 v0), (o_319 v0), (o_322 v0), (o_323 v0), (o_324 v0), (o_325 v0), (o_326 v0), (o_327 v0), (o_328 v0), (o_329 v0), (o_330 v0), (o_331 v0), (o_332 v0), (o_333 v0), (o_334 v0), (o_335 v0), (o_338 v0), (o_339 v0), (o_340 v0), (o_341 v0), (o_342 v0), (o_343 v0), (o_344 v0), (o_345 v0), (o_346 v0), (o_347 v0), (o_348 v0), (o_349 v0), (o_350 v0), (o_351 v0), (o_352 v0), (o_353 v0), (o_354 v0), (o_355 v0), (o_356 v0), (o_357 v0), (o_358 v0), (o_359 v0), (o_360 v0), (o_361 v0), (o_362 v0), (o_363 v0), (o_364 v0), (o_365 v0), (o_366 v0), (o_367 v0), (o_368 v0), (o_369 v0), (o_370 v0), (o_371 v0), (o_372 v0), (o_373 v0), (o_374 v0), (o_375 v0), (o_376 v0), (o_377 v0), (o_378 v0), (o_379 v0), (o_380 v0), (o_381 v0), (o_382 v0), (o_383 v0), (o_384 v0), (o_385 v0), (o_386 v0), (o_387 v0), (o_388 v0), (o_389 v0), (o_390 v0), (o_391 v0), (o_392 v0), (o_393 v0), (o_394 v0), (o_395 v0), (o_396 v0), (o_397 v0), (o_398 v0), (o_399 v0), (o_400 v0), (o_401 v0), (o_402 v0), (o_403 v0), (o_404 v0), (o_405 v0), (o_406 v0), (o_407 v0), (o_408 v0), (o_409 v0), (o_412 v0), (o_413 v0), (o_414 v0), (o_415 v0), (o_416 v0), (o_417 v0), (o_418 v0), (o_419 v0), (o_420 v0), (o_421 v0), (o_422 v0), (o_423 v0), (o_424 v0), (o_425 v0), (o_426 v0), (o_427 v0), (o_428 v0), (o_429 v0), (o_430 v0), (o_431 v0), (o_432 v0), (o_433 v0), (o_434 v0), (o_435 v0), (o_436 v0), (o_437 v0), (o_438 v0), (o_439 v0), (o_440 v0), (o_441 v0), (o_442 v0), (o_443 v0), (o_444 v0), (o_445 v0), (o_446 v0), (o_447 v0), (o_448 v0), (o_449 v0), (o_450 v0), (o_451 v0), (o_452 v0), (o_453 v0), (o_454 v0), (o_455 v0), (o_456 v0), (o_457 v0), (o_458 v0), (o_459 v0), (o_460 v0), (o_461 v0), (o_462 v0), (o_463 v0), (o_464 v0), (o_465 v0), (o_466 v0), (o_467 v0), (o_468 v0), (o_469 v0), (o_470 v0), (o_471 v0), (o_472 v0), (o_473 v0), (o_474 v0), (o_475 v0), (o_476 v0), (o_477 v0), (o_478 v0), (o_479 v0), (o_480 v0), (o_481 v0), (o_482 v0), (o_483 v0), (o_484 v0), (o_485 v0), (o_486 v0), (o_487 v0), (o_488 v0), (o_489 v0), (o_490 v0), (o_491 v0), (o_492 v0), (o_493 v0), (o_496 v0), (o_497 v0), (o_498 v0), (o_499 v0), (o_500 v0), (o_501 v0), (o_502 v0), (o_503 v0), (o_504 v0), (o_505 v0), (o_506 v0), (o_507 v0), (o_508 v0), (o_509 v0), (o_510 v0), (o_511 v0), (o_512 v0), (o_513 v0), (o_514 v0)]) (.mk [] [] [] 0 [] [] .false #[] [] 0 .false .false .false 0 [2000, 10, 10] .false 0 .true [] [] 0 .false)))
noncomputable def view_39 : Program := (.mk (.mk [(sg PB 0), (sg PB 2), (sg PB 3), (sg PB 4), (sg PB 5), (sg PB 6), (sg PB 7), (sg PB 9), (sg PB 10), (sg PB 11), (sg PB 12), (sg PB 14), (sg PB 15), (sg PB 16), (sg PB 17), (sg PB 18), (sg PB 19), (sg PB 20), (sg PB 21), (sg PB 22), (sg PB 23), (sg PB 24), (sg PB 25), (sg PB 26), (sg PB 27), (sg PB 28), (sg PB 30), (sg PB 31), (sg PB 32), (sg PB 33), (sg PB 34), (sg PB 35), (sg PB 36), (sg PB 37), (sg PB 38), (sg PB 39), (sg PB 40), (sg PB 41), (sg PB 42), (sg PB 43), (sg PB 44)] (@PySem.Module.scope (@PySem.Program.main ((@PySem.W.OpenRow.toRowW (@PySem.W.Fast.tw2368527892694137696 PySem.Challenge.rw_ja0003_02))).1)) (@PySem.Module.futureAnnotations (@PySem.Program.main ((@PySem.W.OpenRow.toRowW (@PySem.W.Fast.tw2368527892694137696 PySem.Challenge.rw_ja0003_02))).1)) (@PySem.Module.file (@PySem.Program.main ((@PySem.W.OpenRow.toRowW (@PySem.W.Fast.tw2368527892694137696 PySem.Challenge.rw_ja0003_02))).1)) (@PySem.Module.more (@PySem.Program.main ((@PySem.W.OpenRow.toRowW (@PySem.W.Fast.tw2368527892694137696 PySem.Challenge.rw_ja0003_02))).1))) (@PySem.Program.modules ((@PySem.W.OpenRow.toRowW (@PySem.W.Fast.tw2368527892694137696 PySem.Challenge.rw_ja0003_02))).1) (@PySem.Program.parses ((@PySem.W.OpenRow.toRowW (@PySem.W.Fast.tw2368527892694137696 PySem.Challenge.rw_ja0003_02))).1) (@PySem.Program.absent ((@PySem.W.OpenRow.toRowW (@PySem.W.Fast.tw2368527892694137696 PySem.Challenge.rw_ja0003_02))).1) (@PySem.Program.harvested ((@PySem.W.OpenRow.toRowW (@PySem.W.Fast.tw2368527892694137696 PySem.Challenge.rw_ja0003_02))).1) (@PySem.Program.given ((@PySem.W.OpenRow.toRowW (@PySem.W.Fast.tw2368527892694137696 PySem.Challenge.rw_ja0003_02))).1))
end
section
noncomputable def PBr : List Stmt := (OpenRow.toRowW (OpenLaw.row PySem.Challenge.rw_ja0003_02)).prog.main.body
noncomputable def fAll : Stmt → Arguments × List Stmt × Scope
  | .FunctionDef _ a b _ _ _ c .. => (a, b, c)
  | _ => (⟨[], [], none, [], [], none, []⟩, [], ⟨.function, [], false, false, []⟩)
noncomputable def lit1 {α : Type} (F : Arguments → List Stmt → Scope → α) (pa : Arguments) (bo : List Stmt) (sc : Scope) {x : Stmt} (_ : fAll x = (pa, bo, sc)) : α := F pa bo sc
noncomputable def r_57 : Params → Obj := by
  refine lit1 (fun pa bo sc => (fun (v0 : @PySem.Params) => (.mk (.type k5) .none (.func (.mk (PySem.Str.ofString "_wall") (PySem.Str.ofString "_wall") pa (.stmts bo) sc 3 [] .none .none .none (.str z184 164) .none (.ref 20) .none 0)) #[]))) ?pa ?bo ?sc (x := (sg PBr 0)) ?h
  case h => (conv => lhs; whnf)
noncomputable def r_86 : Params → Obj := by
  refine lit1 (fun pa bo sc => (fun (v0 : @PySem.Params) => (.mk (.type k5) .none (.func (.mk (PySem.Str.ofString "__init__") (PySem.Str.ofString "AEAD.__init__") pa (.stmts bo) sc 3 [] .none .none .none (.str z88 194) .none (.ref 47) .none 0)) #[]))) ?pa ?bo ?sc (x := (sg (fB (sg PBr 6)) 0)) ?h
  case h => (conv => lhs; whnf)
noncomputable def r_93 : Params → Obj := by
  refine lit1 (fun pa bo sc => (fun (v0 : @PySem.Params) => (.mk (.type k5) .none (.func (.mk (PySem.Str.ofString "decrypt") (PySem.Str.ofString "AEAD.decrypt") pa (.stmts bo) sc 3 [] .none .none .none (.str z88 194) .none (.ref 54) .none 0)) #[]))) ?pa ?bo ?sc (x := (sg (fB (sg PBr 6)) 1)) ?h
  case h => (conv => lhs; whnf)
noncomputable def r_100 : Params → Obj := by
  refine lit1 (fun pa bo sc => (fun (v0 : @PySem.Params) => (.mk (.type k5) .none (.func (.mk (PySem.Str.ofString "encrypt") (PySem.Str.ofString "AEAD.encrypt") pa (.stmts bo) sc 3 [] .none .none .none (.str z88 194) .none (.ref 61) .none 0)) #[]))) ?pa ?bo ?sc (x := (sg (fB (sg PBr 6)) 2)) ?h
  case h => (conv => lhs; whnf)
noncomputable def r_107 : Params → Obj := by
  refine lit1 (fun pa bo sc => (fun (v0 : @PySem.Params) => (.mk (.type k5) .none (.func (.mk (PySem.Str.ofString "_nonce") (PySem.Str.ofString "AEAD._nonce") pa (.stmts bo) sc 3 [] .none .none .none (.str z88 194) .none (.ref 68) .none 0)) #[]))) ?pa ?bo ?sc (x := (sg (fB (sg PBr 6)) 3)) ?h
  case h => (conv => lhs; whnf)
noncomputable def r_130 : Params → Obj := by
  refine lit1 (fun pa bo sc => (fun (v0 : @PySem.Params) => (.mk (.type k5) .none (.func (.mk (PySem.Str.ofString "__init__") (PySem.Str.ofString "HeaderProtection.__init__") pa (.stmts bo) sc 3 [] .none .none .none (.str z88 194) .none (.ref 89) .none 0)) #[]))) ?pa ?bo ?sc (x := (sg (fB (sg PBr 7)) 0)) ?h
  case h => (conv => lhs; whnf)
noncomputable def r_137 : Params → Obj := by
  refine lit1 (fun pa bo sc => (fun (v0 : @PySem.Params) => (.mk (.type k5) .none (.func (.mk (PySem.Str.ofString "apply") (PySem.Str.ofString "HeaderProtection.apply") pa (.stmts bo) sc 3 [] .none .none .none (.str z88 194) .none (.ref 96) .none 0)) #[]))) ?pa ?bo ?sc (x := (sg (fB (sg PBr 7)) 1)) ?h
  case h => (conv => lhs; whnf)
noncomputable def r_144 : Params → Obj := by
  refine lit1 (fun pa bo sc => (fun (v0 : @PySem.Params) => (.mk (.type k5) .none (.func (.mk (PySem.Str.ofString "remove") (PySem.Str.ofString "HeaderProtection.remove") pa (.stmts bo) sc 3 [] .none .none .none (.str z88 194) .none (.ref 103) .none 0)) #[]))) ?pa ?bo ?sc (x := (sg (fB (sg PBr 7)) 2)) ?h
  case h => (conv => lhs; whnf)
noncomputable def r_151 : Params → Obj := by
  refine lit1 (fun pa bo sc => (fun (v0 : @PySem.Params) => (.mk (.type k5) .none (.func (.mk (PySem.Str.ofString "_mask") (PySem.Str.ofString "HeaderProtection._mask") pa (.stmts bo) sc 3 [] .none .none .none (.str z88 194) .none (.ref 110) .none 0)) #[]))) ?pa ?bo ?sc (x := (sg (fB (sg PBr 7)) 3)) ?h
  case h => (conv => lhs; whnf)
noncomputable def r_181 : Params → Obj := by
  refine lit1 (fun pa bo sc => (fun (v0 : @PySem.Params) => (.mk (.type k5) .none (.func (.mk (PySem.Str.ofString "decode_packet_number") (PySem.Str.ofString "decode_packet_number") pa (.stmts bo) sc 3 [] .none .none .none (.str z28 355) .none (.ref 138) .none 0)) #[]))) ?pa ?bo ?sc (x := (sg PBr 11)) ?h
  case h => (conv => lhs; whnf)
noncomputable def r_188 : Params → Obj := by
  refine lit1 (fun pa bo sc => (fun (v0 : @PySem.Params) => (.mk (.type k5) .none (.func (.mk (PySem.Str.ofString "is_long_header") (PySem.Str.ofString "is_long_header") pa (.stmts bo) sc 3 [] .none .none .none (.str z28 355) .none (.ref 145) .none 0)) #[]))) ?pa ?bo ?sc (x := (sg PBr 12)) ?h
  case h => (conv => lhs; whnf)
noncomputable def r_211 : Params → Obj := by
  refine lit1 (fun pa bo sc => (fun (v0 : @PySem.Params) => (.mk (.type k5) .none (.func (.mk (PySem.Str.ofString "cipher_suite_hash") (PySem.Str.ofString "cipher_suite_hash") pa (.stmts bo) sc 3 [] .none .none .none (.str z16 404) .none (.ref 166) .none 0)) #[]))) ?pa ?bo ?sc (x := (sg PBr 15)) ?h
  case h => (conv => lhs; whnf)
noncomputable def r_218 : Params → Obj := by
  refine lit1 (fun pa bo sc => (fun (v0 : @PySem.Params) => (.mk (.type k5) .none (.func (.mk (PySem.Str.ofString "hkdf_expand_label") (PySem.Str.ofString "hkdf_expand_label") pa (.stmts bo) sc 3 [] .none .none .none (.str z16 404) .none (.ref 173) .none 0)) #[]))) ?pa ?bo ?sc (x := (sg PBr 16)) ?h
  case h => (conv => lhs; whnf)
noncomputable def r_225 : Params → Obj := by
  refine lit1 (fun pa bo sc => (fun (v0 : @PySem.Params) => (.mk (.type k5) .none (.func (.mk (PySem.Str.ofString "hkdf_extract") (PySem.Str.ofString "hkdf_extract") pa (.stmts bo) sc 3 [] .none .none .none (.str z16 404) .none (.ref 180) .none 0)) #[]))) ?pa ?bo ?sc (x := (sg PBr 17)) ?h
  case h => (conv => lhs; whnf)
noncomputable def r_241 : Params → Obj := by
  refine lit1 (fun pa bo sc => (fun (v0 : @PySem.Params) => (.mk (.type k5) .none (.func (.mk (PySem.Str.ofString "NoCallback") (PySem.Str.ofString "NoCallback") pa (.stmts bo) sc 3 [] .none .none .none (.str z16 404) .none (.ref 191) .none 0)) #[]))) ?pa ?bo ?sc (x := (sg PBr 22)) ?h
  case h => (conv => lhs; whnf)
noncomputable def r_260 : Params → Obj := by
  refine lit1 (fun pa bo sc => (fun (v0 : @PySem.Params) => (.mk (.type k5) .none (.func (.mk (PySem.Str.ofString "derive_key_iv_hp") (PySem.Str.ofString "derive_key_iv_hp") pa (.stmts bo) sc 3 [] .none .none .none (.str z16 404) .none (.ref 210) .none 0)) #[]))) ?pa ?bo ?sc (x := (sg PBr 24)) ?h
  case h => (conv => lhs; whnf)
noncomputable def r_277 : Params → Obj := by
  refine lit1 (fun pa bo sc => (fun (v0 : @PySem.Params) => (.mk (.type k5) .none (.func (.mk (PySem.Str.ofString "__init__") (PySem.Str.ofString "CryptoContext.__init__") pa (.stmts bo) sc 3 [] (.ref 219) .none .none (.str z16 404) .none (.ref 225) .none 0)) #[]))) ?pa ?bo ?sc (x := (sg (fB (sg PBr 25)) 0)) ?h
  case h => (conv => lhs; whnf)
noncomputable def r_284 : Params → Obj := by
  refine lit1 (fun pa bo sc => (fun (v0 : @PySem.Params) => (.mk (.type k5) .none (.func (.mk (PySem.Str.ofString "decrypt_packet") (PySem.Str.ofString "CryptoContext.decrypt_packet") pa (.stmts bo) sc 3 [] .none .none .none (.str z16 404) .none (.ref 232) .none 0)) #[]))) ?pa ?bo ?sc (x := (sg (fB (sg PBr 25)) 1)) ?h
  case h => (conv => lhs; whnf)
noncomputable def r_291 : Params → Obj := by
  refine lit1 (fun pa bo sc => (fun (v0 : @PySem.Params) => (.mk (.type k5) .none (.func (.mk (PySem.Str.ofString "encrypt_packet") (PySem.Str.ofString "CryptoContext.encrypt_packet") pa (.stmts bo) sc 3 [] .none .none .none (.str z16 404) .none (.ref 239) .none 0)) #[]))) ?pa ?bo ?sc (x := (sg (fB (sg PBr 25)) 2)) ?h
  case h => (conv => lhs; whnf)
noncomputable def r_298 : Params → Obj := by
  refine lit1 (fun pa bo sc => (fun (v0 : @PySem.Params) => (.mk (.type k5) .none (.func (.mk (PySem.Str.ofString "is_valid") (PySem.Str.ofString "CryptoContext.is_valid") pa (.stmts bo) sc 3 [] .none .none .none (.str z16 404) .none (.ref 246) .none 0)) #[]))) ?pa ?bo ?sc (x := (sg (fB (sg PBr 25)) 3)) ?h
  case h => (conv => lhs; whnf)
noncomputable def r_305 : Params → Obj := by
  refine lit1 (fun pa bo sc => (fun (v0 : @PySem.Params) => (.mk (.type k5) .none (.func (.mk (PySem.Str.ofString "setup") (PySem.Str.ofString "CryptoContext.setup") pa (.stmts bo) sc 3 [] .none .none .none (.str z16 404) .none (.ref 253) .none 0)) #[]))) ?pa ?bo ?sc (x := (sg (fB (sg PBr 25)) 4)) ?h
  case h => (conv => lhs; whnf)
noncomputable def r_312 : Params → Obj := by
  refine lit1 (fun pa bo sc => (fun (v0 : @PySem.Params) => (.mk (.type k5) .none (.func (.mk (PySem.Str.ofString "teardown") (PySem.Str.ofString "CryptoContext.teardown") pa (.stmts bo) sc 3 [] .none .none .none (.str z16 404) .none (.ref 260) .none 0)) #[]))) ?pa ?bo ?sc (x := (sg (fB (sg PBr 25)) 5)) ?h
  case h => (conv => lhs; whnf)
noncomputable def r_328 : Params → Obj := by
  refine lit1 (fun pa bo sc => (fun (v0 : @PySem.Params) => (.mk (.type k5) .none (.func (.mk (PySem.Str.ofString "apply_key_phase") (PySem.Str.ofString "apply_key_phase") pa (.stmts bo) sc 3 [] .none .none .none (.str z16 404) .none (.ref 274) .none 0)) #[]))) ?pa ?bo ?sc (x := (sg PBr 26)) ?h
  case h => (conv => lhs; whnf)
noncomputable def r_335 : Params → Obj := by
  refine lit1 (fun pa bo sc => (fun (v0 : @PySem.Params) => (.mk (.type k5) .none (.func (.mk (PySem.Str.ofString "next_key_phase") (PySem.Str.ofString "next_key_phase") pa (.stmts bo) sc 3 [] .none .none .none (.str z16 404) .none (.ref 281) .none 0)) #[]))) ?pa ?bo ?sc (x := (sg PBr 27)) ?h
  case h => (conv => lhs; whnf)
noncomputable def r_352 : Params → Obj := by
  refine lit1 (fun pa bo sc => (fun (v0 : @PySem.Params) => (.mk (.type k5) .none (.func (.mk (PySem.Str.ofString "__init__") (PySem.Str.ofString "CryptoPair.__init__") pa (.stmts bo) sc 3 [] (.ref 290) .none .none (.str z16 404) .none (.ref 296) .none 0)) #[]))) ?pa ?bo ?sc (x := (sg (fB (sg PBr 28)) 0)) ?h
  case h => (conv => lhs; whnf)
noncomputable def r_359 : Params → Obj := by
  refine lit1 (fun pa bo sc => (fun (v0 : @PySem.Params) => (.mk (.type k5) .none (.func (.mk (PySem.Str.ofString "decrypt_packet") (PySem.Str.ofString "CryptoPair.decrypt_packet") pa (.stmts bo) sc 3 [] .none .none .none (.str z16 404) .none (.ref 303) .none 0)) #[]))) ?pa ?bo ?sc (x := (sg (fB (sg PBr 28)) 1)) ?h
  case h => (conv => lhs; whnf)
noncomputable def r_366 : Params → Obj := by
  refine lit1 (fun pa bo sc => (fun (v0 : @PySem.Params) => (.mk (.type k5) .none (.func (.mk (PySem.Str.ofString "encrypt_packet") (PySem.Str.ofString "CryptoPair.encrypt_packet") pa (.stmts bo) sc 3 [] .none .none .none (.str z16 404) .none (.ref 310) .none 0)) #[]))) ?pa ?bo ?sc (x := (sg (fB (sg PBr 28)) 2)) ?h
  case h => (conv => lhs; whnf)
noncomputable def r_373 : Params → Obj := by
  refine lit1 (fun pa bo sc => (fun (v0 : @PySem.Params) => (.mk (.type k5) .none (.func (.mk (PySem.Str.ofString "setup_initial") (PySem.Str.ofString "CryptoPair.setup_initial") pa (.stmts bo) sc 3 [] .none .none .none (.str z16 404) .none (.ref 317) .none 0)) #[]))) ?pa ?bo ?sc (x := (sg (fB (sg PBr 28)) 3)) ?h
  case h => (conv => lhs; whnf)
noncomputable def r_380 : Params → Obj := by
  refine lit1 (fun pa bo sc => (fun (v0 : @PySem.Params) => (.mk (.type k5) .none (.func (.mk (PySem.Str.ofString "teardown") (PySem.Str.ofString "CryptoPair.teardown") pa (.stmts bo) sc 3 [] .none .none .none (.str z16 404) .none (.ref 324) .none 0)) #[]))) ?pa ?bo ?sc (x := (sg (fB (sg PBr 28)) 4)) ?h
  case h => (conv => lhs; whnf)
noncomputable def r_387 : Params → Obj := by
  refine lit1 (fun pa bo sc => (fun (v0 : @PySem.Params) => (.mk (.type k5) .none (.func (.mk (PySem.Str.ofString "update_key") (PySem.Str.ofString "CryptoPair.update_key") pa (.stmts bo) sc 3 [] .none .none .none (.str z16 404) .none (.ref 331) .none 0)) #[]))) ?pa ?bo ?sc (x := (sg (fB (sg PBr 28)) 5)) ?h
  case h => (conv => lhs; whnf)
noncomputable def r_394 : Params → Obj := by
  refine lit1 (fun pa bo sc => (fun (v0 : @PySem.Params) => (.mk (.type k5) .none (.func (.mk (PySem.Str.ofString "key_phase") (PySem.Str.ofString "CryptoPair.key_phase") pa (.stmts bo) sc 3 [] .none .none .none (.str z16 404) .none (.ref 338) .none 0)) #[]))) ?pa ?bo ?sc (x := (sg (fB (sg PBr 28)) 6)) ?h
  case h => (conv => lhs; whnf)
noncomputable def r_402 : Params → Obj := by
  refine lit1 (fun pa bo sc => (fun (v0 : @PySem.Params) => (.mk (.type k5) .none (.func (.mk (PySem.Str.ofString "_update_key") (PySem.Str.ofString "CryptoPair._update_key") pa (.stmts bo) sc 3 [] .none .none .none (.str z16 404) .none (.ref 346) .none 0)) #[]))) ?pa ?bo ?sc (x := (sg (fB (sg PBr 28)) 7)) ?h
  case h => (conv => lhs; whnf)
noncomputable def r_418 : Params → Obj := by
  refine lit1 (fun pa bo sc => (fun (v0 : @PySem.Params) => (.mk (.type k5) .none (.func (.mk (PySem.Str.ofString "_law_take") (PySem.Str.ofString "_law_take") pa (.stmts bo) sc 3 [] .none .none .none (.str z27 738) .none (.ref 360) .none 0)) #[]))) ?pa ?bo ?sc (x := (sg PBr 30)) ?h
  case h => (conv => lhs; whnf)
noncomputable def r_425 : Params → Obj := by
  refine lit1 (fun pa bo sc => (fun (v0 : @PySem.Params) => (.mk (.type k5) .none (.func (.mk (PySem.Str.ofString "_law_state") (PySem.Str.ofString "_law_state") pa (.stmts bo) sc 3 [] .none .none .none (.str z27 738) .none (.ref 367) .none 0)) #[]))) ?pa ?bo ?sc (x := (sg PBr 31)) ?h
  case h => (conv => lhs; whnf)
noncomputable def r_432 : Params → Obj := by
  refine lit1 (fun pa bo sc => (fun (v0 : @PySem.Params) => (.mk (.type k5) .none (.func (.mk (PySem.Str.ofString "_law_octets") (PySem.Str.ofString "_law_octets") pa (.stmts bo) sc 3 [] .none .none .none (.str z27 738) .none (.ref 374) .none 0)) #[]))) ?pa ?bo ?sc (x := (sg PBr 32)) ?h
  case h => (conv => lhs; whnf)
noncomputable def r_439 : Params → Obj := by
  refine lit1 (fun pa bo sc => (fun (v0 : @PySem.Params) => (.mk (.type k5) .none (.func (.mk (PySem.Str.ofString "_law_turned") (PySem.Str.ofString "_law_turned") pa (.stmts bo) sc 3 [] .none .none .none (.str z27 738) .none (.ref 381) .none 0)) #[]))) ?pa ?bo ?sc (x := (sg PBr 33)) ?h
  case h => (conv => lhs; whnf)
noncomputable def r_446 : Params → Obj := by
  refine lit1 (fun pa bo sc => (fun (v0 : @PySem.Params) => (.mk (.type k5) .none (.func (.mk (PySem.Str.ofString "_law_seal") (PySem.Str.ofString "_law_seal") pa (.stmts bo) sc 3 [] .none .none .none (.str z27 738) .none (.ref 388) .none 0)) #[]))) ?pa ?bo ?sc (x := (sg PBr 34)) ?h
  case h => (conv => lhs; whnf)
noncomputable def r_453 : Params → Obj := by
  refine lit1 (fun pa bo sc => (fun (v0 : @PySem.Params) => (.mk (.type k5) .none (.func (.mk (PySem.Str.ofString "_law_opened") (PySem.Str.ofString "_law_opened") pa (.stmts bo) sc 3 [] .none .none .none (.str z27 738) .none (.ref 395) .none 0)) #[]))) ?pa ?bo ?sc (x := (sg PBr 35)) ?h
  case h => (conv => lhs; whnf)
noncomputable def r_460 : Params → Obj := by
  refine lit1 (fun pa bo sc => (fun (v0 : @PySem.Params) => (.mk (.type k5) .none (.func (.mk (PySem.Str.ofString "_law_mask") (PySem.Str.ofString "_law_mask") pa (.stmts bo) sc 3 [] .none .none .none (.str z27 738) .none (.ref 402) .none 0)) #[]))) ?pa ?bo ?sc (x := (sg PBr 36)) ?h
  case h => (conv => lhs; whnf)
noncomputable def r_467 : Params → Obj := by
  refine lit1 (fun pa bo sc => (fun (v0 : @PySem.Params) => (.mk (.type k5) .none (.func (.mk (PySem.Str.ofString "_law_expand") (PySem.Str.ofString "_law_expand") pa (.stmts bo) sc 3 [] .none .none .none (.str z27 738) .none (.ref 409) .none 0)) #[]))) ?pa ?bo ?sc (x := (sg PBr 37)) ?h
  case h => (conv => lhs; whnf)
noncomputable def r_474 : Params → Obj := by
  refine lit1 (fun pa bo sc => (fun (v0 : @PySem.Params) => (.mk (.type k5) .none (.func (.mk (PySem.Str.ofString "_law_extract") (PySem.Str.ofString "_law_extract") pa (.stmts bo) sc 3 [] .none .none .none (.str z27 738) .none (.ref 416) .none 0)) #[]))) ?pa ?bo ?sc (x := (sg PBr 38)) ?h
  case h => (conv => lhs; whnf)
noncomputable def r_481 : Params → Obj := by
  refine lit1 (fun pa bo sc => (fun (v0 : @PySem.Params) => (.mk (.type k5) .none (.func (.mk (PySem.Str.ofString "_law_primitives") (PySem.Str.ofString "_law_primitives") pa (.stmts bo) sc 3 [] .none .none .none (.str z27 738) .none (.ref 423) .none 0)) #[]))) ?pa ?bo ?sc (x := (sg PBr 39)) ?h
  case h => (conv => lhs; whnf)
noncomputable def r_486 : Params → Obj := by
  refine lit1 (fun pa bo sc => (fun (v0 : @PySem.Params) => (.mk (.type k5) .none (.func (.mk (PySem.Str.ofString "_law_due") (PySem.Str.ofString "_law_due") pa (.stmts bo) sc 3 [] .none .none .none (.str z27 738) .none (.ref 428) .none 0)) #[]))) ?pa ?bo ?sc (x := (sg PBr 40)) ?h
  case h => (conv => lhs; whnf)
noncomputable def r_493 : Params → Obj := by
  refine lit1 (fun pa bo sc => (fun (v0 : @PySem.Params) => (.mk (.type k5) .none (.func (.mk (PySem.Str.ofString "_law_next") (PySem.Str.ofString "_law_next") pa (.stmts bo) sc 3 [] .none .none .none (.str z27 738) .none (.ref 435) .none 0)) #[]))) ?pa ?bo ?sc (x := (sg PBr 41)) ?h
  case h => (conv => lhs; whnf)
noncomputable def r_502 : Params → Obj := by
  refine lit1 (fun pa bo sc => (fun (v0 : @PySem.Params) => (.mk (.type k5) .none (.func (.mk (PySem.Str.ofString "_law_first") (PySem.Str.ofString "_law_first") pa (.stmts bo) sc 3 [] .none .none .none (.str z27 738) .none (.ref 442) .none 0)) #[]))) ?pa ?bo ?sc (x := (sg PBr 42)) ?h
  case h => (conv => lhs; whnf)
noncomputable def r_509 : Params → Obj := by
  refine lit1 (fun pa bo sc => (fun (v0 : @PySem.Params) => (.mk (.type k5) .none (.func (.mk (PySem.Str.ofString "_law_begun") (PySem.Str.ofString "_law_begun") pa (.stmts bo) sc 3 [] .none .none .none (.str z27 738) .none (.ref 449) .none 0)) #[]))) ?pa ?bo ?sc (x := (sg PBr 43)) ?h
  case h => (conv => lhs; whnf)
noncomputable def r_514 : Params → Obj := by
  refine lit1 (fun pa bo sc => (fun (v0 : @PySem.Params) => (.mk (.type k5) .none (.func (.mk (PySem.Str.ofString "law") (PySem.Str.ofString "law") pa (.stmts bo) sc 3 [] .none .none .none (.str z27 738) .none (.ref 454) .none 0)) #[]))) ?pa ?bo ?sc (x := (sg PBr 44)) ?h
  case h => (conv => lhs; whnf)
noncomputable def KK : Params → Frag := fun P => (nat_lit 2, PySem.W.boot_o_2 P) :: (nat_lit 3, o_494 P) :: (nat_lit 15, o_51 P) :: (nat_lit 17, o_53 P) :: (nat_lit 18, o_54 P) :: (nat_lit 20, o_56 P) :: (nat_lit 21, r_57 P) :: (nat_lit 22, o_58 P) :: (nat_lit 29, o_65 P) :: (nat_lit 30, o_66 P) :: (nat_lit 31, o_234 P) :: (nat_lit 32, o_68 P) :: (nat_lit 42, o_80 P) :: (nat_lit 44, o_82 P) :: (nat_lit 45, o_83 P) :: (nat_lit 47, o_85 P) :: (nat_lit 48, r_86 P) :: (nat_lit 49, o_87 P) :: (nat_lit 51, o_89 P) :: (nat_lit 52, o_90 P) :: (nat_lit 54, o_92 P) :: (nat_lit 55, r_93 P) :: (nat_lit 56, o_94 P) :: (nat_lit 58, o_96 P) :: (nat_lit 59, o_97 P) :: (nat_lit 61, o_99 P) :: (nat_lit 62, r_100 P) :: (nat_lit 63, o_101 P) :: (nat_lit 65, o_103 P) :: (nat_lit 66, o_104 P) :: (nat_lit 68, o_106 P) :: (nat_lit 69, r_107 P) :: (nat_lit 70, o_108 P) :: (nat_lit 71, o_109 P) :: (nat_lit 72, o_110 P) :: (nat_lit 73, o_111 P) :: (nat_lit 74, o_112 P) :: (nat_lit 84, o_124 P) :: (nat_lit 86, o_126 P) :: (nat_lit 87, o_127 P) :: (nat_lit 89, o_129 P) :: (nat_lit 90, r_130 P) :: (nat_lit 91, o_131 P) :: (nat_lit 93, o_133 P) :: (nat_lit 94, o_134 P) :: (nat_lit 96, o_136 P) :: (nat_lit 97, r_137 P) :: (nat_lit 98, o_138 P) :: (nat_lit 100, o_140 P) :: (nat_lit 101, o_141 P) :: (nat_lit 103, o_143 P) :: (nat_lit 104, r_144 P) :: (nat_lit 105, o_145 P) :: (nat_lit 107, o_147 P) :: (nat_lit 108, o_148 P) :: (nat_lit 110, o_150 P) :: (nat_lit 111, r_151 P) :: (nat_lit 112, o_152 P) :: (nat_lit 113, o_153 P) :: (nat_lit 114, o_154 P) :: (nat_lit 115, o_155 P) :: (nat_lit 116, o_156 P) :: (nat_lit 126, o_168 P) :: (nat_lit 127, o_169 P) :: (nat_lit 128, o_170 P) :: (nat_lit 129, o_171 P) :: (nat_lit 130, o_172 P) :: (nat_lit 133, o_175 P) :: (nat_lit 135, o_177 P) :: (nat_lit 136, o_178 P) :: (nat_lit 138, o_180 P) :: (nat_lit 139, r_181 P) :: (nat_lit 140, o_182 P) :: (nat_lit 142, o_184 P) :: (nat_lit 143, o_185 P) :: (nat_lit 145, o_187 P) :: (nat_lit 146, r_188 P) :: (nat_lit 154, o_198 P) :: (nat_lit 155, o_199 P) :: (nat_lit 156, o_200 P) :: (nat_lit 157, o_201 P) :: (nat_lit 158, o_202 P) :: (nat_lit 161, o_205 P) :: (nat_lit 163, o_207 P) :: (nat_lit 164, o_208 P) :: (nat_lit 166, o_210 P) :: (nat_lit 167, r_211 P) :: (nat_lit 168, o_212 P) :: (nat_lit 170, o_214 P) :: (nat_lit 171, o_215 P) :: (nat_lit 173, o_217 P) :: (nat_lit 174, r_218 P) :: (nat_lit 175, o_219 P) :: (nat_lit 177, o_221 P) :: (nat_lit 178, o_222 P) :: (nat_lit 180, o_224 P) :: (nat_lit 181, r_225 P) :: (nat_lit 182, o_226 P) :: (nat_lit 183, o_227 P) :: (nat_lit 184, o_228 P) :: (nat_lit 185, o_229 P) :: (nat_lit 186, o_235 P) :: (nat_lit 188, o_237 P) :: (nat_lit 189, o_238 P) :: (nat_lit 191, o_240 P) :: (nat_lit 192, r_241 P) :: (nat_lit 193, o_242 P) :: (nat_lit 200, o_249 P) :: (nat_lit 201, o_250 P) :: (nat_lit 202, o_251 P) :: (nat_lit 205, o_254 P) :: (nat_lit 207, o_256 P) :: (nat_lit 208, o_257 P) :: (nat_lit 210, o_259 P) :: (nat_lit 211, r_260 P) :: (nat_lit 219, o_270 P) :: (nat_lit 220, o_271 P) :: (nat_lit 222, o_273 P) :: (nat_lit 223, o_274 P) :: (nat_lit 225, o_276 P) :: (nat_lit 226, r_277 P) :: (nat_lit 227, o_278 P) :: (nat_lit 229, o_280 P) :: (nat_lit 230, o_281 P) :: (nat_lit 232, o_283 P) :: (nat_lit 233, r_284 P) :: (nat_lit 234, o_285 P) :: (nat_lit 236, o_287 P) :: (nat_lit 237, o_288 P) :: (nat_lit 239, o_290 P) :: (nat_lit 240, r_291 P) :: (nat_lit 241, o_292 P) :: (nat_lit 243, o_294 P) :: (nat_lit 244, o_295 P) :: (nat_lit 246, o_297 P) :: (nat_lit 247, r_298 P) :: (nat_lit 248, o_299 P) :: (nat_lit 250, o_301 P) :: (nat_lit 251, o_302 P) :: (nat_lit 253, o_304 P) :: (nat_lit 254, r_305 P) :: (nat_lit 255, o_306 P) :: (nat_lit 257, o_308 P) :: (nat_lit 258, o_309 P) :: (nat_lit 260, o_311 P) :: (nat_lit 261, r_312 P) :: (nat_lit 262, o_313 P) :: (nat_lit 263, o_314 P) :: (nat_lit 264, o_315 P) :: (nat_lit 265, o_316 P) :: (nat_lit 266, o_317 P) :: (nat_lit 269, o_322 P) :: (nat_lit 271, o_324 P) :: (nat_lit 272, o_325 P) :: (nat_lit 274, o_327 P) :: (nat_lit 275, r_328 P) :: (nat_lit 276, o_329 P) :: (nat_lit 278, o_331 P) :: (nat_lit 279, o_332 P) :: (nat_lit 281, o_334 P) :: (nat_lit 282, r_335 P) :: (nat_lit 290, o_345 P) :: (nat_lit 291, o_346 P) :: (nat_lit 293, o_348 P) :: (nat_lit 294, o_349 P) :: (nat_lit 296, o_351 P) :: (nat_lit 297, r_352 P) :: (nat_lit 298, o_353 P) :: (nat_lit 300, o_355 P) :: (nat_lit 301, o_356 P) :: (nat_lit 303, o_358 P) :: (nat_lit 304, r_359 P) :: (nat_lit 305, o_360 P) :: (nat_lit 307, o_362 P) :: (nat_lit 308, o_363 P) :: (nat_lit 310, o_365 P) :: (nat_lit 311, r_366 P) :: (nat_lit 312, o_367 P) :: (nat_lit 314, o_369 P) :: (nat_lit 315, o_370 P) :: (nat_lit 317, o_372 P) :: (nat_lit 318, r_373 P) :: (nat_lit 319, o_374 P) :: (nat_lit 321, o_376 P) :: (nat_lit 322, o_377 P) :: (nat_lit 324, o_379 P) :: (nat_lit 325, r_380 P) :: (nat_lit 326, o_381 P) :: (nat_lit 328, o_383 P) :: (nat_lit 329, o_384 P) :: (nat_lit 331, o_386 P) :: (nat_lit 332, r_387 P) :: (nat_lit 333, o_388 P) :: (nat_lit 335, o_390 P) :: (nat_lit 336, o_391 P) :: (nat_lit 338, o_393 P) :: (nat_lit 339, r_394 P) :: (nat_lit 340, o_395 P) :: (nat_lit 341, o_396 P) :: (nat_lit 343, o_398 P) :: (nat_lit 344, o_399 P) :: (nat_lit 346, o_401 P) :: (nat_lit 347, r_402 P) :: (nat_lit 348, o_403 P) :: (nat_lit 349, o_404 P) :: (nat_lit 350, o_405 P) :: (nat_lit 351, o_406 P) :: (nat_lit 352, o_407 P) :: (nat_lit 355, o_412 P) :: (nat_lit 357, o_414 P) :: (nat_lit 358, o_415 P) :: (nat_lit 360, o_417 P) :: (nat_lit 361, r_418 P) :: (nat_lit 362, o_419 P) :: (nat_lit 364, o_421 P) :: (nat_lit 365, o_422 P) :: (nat_lit 367, o_424 P) :: (nat_lit 368, r_425 P) :: (nat_lit 369, o_426 P) :: (nat_lit 371, o_428 P) :: (nat_lit 372, o_429 P) :: (nat_lit 374, o_431 P) :: (nat_lit 375, r_432 P) :: (nat_lit 376, o_433 P) :: (nat_lit 378, o_435 P) :: (nat_lit 379, o_436 P) :: (nat_lit 381, o_438 P) :: (nat_lit 382, r_439 P) :: (nat_lit 383, o_440 P) :: (nat_lit 385, o_442 P) :: (nat_lit 386, o_443 P) :: (nat_lit 388, o_445 P) :: (nat_lit 389, r_446 P) :: (nat_lit 390, o_447 P) :: (nat_lit 392, o_449 P) :: (nat_lit 393, o_450 P) :: (nat_lit 395, o_452 P) :: (nat_lit 396, r_453 P) :: (nat_lit 397, o_454 P) :: (nat_lit 399, o_456 P) :: (nat_lit 400, o_457 P) :: (nat_lit 402, o_459 P) :: (nat_lit 403, r_460 P) :: (nat_lit 404, o_461 P) :: (nat_lit 406, o_463 P) :: (nat_lit 407, o_464 P) :: (nat_lit 409, o_466 P) :: (nat_lit 410, r_467 P) :: (nat_lit 411, o_468 P) :: (nat_lit 413, o_470 P) :: (nat_lit 414, o_471 P) :: (nat_lit 416, o_473 P) :: (nat_lit 417, r_474 P) :: (nat_lit 418, o_475 P) :: (nat_lit 420, o_477 P) :: (nat_lit 421, o_478 P) :: (nat_lit 423, o_480 P) :: (nat_lit 424, r_481 P) :: (nat_lit 425, o_482 P) :: (nat_lit 428, o_485 P) :: (nat_lit 429, r_486 P) :: (nat_lit 430, o_487 P) :: (nat_lit 432, o_489 P) :: (nat_lit 433, o_490 P) :: (nat_lit 435, o_492 P) :: (nat_lit 436, r_493 P) :: (nat_lit 437, o_496 P) :: (nat_lit 439, o_498 P) :: (nat_lit 440, o_499 P) :: (nat_lit 442, o_501 P) :: (nat_lit 443, r_502 P) :: (nat_lit 444, o_503 P) :: (nat_lit 446, o_505 P) :: (nat_lit 447, o_506 P) :: (nat_lit 449, o_508 P) :: (nat_lit 450, r_509 P) :: (nat_lit 451, o_510 P) :: (nat_lit 454, o_513 P) :: (nat_lit 455, r_514 P) :: []
noncomputable abbrev HK : Hook := kHook KK [(nat_lit 2), (nat_lit 3), (nat_lit 15), (nat_lit 17), (nat_lit 18), (nat_lit 20), (nat_lit 21), (nat_lit 22), (nat_lit 29), (nat_lit 30), (nat_lit 31), (nat_lit 32), (nat_lit 42), (nat_lit 44), (nat_lit 45), (nat_lit 47), (nat_lit 48), (nat_lit 49), (nat_lit 51), (nat_lit 52), (nat_lit 54), (nat_lit 55), (nat_lit 56), (nat_lit 58), (nat_lit 59), (nat_lit 61), (nat_lit 62), (nat_lit 63), (nat_lit 65), (nat_lit 66), (nat_lit 68), (nat_lit 69), (nat_lit 70), (nat_lit 71), (nat_lit 72), (nat_lit 73), (nat_lit 74), (nat_lit 84), (nat_lit 86), (nat_lit 87), (nat_lit 89), (nat_lit 90), (nat_lit 91), (nat_lit 93), (nat_lit 94), (nat_lit 96), (nat_lit 97), (nat_lit 98), (nat_lit 100), (nat_lit 101), (nat_lit 103), (nat_lit 104), (nat_lit 105), (nat_lit 107), (nat_lit 108), (nat_lit 110), (nat_lit 111), (nat_lit 112), (nat_lit 113), (nat_lit 114), (nat_lit 115), (nat_lit 116), (nat_lit 126), (nat_lit 127), (nat_lit 128), (nat_lit 129), (nat_lit 130), (nat_lit 133), (nat_lit 135), (nat_lit 136), (nat_lit 138), (nat_lit 139), (nat_lit 140), (nat_lit 142), (nat_lit 143), (nat_lit 145), (nat_lit 146), (nat_lit 154), (nat_lit 155), (nat_lit 156), (nat_lit 157), (nat_lit 158), (nat_lit 161), (nat_lit 163), (nat_lit 164), (nat_lit 166), (nat_lit 167), (nat_lit 168), (nat_lit 170), (nat_lit 171), (nat_lit 173), (nat_lit 174), (nat_lit 175), (nat_lit 177), (nat_lit 178), (nat_lit 180), (nat_lit 181), (nat_lit 182), (nat_lit 183), (nat_lit 184), (nat_lit 185), (nat_lit 186), (nat_lit 188), (nat_lit 189), (nat_lit 191), (nat_lit 192), (nat_lit 193), (nat_lit 200), (nat_lit 201), (nat_lit 202), (nat_lit 205), (nat_lit 207), (nat_lit 208), (nat_lit 210), (nat_lit 211), (nat_lit 219), (nat_lit 220), (nat_lit 222), (nat_lit 223), (nat_lit 225), (nat_lit 226), (nat_lit 227), (nat_lit 229), (nat_lit 230), (nat_lit 232), (nat_lit 233), (nat_lit 234), (nat_lit 236), (nat_lit 237), (nat_lit 239), (nat_lit 240), (nat_lit 241), (nat_lit 243), (nat_lit 244), (nat_lit 246), (nat_lit 247), (nat_lit 248), (nat_lit 250), (nat_lit 251), (nat_lit 253), (nat_lit 254), (nat_lit 255), (nat_lit 257), (nat_lit 258), (nat_lit 260), (nat_lit 261), (nat_lit 262), (nat_lit 263), (nat_lit 264), (nat_lit 265), (nat_lit 266), (nat_lit 269), (nat_lit 271), (nat_lit 272), (nat_lit 274), (nat_lit 275), (nat_lit 276), (nat_lit 278), (nat_lit 279), (nat_lit 281), (nat_lit 282), (nat_lit 290), (nat_lit 291), (nat_lit 293), (nat_lit 294), (nat_lit 296), (nat_lit 297), (nat_lit 298), (nat_lit 300), (nat_lit 301), (nat_lit 303), (nat_lit 304), (nat_lit 305), (nat_lit 307), (nat_lit 308), (nat_lit 310), (nat_lit 311), (nat_lit 312), (nat_lit 314), (nat_lit 315), (nat_lit 317), (nat_lit 318), (nat_lit 319), (nat_lit 321), (nat_lit 322), (nat_lit 324), (nat_lit 325), (nat_lit 326), (nat_lit 328), (nat_lit 329), (nat_lit 331), (nat_lit 332), (nat_lit 333), (nat_lit 335), (nat_lit 336), (nat_lit 338), (nat_lit 339), (nat_lit 340), (nat_lit 341), (nat_lit 343), (nat_lit 344), (nat_lit 346), (nat_lit 347), (nat_lit 348), (nat_lit 349), (nat_lit 350), (nat_lit 351), (nat_lit 352), (nat_lit 355), (nat_lit 357), (nat_lit 358), (nat_lit 360), (nat_lit 361), (nat_lit 362), (nat_lit 364), (nat_lit 365), (nat_lit 367), (nat_lit 368), (nat_lit 369), (nat_lit 371), (nat_lit 372), (nat_lit 374), (nat_lit 375), (nat_lit 376), (nat_lit 378), (nat_lit 379), (nat_lit 381), (nat_lit 382), (nat_lit 383), (nat_lit 385), (nat_lit 386), (nat_lit 388), (nat_lit 389), (nat_lit 390), (nat_lit 392), (nat_lit 393), (nat_lit 395), (nat_lit 396), (nat_lit 397), (nat_lit 399), (nat_lit 400), (nat_lit 402), (nat_lit 403), (nat_lit 404), (nat_lit 406), (nat_lit 407), (nat_lit 409), (nat_lit 410), (nat_lit 411), (nat_lit 413), (nat_lit 414), (nat_lit 416), (nat_lit 417), (nat_lit 418), (nat_lit 420), (nat_lit 421), (nat_lit 423), (nat_lit 424), (nat_lit 425), (nat_lit 428), (nat_lit 429), (nat_lit 430), (nat_lit 432), (nat_lit 433), (nat_lit 435), (nat_lit 436), (nat_lit 437), (nat_lit 439), (nat_lit 440), (nat_lit 442), (nat_lit 443), (nat_lit 444), (nat_lit 446), (nat_lit 447), (nat_lit 449), (nat_lit 450), (nat_lit 451), (nat_lit 454), (nat_lit 455)] (fun _ => by kernel_rfl)
end
section
theorem q46 : (∀ (v0 : @PySem.World), (@Eq (∀ (v1 : @PySem.OsState), (@Option (@Prod @PySem.Shared @PySem.Thread))) (fun (v1 : @PySem.OsState) => (@PySem.W.Fast.tw15667345088766844465 @PySem.W.Fast.tw14364793385576792824 ((@PySem.W.OpenRow.toRowW (@PySem.W.Fast.tw2368527892694137696 PySem.Challenge.rw_ja0003_02))).1 v0 (nat_lit 11) (@Option.some @PySem.Value (@PySem.Value.ref 6)) (nat_lit 12) (@PySem.Shared.mk (@PySem.W.boot_heap (@PySem.World.params v0)) (@Array.mk @PySem.GenState []) @PySem.W.boot_drawn @PySem.W.boot_toks v1) (@PySem.W.topStub ((@PySem.W.OpenRow.toRowW (@PySem.W.Fast.tw2368527892694137696 PySem.Challenge.rw_ja0003_02))).1))) (fun (v1 : @PySem.OsState) => (@Option.some (@Prod @PySem.Shared @PySem.Thread) (@Prod.mk @PySem.Shared @PySem.Thread (@PySem.Shared.mk (heap_46 (@PySem.World.params v0)) (@Array.mk @PySem.GenState []) (@PySem.Drawn.mk 0 0 0 0) (nat_lit 187) v1) (@PySem.Thread.mk (@PySem.W.Fast.tw11892475500146522536 @PySem.W.Fast.tw14364793385576792824 (@PySem.Code.body (@PySem.W.behindTheImports ((@PySem.W.OpenRow.toRowW (@PySem.W.Fast.tw2368527892694137696 PySem.Challenge.rw_ja0003_02))).1) env_41)) (@PySem.Code.body (@PySem.W.behindTheImports ((@PySem.W.OpenRow.toRowW (@PySem.W.Fast.tw2368527892694137696 PySem.Challenge.rw_ja0003_02))).1) env_41) (@PySem.Pos.mk 0 0 0 0) [(@PySem.W.topFrame (@PySem.Pos.mk 0 0 0 0))])))))) := by
  intro w
  kernel_rfl
theorem q48 : (∀ (v0 : @PySem.World), (@Eq (∀ (v1 : @PySem.OsState), (@Option (@Prod @PySem.Flow (@Prod @PySem.Shared (@Prod @PySem.Code @PySem.Pos))))) (fun (v1 : @PySem.OsState) => (@PySem.W.Fast.tw14374325043358763698 @PySem.W.Fast.tw14364793385576792824 ((@PySem.W.OpenRow.toRowW (@PySem.W.Fast.tw2368527892694137696 PySem.Challenge.rw_ja0003_02))).1 v0 (nat_lit 11) (@Option.some @PySem.Value (@PySem.Value.ref 6)) (nat_lit 1) (nat_lit 1) (@PySem.Shared.mk (heap_46 (@PySem.World.params v0)) (@Array.mk @PySem.GenState []) (@PySem.Drawn.mk 0 0 0 0) (nat_lit 187) v1) (@PySem.W.blockOf (@PySem.W.behindTheImports ((@PySem.W.OpenRow.toRowW (@PySem.W.Fast.tw2368527892694137696 PySem.Challenge.rw_ja0003_02))).1) env_41 (@PySem.Code.body (@PySem.W.behindTheImports ((@PySem.W.OpenRow.toRowW (@PySem.W.Fast.tw2368527892694137696 PySem.Challenge.rw_ja0003_02))).1) env_41) (@PySem.Pos.mk 0 0 0 0) [(@PySem.W.topFrame (@PySem.Pos.mk 0 0 0 0))]))) (fun (v1 : @PySem.OsState) => (@Option.some (@Prod @PySem.Flow (@Prod @PySem.Shared (@Prod @PySem.Code @PySem.Pos))) (@Prod.mk @PySem.Flow (@Prod @PySem.Shared (@Prod @PySem.Code @PySem.Pos)) @PySem.Flow.next (@Prod.mk @PySem.Shared (@Prod @PySem.Code @PySem.Pos) (@PySem.W.SharedT.abs (@PySem.W.SharedT.mk (tree_47 (@PySem.World.params v0)) (nat_lit 15) (@PySem.Life.mk [] [] [] 0 [] [] @Bool.false #[] [] 0 @Bool.false @Bool.false @Bool.false 0 [2000, 10, 10] @Bool.false 0 @Bool.true [] [] 0 @Bool.false) (@Array.mk @PySem.GenState []) (@PySem.Drawn.mk 0 0 0 0) (nat_lit 187) v1)) (@Prod.mk @PySem.Code @PySem.Pos (@PySem.Code.body (@PySem.W.behindTheImports ((@PySem.W.OpenRow.toRowW (@PySem.W.Fast.tw2368527892694137696 PySem.Challenge.rw_ja0003_02))).1) env_41) (@PySem.Pos.mk 0 0 0 0)))))))) := by
  intro w
  kernel_rfl
theorem q70 : (∀ (v0 : @PySem.World), (@Eq (∀ (v1 : @PySem.OsState), (@Option (@Prod @PySem.Flow (@Prod @PySem.W.SharedT (@Prod @PySem.Code @PySem.Pos))))) (fun (v1 : @PySem.OsState) => (@PySem.W.Fast.tw10110043849684766642 @PySem.W.Fast.tw14364793385576792824 ((@PySem.W.OpenRow.toRowW (@PySem.W.Fast.tw2368527892694137696 PySem.Challenge.rw_ja0003_02))).1 v0 (nat_lit 11) (@Option.some @PySem.Value (@PySem.Value.ref 6)) (nat_lit 1) (nat_lit 252) (@PySem.W.SharedT.mk (tree_47 (@PySem.World.params v0)) (nat_lit 15) (@PySem.Life.mk [] [] [] 0 [] [] @Bool.false #[] [] 0 @Bool.false @Bool.false @Bool.false 0 [2000, 10, 10] @Bool.false 0 @Bool.true [] [] 0 @Bool.false) (@Array.mk @PySem.GenState []) (@PySem.Drawn.mk 0 0 0 0) (nat_lit 187) v1) (@PySem.W.piecesOf sts_49 env_41 (@PySem.Code.body (@PySem.W.behindTheImports ((@PySem.W.OpenRow.toRowW (@PySem.W.Fast.tw2368527892694137696 PySem.Challenge.rw_ja0003_02))).1) env_41) (@PySem.Pos.mk 0 0 0 0) [(@PySem.W.topFrame (@PySem.Pos.mk 0 0 0 0))]))) (fun (v1 : @PySem.OsState) => (@Option.some (@Prod @PySem.Flow (@Prod @PySem.W.SharedT (@Prod @PySem.Code @PySem.Pos))) (@Prod.mk @PySem.Flow (@Prod @PySem.W.SharedT (@Prod @PySem.Code @PySem.Pos)) @PySem.Flow.next (@Prod.mk @PySem.W.SharedT (@Prod @PySem.Code @PySem.Pos) (@PySem.W.SharedT.mk (tree_70 (@PySem.World.params v0)) (nat_lit 35) (@PySem.Life.mk [] [] [] 0 [] [] @Bool.false #[] [] 0 @Bool.false @Bool.false @Bool.false 0 [2000, 10, 10] @Bool.false 0 @Bool.true [] [] 0 @Bool.false) (@Array.mk @PySem.GenState []) (@PySem.Drawn.mk 0 0 0 0) (nat_lit 220) v1) (@Prod.mk @PySem.Code @PySem.Pos (@PySem.Code.body (@PySem.W.behindTheImports ((@PySem.W.OpenRow.toRowW (@PySem.W.Fast.tw2368527892694137696 PySem.Challenge.rw_ja0003_02))).1) env_41) (@PySem.Pos.mk 8 0 9 8)))))))) := by
  intro w
  kernel_rfl
theorem q114 : (∀ (v0 : @PySem.World), (@Eq (∀ (v1 : @PySem.OsState), (@Option (@Prod @PySem.Flow (@Prod @PySem.W.SharedT (@Prod @PySem.Code @PySem.Pos))))) (fun (v1 : @PySem.OsState) => (@PySem.W.Fast.tw10110043849684766642 @PySem.W.Fast.tw14364793385576792824 ((@PySem.W.OpenRow.toRowW (@PySem.W.Fast.tw2368527892694137696 PySem.Challenge.rw_ja0003_02))).1 v0 (nat_lit 11) (@Option.some @PySem.Value (@PySem.Value.ref 6)) (nat_lit 1) (nat_lit 330) (@PySem.W.SharedT.mk (tree_70 (@PySem.World.params v0)) (nat_lit 35) (@PySem.Life.mk [] [] [] 0 [] [] @Bool.false #[] [] 0 @Bool.false @Bool.false @Bool.false 0 [2000, 10, 10] @Bool.false 0 @Bool.true [] [] 0 @Bool.false) (@Array.mk @PySem.GenState []) (@PySem.Drawn.mk 0 0 0 0) (nat_lit 220) v1) (@PySem.W.piecesOf sts_71 env_41 (@PySem.Code.body (@PySem.W.behindTheImports ((@PySem.W.OpenRow.toRowW (@PySem.W.Fast.tw2368527892694137696 PySem.Challenge.rw_ja0003_02))).1) env_41) (@PySem.Pos.mk 8 0 9 8) [(@PySem.W.topFrame (@PySem.Pos.mk 0 0 0 0))]))) (fun (v1 : @PySem.OsState) => (@Option.some (@Prod @PySem.Flow (@Prod @PySem.W.SharedT (@Prod @PySem.Code @PySem.Pos))) (@Prod.mk @PySem.Flow (@Prod @PySem.W.SharedT (@Prod @PySem.Code @PySem.Pos)) @PySem.Flow.next (@Prod.mk @PySem.W.SharedT (@Prod @PySem.Code @PySem.Pos) (@PySem.W.SharedT.mk (tree_114 (@PySem.World.params v0)) (nat_lit 77) (@PySem.Life.mk [] [] [] 0 [] [] @Bool.false #[] [] 0 @Bool.false @Bool.false @Bool.false 0 [2000, 10, 10] @Bool.false 0 @Bool.true [] [] 0 @Bool.false) (@Array.mk @PySem.GenState []) (@PySem.Drawn.mk 0 0 0 0) (nat_lit 284) v1) (@Prod.mk @PySem.Code @PySem.Pos (@PySem.Code.body (@PySem.W.behindTheImports ((@PySem.W.OpenRow.toRowW (@PySem.W.Fast.tw2368527892694137696 PySem.Challenge.rw_ja0003_02))).1) env_41) (@PySem.Pos.mk 10 0 32 76)))))))) := by
  intro w
  kernel_rfl
theorem q158 : (∀ (v0 : @PySem.World), (@Eq (∀ (v1 : @PySem.OsState), (@Option (@Prod @PySem.Flow (@Prod @PySem.W.SharedT (@Prod @PySem.Code @PySem.Pos))))) (fun (v1 : @PySem.OsState) => (@PySem.W.Fast.tw10110043849684766642 @PySem.W.Fast.tw14364793385576792824 ((@PySem.W.OpenRow.toRowW (@PySem.W.Fast.tw2368527892694137696 PySem.Challenge.rw_ja0003_02))).1 v0 (nat_lit 11) (@Option.some @PySem.Value (@PySem.Value.ref 6)) (nat_lit 1) (nat_lit 355) (@PySem.W.SharedT.mk (tree_114 (@PySem.World.params v0)) (nat_lit 77) (@PySem.Life.mk [] [] [] 0 [] [] @Bool.false #[] [] 0 @Bool.false @Bool.false @Bool.false 0 [2000, 10, 10] @Bool.false 0 @Bool.true [] [] 0 @Bool.false) (@Array.mk @PySem.GenState []) (@PySem.Drawn.mk 0 0 0 0) (nat_lit 284) v1) (@PySem.W.piecesOf sts_115 env_41 (@PySem.Code.body (@PySem.W.behindTheImports ((@PySem.W.OpenRow.toRowW (@PySem.W.Fast.tw2368527892694137696 PySem.Challenge.rw_ja0003_02))).1) env_41) (@PySem.Pos.mk 10 0 32 76) [(@PySem.W.topFrame (@PySem.Pos.mk 0 0 0 0))]))) (fun (v1 : @PySem.OsState) => (@Option.some (@Prod @PySem.Flow (@Prod @PySem.W.SharedT (@Prod @PySem.Code @PySem.Pos))) (@Prod.mk @PySem.Flow (@Prod @PySem.W.SharedT (@Prod @PySem.Code @PySem.Pos)) @PySem.Flow.next (@Prod.mk @PySem.W.SharedT (@Prod @PySem.Code @PySem.Pos) (@PySem.W.SharedT.mk (tree_158 (@PySem.World.params v0)) (nat_lit 119) (@PySem.Life.mk [] [] [] 0 [] [] @Bool.false #[] [] 0 @Bool.false @Bool.false @Bool.false 0 [2000, 10, 10] @Bool.false 0 @Bool.true [] [] 0 @Bool.false) (@Array.mk @PySem.GenState []) (@PySem.Drawn.mk 0 0 0 0) (nat_lit 359) v1) (@Prod.mk @PySem.Code @PySem.Pos (@PySem.Code.body (@PySem.W.behindTheImports ((@PySem.W.OpenRow.toRowW (@PySem.W.Fast.tw2368527892694137696 PySem.Challenge.rw_ja0003_02))).1) env_41) (@PySem.Pos.mk 76 0 76 18)))))))) := by
  intro w
  kernel_rfl
theorem q188 : (∀ (v0 : @PySem.World), (@Eq (∀ (v1 : @PySem.OsState), (@Option (@Prod @PySem.Flow (@Prod @PySem.W.SharedT (@Prod @PySem.Code @PySem.Pos))))) (fun (v1 : @PySem.OsState) => (@PySem.W.Fast.tw10110043849684766642 @PySem.W.Fast.tw14364793385576792824 ((@PySem.W.OpenRow.toRowW (@PySem.W.Fast.tw2368527892694137696 PySem.Challenge.rw_ja0003_02))).1 v0 (nat_lit 11) (@Option.some @PySem.Value (@PySem.Value.ref 6)) (nat_lit 1) (nat_lit 292) (@PySem.W.SharedT.mk (tree_158 (@PySem.World.params v0)) (nat_lit 119) (@PySem.Life.mk [] [] [] 0 [] [] @Bool.false #[] [] 0 @Bool.false @Bool.false @Bool.false 0 [2000, 10, 10] @Bool.false 0 @Bool.true [] [] 0 @Bool.false) (@Array.mk @PySem.GenState []) (@PySem.Drawn.mk 0 0 0 0) (nat_lit 359) v1) (@PySem.W.piecesOf sts_159 env_41 (@PySem.Code.body (@PySem.W.behindTheImports ((@PySem.W.OpenRow.toRowW (@PySem.W.Fast.tw2368527892694137696 PySem.Challenge.rw_ja0003_02))).1) env_41) (@PySem.Pos.mk 76 0 76 18) [(@PySem.W.topFrame (@PySem.Pos.mk 0 0 0 0))]))) (fun (v1 : @PySem.OsState) => (@Option.some (@Prod @PySem.Flow (@Prod @PySem.W.SharedT (@Prod @PySem.Code @PySem.Pos))) (@Prod.mk @PySem.Flow (@Prod @PySem.W.SharedT (@Prod @PySem.Code @PySem.Pos)) @PySem.Flow.next (@Prod.mk @PySem.W.SharedT (@Prod @PySem.Code @PySem.Pos) (@PySem.W.SharedT.mk (tree_188 (@PySem.World.params v0)) (nat_lit 147) (@PySem.Life.mk [] [] [] 0 [] [] @Bool.false #[] [] 0 @Bool.false @Bool.false @Bool.false 0 [2000, 10, 10] @Bool.false 0 @Bool.true [] [] 0 @Bool.false) (@Array.mk @PySem.GenState []) (@PySem.Drawn.mk 0 0 0 0) (nat_lit 406) v1) (@Prod.mk @PySem.Code @PySem.Pos (@PySem.Code.body (@PySem.W.behindTheImports ((@PySem.W.OpenRow.toRowW (@PySem.W.Fast.tw2368527892694137696 PySem.Challenge.rw_ja0003_02))).1) env_41) (@PySem.Pos.mk 93 0 93 8)))))))) := by
  intro w
  kernel_rfl
theorem q229 : (∀ (v0 : @PySem.World), (@Eq (∀ (v1 : @PySem.OsState), (@Option (@Prod @PySem.Flow (@Prod @PySem.W.SharedT (@Prod @PySem.Code @PySem.Pos))))) (fun (v1 : @PySem.OsState) => (@PySem.W.Fast.tw10110043849684766642 @PySem.W.Fast.tw14364793385576792824 ((@PySem.W.OpenRow.toRowW (@PySem.W.Fast.tw2368527892694137696 PySem.Challenge.rw_ja0003_02))).1 (@PySem.World.withFollow v0 "special-get-raises" @Bool.false) (nat_lit 11) (@Option.some @PySem.Value (@PySem.Value.ref 6)) (nat_lit 1) (nat_lit 400) (@PySem.W.SharedT.mk (tree_188 (@PySem.World.params (@PySem.World.withFollow v0 "special-get-raises" @Bool.false))) (nat_lit 147) (@PySem.Life.mk [] [] [] 0 [] [] @Bool.false #[] [] 0 @Bool.false @Bool.false @Bool.false 0 [2000, 10, 10] @Bool.false 0 @Bool.true [] [] 0 @Bool.false) (@Array.mk @PySem.GenState []) (@PySem.Drawn.mk 0 0 0 0) (nat_lit 406) v1) (@PySem.W.piecesOf sts_189 env_41 (@PySem.Code.body (@PySem.W.behindTheImports ((@PySem.W.OpenRow.toRowW (@PySem.W.Fast.tw2368527892694137696 PySem.Challenge.rw_ja0003_02))).1) env_41) (@PySem.Pos.mk 93 0 93 8) [(@PySem.W.topFrame (@PySem.Pos.mk 0 0 0 0))]))) (fun (v1 : @PySem.OsState) => (@Option.some (@Prod @PySem.Flow (@Prod @PySem.W.SharedT (@Prod @PySem.Code @PySem.Pos))) (@Prod.mk @PySem.Flow (@Prod @PySem.W.SharedT (@Prod @PySem.Code @PySem.Pos)) @PySem.Flow.next (@Prod.mk @PySem.W.SharedT (@Prod @PySem.Code @PySem.Pos) (@PySem.W.SharedT.mk (tree_229 (@PySem.World.params (@PySem.World.withFollow v0 "special-get-raises" @Bool.false))) (nat_lit 186) (@PySem.Life.mk [] [] [] 0 [] [] @Bool.false #[] [] 0 @Bool.false @Bool.false @Bool.false 0 [2000, 10, 10] @Bool.false 0 @Bool.true [] [] 0 @Bool.false) (@Array.mk @PySem.GenState []) (@PySem.Drawn.mk 0 0 0 0) (nat_lit 480) v1) (@Prod.mk @PySem.Code @PySem.Pos (@PySem.Code.body (@PySem.W.behindTheImports ((@PySem.W.OpenRow.toRowW (@PySem.W.Fast.tw2368527892694137696 PySem.Challenge.rw_ja0003_02))).1) env_41) (@PySem.Pos.mk 109 0 109 22)))))))) := by
  intro w
  kernel_rfl
theorem q231 : (∀ (v0 : @PySem.World), (@Eq (∀ (v1 : @PySem.OsState), (@Option (@Prod @PySem.Flow (@Prod @PySem.W.SharedT (@Prod @PySem.Code @PySem.Pos))))) (fun (v1 : @PySem.OsState) => (@PySem.W.Fast.tw10110043849684766642 @PySem.W.Fast.tw14364793385576792824 ((@PySem.W.OpenRow.toRowW (@PySem.W.Fast.tw2368527892694137696 PySem.Challenge.rw_ja0003_02))).1 (@PySem.World.withFollow v0 "special-get-raises" @Bool.true) (nat_lit 11) (@Option.some @PySem.Value (@PySem.Value.ref 6)) (nat_lit 1) (nat_lit 400) (@PySem.W.SharedT.mk (tree_188 (@PySem.World.params (@PySem.World.withFollow v0 "special-get-raises" @Bool.true))) (nat_lit 147) (@PySem.Life.mk [] [] [] 0 [] [] @Bool.false #[] [] 0 @Bool.false @Bool.false @Bool.false 0 [2000, 10, 10] @Bool.false 0 @Bool.true [] [] 0 @Bool.false) (@Array.mk @PySem.GenState []) (@PySem.Drawn.mk 0 0 0 0) (nat_lit 406) v1) (@PySem.W.piecesOf sts_189 env_41 (@PySem.Code.body (@PySem.W.behindTheImports ((@PySem.W.OpenRow.toRowW (@PySem.W.Fast.tw2368527892694137696 PySem.Challenge.rw_ja0003_02))).1) env_41) (@PySem.Pos.mk 93 0 93 8) [(@PySem.W.topFrame (@PySem.Pos.mk 0 0 0 0))]))) (fun (v1 : @PySem.OsState) => (@Option.some (@Prod @PySem.Flow (@Prod @PySem.W.SharedT (@Prod @PySem.Code @PySem.Pos))) (@Prod.mk @PySem.Flow (@Prod @PySem.W.SharedT (@Prod @PySem.Code @PySem.Pos)) @PySem.Flow.next (@Prod.mk @PySem.W.SharedT (@Prod @PySem.Code @PySem.Pos) (@PySem.W.SharedT.mk (tree_229 (@PySem.World.params (@PySem.World.withFollow v0 "special-get-raises" @Bool.true))) (nat_lit 186) (@PySem.Life.mk [] [] [] 0 [] [] @Bool.false #[] [] 0 @Bool.false @Bool.false @Bool.false 0 [2000, 10, 10] @Bool.false 0 @Bool.true [] [] 0 @Bool.false) (@Array.mk @PySem.GenState []) (@PySem.Drawn.mk 0 0 0 0) (nat_lit 480) v1) (@Prod.mk @PySem.Code @PySem.Pos (@PySem.Code.body (@PySem.W.behindTheImports ((@PySem.W.OpenRow.toRowW (@PySem.W.Fast.tw2368527892694137696 PySem.Challenge.rw_ja0003_02))).1) env_41) (@PySem.Pos.mk 109 0 109 22)))))))) := by
  intro w
  kernel_rfl
theorem q260 : (∀ (v0 : @PySem.World), (@Eq (∀ (v1 : @PySem.OsState), (@Option (@Prod @PySem.Flow (@Prod @PySem.W.SharedT (@Prod @PySem.Code @PySem.Pos))))) (fun (v1 : @PySem.OsState) => (@PySem.W.Fast.tw10110043849684766642 @PySem.W.Fast.tw14364793385576792824 ((@PySem.W.OpenRow.toRowW (@PySem.W.Fast.tw2368527892694137696 PySem.Challenge.rw_ja0003_02))).1 v0 (nat_lit 11) (@Option.some @PySem.Value (@PySem.Value.ref 6)) (nat_lit 1) (nat_lit 277) (@PySem.W.SharedT.mk (tree_229 (@PySem.World.params v0)) (nat_lit 186) (@PySem.Life.mk [] [] [] 0 [] [] @Bool.false #[] [] 0 @Bool.false @Bool.false @Bool.false 0 [2000, 10, 10] @Bool.false 0 @Bool.true [] [] 0 @Bool.false) (@Array.mk @PySem.GenState []) (@PySem.Drawn.mk 0 0 0 0) (nat_lit 480) v1) (@PySem.W.piecesOf sts_232 env_41 (@PySem.Code.body (@PySem.W.behindTheImports ((@PySem.W.OpenRow.toRowW (@PySem.W.Fast.tw2368527892694137696 PySem.Challenge.rw_ja0003_02))).1) env_41) (@PySem.Pos.mk 109 0 109 22) [(@PySem.W.topFrame (@PySem.Pos.mk 0 0 0 0))]))) (fun (v1 : @PySem.OsState) => (@Option.some (@Prod @PySem.Flow (@Prod @PySem.W.SharedT (@Prod @PySem.Code @PySem.Pos))) (@Prod.mk @PySem.Flow (@Prod @PySem.W.SharedT (@Prod @PySem.Code @PySem.Pos)) @PySem.Flow.next (@Prod.mk @PySem.W.SharedT (@Prod @PySem.Code @PySem.Pos) (@PySem.W.SharedT.mk (tree_260 (@PySem.World.params v0)) (nat_lit 212) (@PySem.Life.mk [] [] [] 0 [] [] @Bool.false #[] [] 0 @Bool.false @Bool.false @Bool.false 0 [2000, 10, 10] @Bool.false 0 @Bool.true [] [] 0 @Bool.false) (@Array.mk @PySem.GenState []) (@PySem.Drawn.mk 0 0 0 0) (nat_lit 515) v1) (@Prod.mk @PySem.Code @PySem.Pos (@PySem.Code.body (@PySem.W.behindTheImports ((@PySem.W.OpenRow.toRowW (@PySem.W.Fast.tw2368527892694137696 PySem.Challenge.rw_ja0003_02))).1) env_41) (@PySem.Pos.mk 114 0 123 241)))))))) := by
  intro w
  kernel_rfl
theorem q319 : (∀ (v0 : @PySem.World), (@Eq (∀ (v1 : @PySem.OsState), (@Option (@Prod @PySem.Flow (@Prod @PySem.W.SharedT (@Prod @PySem.Code @PySem.Pos))))) (fun (v1 : @PySem.OsState) => (@PySem.W.Fast.tw10110043849684766642 @PySem.W.Fast.tw14364793385576792824 ((@PySem.W.OpenRow.toRowW (@PySem.W.Fast.tw2368527892694137696 PySem.Challenge.rw_ja0003_02))).1 v0 (nat_lit 11) (@Option.some @PySem.Value (@PySem.Value.ref 6)) (nat_lit 1) (nat_lit 421) (@PySem.W.SharedT.mk (tree_260 (@PySem.World.params v0)) (nat_lit 212) (@PySem.Life.mk [] [] [] 0 [] [] @Bool.false #[] [] 0 @Bool.false @Bool.false @Bool.false 0 [2000, 10, 10] @Bool.false 0 @Bool.true [] [] 0 @Bool.false) (@Array.mk @PySem.GenState []) (@PySem.Drawn.mk 0 0 0 0) (nat_lit 515) v1) (@PySem.W.piecesOf sts_261 env_41 (@PySem.Code.body (@PySem.W.behindTheImports ((@PySem.W.OpenRow.toRowW (@PySem.W.Fast.tw2368527892694137696 PySem.Challenge.rw_ja0003_02))).1) env_41) (@PySem.Pos.mk 114 0 123 241) [(@PySem.W.topFrame (@PySem.Pos.mk 0 0 0 0))]))) (fun (v1 : @PySem.OsState) => (@Option.some (@Prod @PySem.Flow (@Prod @PySem.W.SharedT (@Prod @PySem.Code @PySem.Pos))) (@Prod.mk @PySem.Flow (@Prod @PySem.W.SharedT (@Prod @PySem.Code @PySem.Pos)) @PySem.Flow.next (@Prod.mk @PySem.W.SharedT (@Prod @PySem.Code @PySem.Pos) (@PySem.W.SharedT.mk (tree_319 (@PySem.World.params v0)) (nat_lit 269) (@PySem.Life.mk [] [] [] 0 [] [] @Bool.false #[] [] 0 @Bool.false @Bool.false @Bool.false 0 [2000, 10, 10] @Bool.false 0 @Bool.true [] [] 0 @Bool.false) (@Array.mk @PySem.GenState []) (@PySem.Drawn.mk 0 0 0 0) (nat_lit 613) v1) (@Prod.mk @PySem.Code @PySem.Pos (@PySem.Code.body (@PySem.W.behindTheImports ((@PySem.W.OpenRow.toRowW (@PySem.W.Fast.tw2368527892694137696 PySem.Challenge.rw_ja0003_02))).1) env_41) (@PySem.Pos.mk 124 0 171 16)))))))) := by
  intro w
  kernel_rfl
theorem q335 : (∀ (v0 : @PySem.World), (@Eq (∀ (v1 : @PySem.OsState), (@Option (@Prod @PySem.Flow (@Prod @PySem.W.SharedT (@Prod @PySem.Code @PySem.Pos))))) (fun (v1 : @PySem.OsState) => (@PySem.W.Fast.tw10110043849684766642 @PySem.W.Fast.tw14364793385576792824 ((@PySem.W.OpenRow.toRowW (@PySem.W.Fast.tw2368527892694137696 PySem.Challenge.rw_ja0003_02))).1 v0 (nat_lit 11) (@Option.some @PySem.Value (@PySem.Value.ref 6)) (nat_lit 1) (nat_lit 64) (@PySem.W.SharedT.mk (tree_319 (@PySem.World.params v0)) (nat_lit 269) (@PySem.Life.mk [] [] [] 0 [] [] @Bool.false #[] [] 0 @Bool.false @Bool.false @Bool.false 0 [2000, 10, 10] @Bool.false 0 @Bool.true [] [] 0 @Bool.false) (@Array.mk @PySem.GenState []) (@PySem.Drawn.mk 0 0 0 0) (nat_lit 613) v1) (@PySem.W.piecesOf sts_320 env_41 (@PySem.Code.body (@PySem.W.behindTheImports ((@PySem.W.OpenRow.toRowW (@PySem.W.Fast.tw2368527892694137696 PySem.Challenge.rw_ja0003_02))).1) env_41) (@PySem.Pos.mk 124 0 171 16) [(@PySem.W.topFrame (@PySem.Pos.mk 0 0 0 0))]))) (fun (v1 : @PySem.OsState) => (@Option.some (@Prod @PySem.Flow (@Prod @PySem.W.SharedT (@Prod @PySem.Code @PySem.Pos))) (@Prod.mk @PySem.Flow (@Prod @PySem.W.SharedT (@Prod @PySem.Code @PySem.Pos)) @PySem.Flow.next (@Prod.mk @PySem.W.SharedT (@Prod @PySem.Code @PySem.Pos) (@PySem.W.SharedT.mk (tree_335 (@PySem.World.params v0)) (nat_lit 283) (@PySem.Life.mk [] [] [] 0 [] [] @Bool.false #[] [] 0 @Bool.false @Bool.false @Bool.false 0 [2000, 10, 10] @Bool.false 0 @Bool.true [] [] 0 @Bool.false) (@Array.mk @PySem.GenState []) (@PySem.Drawn.mk 0 0 0 0) (nat_lit 632) v1) (@Prod.mk @PySem.Code @PySem.Pos (@PySem.Code.body (@PySem.W.behindTheImports ((@PySem.W.OpenRow.toRowW (@PySem.W.Fast.tw2368527892694137696 PySem.Challenge.rw_ja0003_02))).1) env_41) (@PySem.Pos.mk 177 0 185 17)))))))) := by
  intro w
  kernel_rfl
theorem q409 : (∀ (v0 : @PySem.World), (@Eq (∀ (v1 : @PySem.OsState), (@Option (@Prod @PySem.Flow (@Prod @PySem.W.SharedT (@Prod @PySem.Code @PySem.Pos))))) (fun (v1 : @PySem.OsState) => (@PySem.W.Fast.tw10110043849684766642 @PySem.W.Fast.tw14364793385576792824 ((@PySem.W.OpenRow.toRowW (@PySem.W.Fast.tw2368527892694137696 PySem.Challenge.rw_ja0003_02))).1 v0 (nat_lit 11) (@Option.some @PySem.Value (@PySem.Value.ref 6)) (nat_lit 1) (nat_lit 542) (@PySem.W.SharedT.mk (tree_335 (@PySem.World.params v0)) (nat_lit 283) (@PySem.Life.mk [] [] [] 0 [] [] @Bool.false #[] [] 0 @Bool.false @Bool.false @Bool.false 0 [2000, 10, 10] @Bool.false 0 @Bool.true [] [] 0 @Bool.false) (@Array.mk @PySem.GenState []) (@PySem.Drawn.mk 0 0 0 0) (nat_lit 632) v1) (@PySem.W.piecesOf sts_336 env_41 (@PySem.Code.body (@PySem.W.behindTheImports ((@PySem.W.OpenRow.toRowW (@PySem.W.Fast.tw2368527892694137696 PySem.Challenge.rw_ja0003_02))).1) env_41) (@PySem.Pos.mk 177 0 185 17) [(@PySem.W.topFrame (@PySem.Pos.mk 0 0 0 0))]))) (fun (v1 : @PySem.OsState) => (@Option.some (@Prod @PySem.Flow (@Prod @PySem.W.SharedT (@Prod @PySem.Code @PySem.Pos))) (@Prod.mk @PySem.Flow (@Prod @PySem.W.SharedT (@Prod @PySem.Code @PySem.Pos)) @PySem.Flow.next (@Prod.mk @PySem.W.SharedT (@Prod @PySem.Code @PySem.Pos) (@PySem.W.SharedT.mk (tree_409 (@PySem.World.params v0)) (nat_lit 355) (@PySem.Life.mk [] [] [] 0 [] [] @Bool.false #[] [] 0 @Bool.false @Bool.false @Bool.false 0 [2000, 10, 10] @Bool.false 0 @Bool.true [] [] 0 @Bool.false) (@Array.mk @PySem.GenState []) (@PySem.Drawn.mk 0 0 0 0) (nat_lit 738) v1) (@Prod.mk @PySem.Code @PySem.Pos (@PySem.Code.body (@PySem.W.behindTheImports ((@PySem.W.OpenRow.toRowW (@PySem.W.Fast.tw2368527892694137696 PySem.Challenge.rw_ja0003_02))).1) env_41) (@PySem.Pos.mk 186 0 236 42)))))))) := by
  intro w
  kernel_rfl
theorem q493 : (∀ (v0 : @PySem.World), (@Eq (∀ (v1 : @PySem.OsState), (@Option (@Prod @PySem.Flow (@Prod @PySem.W.SharedT (@Prod @PySem.Code @PySem.Pos))))) (fun (v1 : @PySem.OsState) => (@PySem.W.Fast.tw10110043849684766642 @PySem.W.Fast.tw14364793385576792824 ((@PySem.W.OpenRow.toRowW (@PySem.W.Fast.tw2368527892694137696 PySem.Challenge.rw_ja0003_02))).1 v0 (nat_lit 11) (@Option.some @PySem.Value (@PySem.Value.ref 6)) (nat_lit 1) (nat_lit 389) (@PySem.W.SharedT.mk (tree_409 (@PySem.World.params v0)) (nat_lit 355) (@PySem.Life.mk [] [] [] 0 [] [] @Bool.false #[] [] 0 @Bool.false @Bool.false @Bool.false 0 [2000, 10, 10] @Bool.false 0 @Bool.true [] [] 0 @Bool.false) (@Array.mk @PySem.GenState []) (@PySem.Drawn.mk 0 0 0 0) (nat_lit 738) v1) (@PySem.W.piecesOf sts_410 env_41 (@PySem.Code.body (@PySem.W.behindTheImports ((@PySem.W.OpenRow.toRowW (@PySem.W.Fast.tw2368527892694137696 PySem.Challenge.rw_ja0003_02))).1) env_41) (@PySem.Pos.mk 186 0 236 42) [(@PySem.W.topFrame (@PySem.Pos.mk 0 0 0 0))]))) (fun (v1 : @PySem.OsState) => (@Option.some (@Prod @PySem.Flow (@Prod @PySem.W.SharedT (@Prod @PySem.Code @PySem.Pos))) (@Prod.mk @PySem.Flow (@Prod @PySem.W.SharedT (@Prod @PySem.Code @PySem.Pos)) @PySem.Flow.next (@Prod.mk @PySem.W.SharedT (@Prod @PySem.Code @PySem.Pos) (@PySem.W.SharedT.mk (tree_493 (@PySem.World.params v0)) (nat_lit 437) (@PySem.Life.mk [] [] [] 0 [] [] @Bool.false #[] [] 0 @Bool.false @Bool.false @Bool.false 0 [2000, 10, 10] @Bool.false 0 @Bool.true [] [] 0 @Bool.false) (@Array.mk @PySem.GenState []) (@PySem.Drawn.mk 0 0 0 0) (nat_lit 857) v1) (@Prod.mk @PySem.Code @PySem.Pos (@PySem.Code.body (@PySem.W.behindTheImports ((@PySem.W.OpenRow.toRowW (@PySem.W.Fast.tw2368527892694137696 PySem.Challenge.rw_ja0003_02))).1) env_41) (@PySem.Pos.mk 294 0 296 102)))))))) := by
  intro w
  kernel_rfl
theorem q514 : (∀ (v0 : @PySem.World), (@Eq (∀ (v1 : @PySem.OsState), (@Option (@Prod @PySem.Flow (@Prod @PySem.W.SharedT (@Prod @PySem.Code @PySem.Pos))))) (fun (v1 : @PySem.OsState) => (@PySem.W.Fast.tw10110043849684766642 @PySem.W.Fast.tw14364793385576792824 ((@PySem.W.OpenRow.toRowW (@PySem.W.Fast.tw2368527892694137696 PySem.Challenge.rw_ja0003_02))).1 v0 (nat_lit 11) (@Option.some @PySem.Value (@PySem.Value.ref 6)) (nat_lit 1) (nat_lit 96) (@PySem.W.SharedT.mk (tree_493 (@PySem.World.params v0)) (nat_lit 437) (@PySem.Life.mk [] [] [] 0 [] [] @Bool.false #[] [] 0 @Bool.false @Bool.false @Bool.false 0 [2000, 10, 10] @Bool.false 0 @Bool.true [] [] 0 @Bool.false) (@Array.mk @PySem.GenState []) (@PySem.Drawn.mk 0 0 0 0) (nat_lit 857) v1) (@PySem.W.piecesOf sts_494 env_41 (@PySem.Code.body (@PySem.W.behindTheImports ((@PySem.W.OpenRow.toRowW (@PySem.W.Fast.tw2368527892694137696 PySem.Challenge.rw_ja0003_02))).1) env_41) (@PySem.Pos.mk 294 0 296 102) [(@PySem.W.topFrame (@PySem.Pos.mk 0 0 0 0))]))) (fun (v1 : @PySem.OsState) => (@Option.some (@Prod @PySem.Flow (@Prod @PySem.W.SharedT (@Prod @PySem.Code @PySem.Pos))) (@Prod.mk @PySem.Flow (@Prod @PySem.W.SharedT (@Prod @PySem.Code @PySem.Pos)) @PySem.Flow.next (@Prod.mk @PySem.W.SharedT (@Prod @PySem.Code @PySem.Pos) (@PySem.W.SharedT.mk (tree_514 (@PySem.World.params v0)) (nat_lit 456) (@PySem.Life.mk [] [] [] 0 [] [] @Bool.false #[] [] 0 @Bool.false @Bool.false @Bool.false 0 [2000, 10, 10] @Bool.false 0 @Bool.true [] [] 0 @Bool.false) (@Array.mk @PySem.GenState []) (@PySem.Drawn.mk 0 0 0 0) (nat_lit 888) v1) (@Prod.mk @PySem.Code @PySem.Pos (@PySem.Code.body (@PySem.W.behindTheImports ((@PySem.W.OpenRow.toRowW (@PySem.W.Fast.tw2368527892694137696 PySem.Challenge.rw_ja0003_02))).1) env_41) (@PySem.Pos.mk 316 0 340 15)))))))) := by
  intro w
  kernel_rfl
theorem q516 : (∀ (v0 : @PySem.World), (@Eq (∀ (v1 : @PySem.OsState), (@Option @PySem.Shared)) (fun (v1 : @PySem.OsState) => (@PySem.W.Fast.tw14082659384304107361 @PySem.W.Fast.tw14364793385576792824 ((@PySem.W.OpenRow.toRowW (@PySem.W.Fast.tw2368527892694137696 PySem.Challenge.rw_ja0003_02))).1 v0 (nat_lit 11) (@Option.some @PySem.Value (@PySem.Value.ref 6)) (nat_lit 2) (@PySem.W.SharedT.abs (@PySem.W.SharedT.mk (tree_514 (@PySem.World.params v0)) (nat_lit 456) (@PySem.Life.mk [] [] [] 0 [] [] @Bool.false #[] [] 0 @Bool.false @Bool.false @Bool.false 0 [2000, 10, 10] @Bool.false 0 @Bool.true [] [] 0 @Bool.false) (@Array.mk @PySem.GenState []) (@PySem.Drawn.mk 0 0 0 0) (nat_lit 888) v1)) (@PySem.Thread.mk (@PySem.W.doneF @PySem.Flow.next) (@PySem.Code.body (@PySem.W.behindTheImports ((@PySem.W.OpenRow.toRowW (@PySem.W.Fast.tw2368527892694137696 PySem.Challenge.rw_ja0003_02))).1) env_41) (@PySem.Pos.mk 316 0 340 15) [(@PySem.W.topFrame (@PySem.Pos.mk 0 0 0 0))]))) (fun (v1 : @PySem.OsState) => (@Option.some @PySem.Shared (@PySem.Shared.mk (heap_515 (@PySem.World.params v0)) (@Array.mk @PySem.GenState []) (@PySem.Drawn.mk 0 0 0 0) (nat_lit 888) v1))))) := by
  intro w
  kernel_rfl
theorem q519 : (∀ (v0 : @PySem.World), (@Eq (@Prod @Bool (@Prod @Nat (@Option @PySem.Value))) (@Prod.mk @Bool (@Prod @Nat (@Option @PySem.Value)) (@Bool.and (@PySem.Heap.isNs (@PySem.W.boot_heap (@PySem.World.params v0)) @PySem.mainGlobals) (@BEq.beq @Nat (@instBEqOfDecidableEq @Nat @instDecidableEqNat) (@Array.size @PySem.GenState (@Array.mk @PySem.GenState [])) 0)) (@Prod.mk @Nat (@Option @PySem.Value) (@Array.size @PySem.Obj (@PySem.Heap.objs (@PySem.W.boot_heap (@PySem.World.params v0)))) (@PySem.W.Fast.tw8920871248978507458 (@PySem.W.boot_heap (@PySem.World.params v0)) @PySem.mainGlobals z47))) (@Prod.mk @Bool (@Prod @Nat (@Option @PySem.Value)) @Bool.true (@Prod.mk @Nat (@Option @PySem.Value) (nat_lit 11) (@Option.some @PySem.Value (@PySem.Value.ref 6)))))) := by
  intro w
  kernel_rfl
theorem q521 : (∀ (v0 : @PySem.World), (@Eq (∀ (v1 : @PySem.OsState), @Bool) (fun (v1 : @PySem.OsState) => (@Bool.and (@Bool.and (@Bool.and (@PySem.W.staticsOk (@PySem.W.Fast.tw5923862056798008813 (@PySem.Module.body (@PySem.Program.main ((@PySem.W.OpenRow.toRowW (@PySem.W.Fast.tw2368527892694137696 PySem.Challenge.rw_ja0003_02))).1))) (@PySem.W.boot_heap (@PySem.World.params v0)) (heap_515 (@PySem.World.params v0))) (@PySem.W.namesBound ((@PySem.W.OpenRow.toRowW (@PySem.W.Fast.tw2368527892694137696 PySem.Challenge.rw_ja0003_02))).1 (heap_515 (@PySem.World.params v0)))) (@PySem.W.gensDone (@PySem.Shared.mk (heap_515 (@PySem.World.params v0)) (@Array.mk @PySem.GenState []) (@PySem.Drawn.mk 0 0 0 0) (nat_lit 888) v1))) (@PySem.W.laidKept (@PySem.W.boot_heap (@PySem.World.params v0)) (heap_515 (@PySem.World.params v0))))) (fun (v1 : @PySem.OsState) => @Bool.true))) := by
  intro w
  kernel_rfl
theorem q523 : (∀ (v0 : @PySem.World), (@Eq (∀ (v1 : @PySem.OsState), @PyProof.Rows.Seen) (fun (v1 : @PySem.OsState) => (@PySem.W.Fast.tw5160383126252970620 (@PySem.W.R.mapR @PySem.DefRec @PySem.Str (fun (v2 : @PySem.DefRec) => (@PySem.DefRec.name v2)) (@PySem.W.Fast.tw3399658132070893891 view_39)) (@PySem.W.Fast.tw5991557255702980513 view_39) [] (@PySem.Shared.mk (@PySem.Shared.heap (@PySem.Shared.mk (heap_515 (@PySem.World.params v0)) (@Array.mk @PySem.GenState []) (@PySem.Drawn.mk 0 0 0 0) (nat_lit 888) v1)) #[] (@PySem.Shared.drawn (@PySem.Shared.mk (heap_515 (@PySem.World.params v0)) (@Array.mk @PySem.GenState []) (@PySem.Drawn.mk 0 0 0 0) (nat_lit 888) v1)) (@PySem.Shared.toks (@PySem.Shared.mk (heap_515 (@PySem.World.params v0)) (@Array.mk @PySem.GenState []) (@PySem.Drawn.mk 0 0 0 0) (nat_lit 888) v1)) (@PySem.Shared.os (@PySem.Shared.mk (heap_515 (@PySem.World.params v0)) (@Array.mk @PySem.GenState []) (@PySem.Drawn.mk 0 0 0 0) (nat_lit 888) v1))))) (fun (v1 : @PySem.OsState) => (@PyProof.Rows.expectedOf view_39)))) := by
  intro w
  kernel_rfl
theorem q525 : (∀ (v0 : @PySem.World), (@Eq (∀ (v1 : @PySem.OsState), (@Prod (@Option @PySem.Str) (@List (@Prod @PySem.Str @PySem.Value)))) (fun (v1 : @PySem.OsState) => (@PySem.Heap.bltView (@PySem.Shared.heap (@PySem.Shared.mk (heap_515 (@PySem.World.params v0)) (@Array.mk @PySem.GenState []) (@PySem.Drawn.mk 0 0 0 0) (nat_lit 888) v1)))) (fun (v1 : @PySem.OsState) => @PySem.bltViewBooted))) := by
  intro w
  kernel_rfl
theorem q527 : (∀ (v0 : @PySem.World), (@Eq (∀ (v1 : @PySem.OsState), @Bool) (fun (v1 : @PySem.OsState) => (@Bool.and (@Bool.and (@Bool.and (@Bool.and (@Bool.and (@Bool.and (@PySem.W.Fast.tw10880121769531294198 (@PySem.Shared.heap (@PySem.Shared.mk (heap_515 (@PySem.World.params v0)) (@Array.mk @PySem.GenState []) (@PySem.Drawn.mk 0 0 0 0) (nat_lit 888) v1)) (@PySem.W.Fast.tw821141287760084731 view_39 [z58, z31, z61, z68, z118]) (@PySem.W.R.mapR @PySem.DefRec @PySem.Str (fun (v2 : @PySem.DefRec) => (@PySem.DefRec.name v2)) (@PySem.W.Fast.tw3399658132070893891 view_39)) (@PySem.W.R.mapR (@Prod @PySem.Str @PySem.PyData) @PySem.Str (fun (v2 : (@Prod @PySem.Str @PySem.PyData)) => (@Prod.fst @PySem.Str @PySem.PyData v2)) (@PySem.W.Fast.tw7409074990110511671 view_39)) (@PySem.W.R.mapR @PySem.ClsRec @PySem.Str (fun (v2 : @PySem.ClsRec) => (@PySem.ClsRec.name v2)) (@PySem.W.Fast.tw13664370479719496447 view_39 (@PySem.W.Fast.tw821141287760084731 view_39 [z58, z31, z61, z68, z118])))) (@PySem.W.Fast.tw14722251495701143533 (@PySem.Shared.heap (@PySem.Shared.mk (heap_515 (@PySem.World.params v0)) (@Array.mk @PySem.GenState []) (@PySem.Drawn.mk 0 0 0 0) (nat_lit 888) v1)) (@PySem.W.Fast.tw5923862056798008813 (@PySem.Module.body (@PySem.Program.main ((@PySem.W.OpenRow.toRowW (@PySem.W.Fast.tw2368527892694137696 PySem.Challenge.rw_ja0003_02))).1))))) (@PySem.Heap.isNs (@PySem.Shared.heap (@PySem.Shared.mk (heap_515 (@PySem.World.params v0)) (@Array.mk @PySem.GenState []) (@PySem.Drawn.mk 0 0 0 0) (nat_lit 888) v1)) @PySem.mainGlobals)) (@PySem.Heap.isNs (@PySem.Shared.heap (@PySem.Shared.mk (heap_515 (@PySem.World.params v0)) (@Array.mk @PySem.GenState []) (@PySem.Drawn.mk 0 0 0 0) (nat_lit 888) v1)) @PySem.builtinsNs)) (@PySem.W.Fast.tw10994771534591457954 view_39 (@PySem.Shared.heap (@PySem.Shared.mk (heap_515 (@PySem.World.params v0)) (@Array.mk @PySem.GenState []) (@PySem.Drawn.mk 0 0 0 0) (nat_lit 888) v1)))) ((fun (v2 : @PySem.Shared) => (@Bool.and (@PySem.W.xlAt view_39 [] v2) (@PySem.W.recOk (@PySem.W.RowW.records (@PySem.W.OpenRow.toRowW (@PySem.W.Fast.tw2368527892694137696 PySem.Challenge.rw_ja0003_02))) v2))) (@PySem.Shared.mk (heap_515 (@PySem.World.params v0)) (@Array.mk @PySem.GenState []) (@PySem.Drawn.mk 0 0 0 0) (nat_lit 888) v1))) (@ite @Bool (@Eq @Bool @Bool.true @Bool.true) (@instDecidableEqBool @Bool.true @Bool.true) (@BEq.beq @Nat (@instBEqOfDecidableEq @Nat @instDecidableEqNat) (@Array.size @PySem.GenState (@PySem.Shared.gens (@PySem.Shared.mk (heap_515 (@PySem.World.params v0)) (@Array.mk @PySem.GenState []) (@PySem.Drawn.mk 0 0 0 0) (nat_lit 888) v1))) 0) (@Bool.not (@PySem.leftWithCleanup (@PySem.Shared.gens (@PySem.Shared.mk (heap_515 (@PySem.World.params v0)) (@Array.mk @PySem.GenState []) (@PySem.Drawn.mk 0 0 0 0) (nat_lit 888) v1))))))) (fun (v1 : @PySem.OsState) => @Bool.true))) := by
  intro w
  kernel_rfl
theorem q529 : (∀ (v0 : @PySem.World), (@Eq (∀ (v1 : @PySem.OsState), @Bool) (fun (v1 : @PySem.OsState) => (@PySem.W.Fast.tw479339242167458305 view_39 (@PySem.Shared.mk (heap_515 (@PySem.World.params v0)) (@Array.mk @PySem.GenState []) (@PySem.Drawn.mk 0 0 0 0) (nat_lit 888) v1))) (fun (v1 : @PySem.OsState) => @Bool.true))) := by
  intro w
  kernel_rfl
theorem q531 : (∀ (v0 : @PySem.World), (@Eq (∀ (v1 : @PySem.OsState), (@Prod (@List (@Option @PySem.FnShape)) @Bool)) (fun (v1 : @PySem.OsState) => (@PySem.W.Fast.tw16090120013241838585 view_39 (@PySem.W.Fast.tw3247288618530077131 view_39) (@PySem.Shared.mk (heap_515 (@PySem.World.params v0)) (@Array.mk @PySem.GenState []) (@PySem.Drawn.mk 0 0 0 0) (nat_lit 888) v1))) (fun (v1 : @PySem.OsState) => (@PySem.pinGoodD (@PySem.W.Fast.tw3247288618530077131 view_39))))) := by
  intro w
  kernel_rfl
theorem q533 : (∀ (v0 : @PySem.World), (@Eq (∀ (v1 : @PySem.OsState), (@List (@Option @PyProof.Rows.PlainShape))) (fun (v1 : @PySem.OsState) => (@PySem.W.Fast.tw2386780881361962483 view_39 (@PySem.W.Fast.tw821141287760084731 view_39 [z58, z31, z61, z68, z118]) (@PySem.Shared.mk (heap_515 (@PySem.World.params v0)) (@Array.mk @PySem.GenState []) (@PySem.Drawn.mk 0 0 0 0) (nat_lit 888) v1))) (fun (v1 : @PySem.OsState) => (@PyProof.Rows.plainGoodE view_39 (@PySem.W.Fast.tw821141287760084731 view_39 [z58, z31, z61, z68, z118]))))) := by
  intro w
  kernel_rfl
theorem q535 : (∀ (v0 : @PySem.World), (@Eq (∀ (v1 : @PySem.OsState), (@List (@Option (@Prod @PyProof.Rows.PlainShape @Bool)))) (fun (v1 : @PySem.OsState) => (@PySem.W.Fast.tw11698064438423848299 view_39 [z58, z31, z61, z68, z118] (@PySem.Shared.mk (heap_515 (@PySem.World.params v0)) (@Array.mk @PySem.GenState []) (@PySem.Drawn.mk 0 0 0 0) (nat_lit 888) v1))) (fun (v1 : @PySem.OsState) => (@PyProof.Rows.plainGoodD view_39 [z58, z31, z61, z68, z118])))) := by
  intro w
  kernel_rfl
theorem q537 : (∀ (v0 : @PySem.World), (@Eq (∀ (v1 : @PySem.OsState), (@Prod (@List (@Option @PySem.FnShape)) @Bool)) (fun (v1 : @PySem.OsState) => (@PySem.W.Fast.tw7317090234206586261 view_39 (@PySem.Shared.mk (heap_515 (@PySem.World.params v0)) (@Array.mk @PySem.GenState []) (@PySem.Drawn.mk 0 0 0 0) (nat_lit 888) v1))) (fun (v1 : @PySem.OsState) => (@PySem.W.wideGood view_39)))) := by
  intro w
  kernel_rfl
theorem q539 : (∀ (v0 : @PySem.World), (@Eq (∀ (v1 : @PySem.OsState), (@List (@Prod (@Option (@Prod (@List (@Option @PySem.FnShape)) @Bool)) (@Option (@Prod @PyProof.Rows.PlainShape @Bool))))) (fun (v1 : @PySem.OsState) => (@PySem.W.Fast.tw7369524293546568484 view_39 [z58, z31, z61, z68, z118] (@PySem.Shared.mk (heap_515 (@PySem.World.params v0)) (@Array.mk @PySem.GenState []) (@PySem.Drawn.mk 0 0 0 0) (nat_lit 888) v1))) (fun (v1 : @PySem.OsState) => (@PySem.W.clsGoodW view_39 [z58, z31, z61, z68, z118])))) := by
  intro w
  kernel_rfl
end
section
theorem q47 : (∀ (v0 : @PySem.World), (@Eq (∀ (v1 : @PySem.OsState), (@Option (@Prod @PySem.Shared @PySem.Thread))) (fun (v1 : @PySem.OsState) => (@PySem.W.topGo @PySem.treeTable ((@PySem.W.OpenRow.toRowW (@PySem.W.OpenLaw.row @PySem.Challenge.rw_ja0003_02))).1 v0 (nat_lit 11) (@Option.some @PySem.Value (@PySem.Value.ref 6)) (nat_lit 12) (@PySem.Shared.mk (@PySem.W.boot_heap (@PySem.World.params v0)) (@Array.mk @PySem.GenState []) @PySem.W.boot_drawn @PySem.W.boot_toks v1) (@PySem.W.topStub ((@PySem.W.OpenRow.toRowW (@PySem.W.OpenLaw.row @PySem.Challenge.rw_ja0003_02))).1))) (fun (v1 : @PySem.OsState) => (@Option.some (@Prod @PySem.Shared @PySem.Thread) (@Prod.mk @PySem.Shared @PySem.Thread (@PySem.Shared.mk (heap_46 (@PySem.World.params v0)) (@Array.mk @PySem.GenState []) (@PySem.Drawn.mk 0 0 0 0) (nat_lit 187) v1) (@PySem.Thread.mk (@PySem.denote @PySem.treeTable (@PySem.Code.body (@PySem.W.behindTheImports ((@PySem.W.OpenRow.toRowW (@PySem.W.OpenLaw.row @PySem.Challenge.rw_ja0003_02))).1) env_41)) (@PySem.Code.body (@PySem.W.behindTheImports ((@PySem.W.OpenRow.toRowW (@PySem.W.OpenLaw.row @PySem.Challenge.rw_ja0003_02))).1) env_41) (@PySem.Pos.mk 0 0 0 0) [(@PySem.W.topFrame (@PySem.Pos.mk 0 0 0 0))])))))) := by
  try rw [PySem.W.Fast.te15667345088766844465]
  try rw [PySem.W.Fast.te14364793385576792824]
  try rw [PySem.W.Fast.te2368527892694137696]
  try rw [PySem.W.Fast.te11892475500146522536]
  exact q46
theorem q49 : (∀ (v0 : @PySem.World), (@Eq (∀ (v1 : @PySem.OsState), (@Option (@Prod @PySem.Flow (@Prod @PySem.Shared (@Prod @PySem.Code @PySem.Pos))))) (fun (v1 : @PySem.OsState) => (@PySem.W.segRun @PySem.treeTable ((@PySem.W.OpenRow.toRowW (@PySem.W.OpenLaw.row @PySem.Challenge.rw_ja0003_02))).1 v0 (nat_lit 11) (@Option.some @PySem.Value (@PySem.Value.ref 6)) (nat_lit 1) (nat_lit 1) (@PySem.Shared.mk (heap_46 (@PySem.World.params v0)) (@Array.mk @PySem.GenState []) (@PySem.Drawn.mk 0 0 0 0) (nat_lit 187) v1) (@PySem.W.blockOf (@PySem.W.behindTheImports ((@PySem.W.OpenRow.toRowW (@PySem.W.OpenLaw.row @PySem.Challenge.rw_ja0003_02))).1) env_41 (@PySem.Code.body (@PySem.W.behindTheImports ((@PySem.W.OpenRow.toRowW (@PySem.W.OpenLaw.row @PySem.Challenge.rw_ja0003_02))).1) env_41) (@PySem.Pos.mk 0 0 0 0) [(@PySem.W.topFrame (@PySem.Pos.mk 0 0 0 0))]))) (fun (v1 : @PySem.OsState) => (@Option.some (@Prod @PySem.Flow (@Prod @PySem.Shared (@Prod @PySem.Code @PySem.Pos))) (@Prod.mk @PySem.Flow (@Prod @PySem.Shared (@Prod @PySem.Code @PySem.Pos)) @PySem.Flow.next (@Prod.mk @PySem.Shared (@Prod @PySem.Code @PySem.Pos) (@PySem.W.SharedT.abs (@PySem.W.SharedT.mk (tree_47 (@PySem.World.params v0)) (nat_lit 15) (@PySem.Life.mk [] [] [] 0 [] [] @Bool.false #[] [] 0 @Bool.false @Bool.false @Bool.false 0 [2000, 10, 10] @Bool.false 0 @Bool.true [] [] 0 @Bool.false) (@Array.mk @PySem.GenState []) (@PySem.Drawn.mk 0 0 0 0) (nat_lit 187) v1)) (@Prod.mk @PySem.Code @PySem.Pos (@PySem.Code.body (@PySem.W.behindTheImports ((@PySem.W.OpenRow.toRowW (@PySem.W.OpenLaw.row @PySem.Challenge.rw_ja0003_02))).1) env_41) (@PySem.Pos.mk 0 0 0 0)))))))) := by
  try rw [PySem.W.Fast.te14374325043358763698]
  try rw [PySem.W.Fast.te14364793385576792824]
  try rw [PySem.W.Fast.te2368527892694137696]
  exact q48
theorem q71 : (∀ (v0 : @PySem.World), (@Eq (∀ (v1 : @PySem.OsState), (@Option (@Prod @PySem.Flow (@Prod @PySem.W.SharedT (@Prod @PySem.Code @PySem.Pos))))) (fun (v1 : @PySem.OsState) => (@PySem.W.segRunT @PySem.treeTable ((@PySem.W.OpenRow.toRowW (@PySem.W.OpenLaw.row @PySem.Challenge.rw_ja0003_02))).1 v0 (nat_lit 11) (@Option.some @PySem.Value (@PySem.Value.ref 6)) (nat_lit 1) (nat_lit 252) (@PySem.W.SharedT.mk (tree_47 (@PySem.World.params v0)) (nat_lit 15) (@PySem.Life.mk [] [] [] 0 [] [] @Bool.false #[] [] 0 @Bool.false @Bool.false @Bool.false 0 [2000, 10, 10] @Bool.false 0 @Bool.true [] [] 0 @Bool.false) (@Array.mk @PySem.GenState []) (@PySem.Drawn.mk 0 0 0 0) (nat_lit 187) v1) (@PySem.W.piecesOf sts_49 env_41 (@PySem.Code.body (@PySem.W.behindTheImports ((@PySem.W.OpenRow.toRowW (@PySem.W.OpenLaw.row @PySem.Challenge.rw_ja0003_02))).1) env_41) (@PySem.Pos.mk 0 0 0 0) [(@PySem.W.topFrame (@PySem.Pos.mk 0 0 0 0))]))) (fun (v1 : @PySem.OsState) => (@Option.some (@Prod @PySem.Flow (@Prod @PySem.W.SharedT (@Prod @PySem.Code @PySem.Pos))) (@Prod.mk @PySem.Flow (@Prod @PySem.W.SharedT (@Prod @PySem.Code @PySem.Pos)) @PySem.Flow.next (@Prod.mk @PySem.W.SharedT (@Prod @PySem.Code @PySem.Pos) (@PySem.W.SharedT.mk (tree_70 (@PySem.World.params v0)) (nat_lit 35) (@PySem.Life.mk [] [] [] 0 [] [] @Bool.false #[] [] 0 @Bool.false @Bool.false @Bool.false 0 [2000, 10, 10] @Bool.false 0 @Bool.true [] [] 0 @Bool.false) (@Array.mk @PySem.GenState []) (@PySem.Drawn.mk 0 0 0 0) (nat_lit 220) v1) (@Prod.mk @PySem.Code @PySem.Pos (@PySem.Code.body (@PySem.W.behindTheImports ((@PySem.W.OpenRow.toRowW (@PySem.W.OpenLaw.row @PySem.Challenge.rw_ja0003_02))).1) env_41) (@PySem.Pos.mk 8 0 9 8)))))))) := by
  try rw [PySem.W.Fast.te10110043849684766642]
  try rw [PySem.W.Fast.te14364793385576792824]
  try rw [PySem.W.Fast.te2368527892694137696]
  exact q70
theorem q115 : (∀ (v0 : @PySem.World), (@Eq (∀ (v1 : @PySem.OsState), (@Option (@Prod @PySem.Flow (@Prod @PySem.W.SharedT (@Prod @PySem.Code @PySem.Pos))))) (fun (v1 : @PySem.OsState) => (@PySem.W.segRunT @PySem.treeTable ((@PySem.W.OpenRow.toRowW (@PySem.W.OpenLaw.row @PySem.Challenge.rw_ja0003_02))).1 v0 (nat_lit 11) (@Option.some @PySem.Value (@PySem.Value.ref 6)) (nat_lit 1) (nat_lit 330) (@PySem.W.SharedT.mk (tree_70 (@PySem.World.params v0)) (nat_lit 35) (@PySem.Life.mk [] [] [] 0 [] [] @Bool.false #[] [] 0 @Bool.false @Bool.false @Bool.false 0 [2000, 10, 10] @Bool.false 0 @Bool.true [] [] 0 @Bool.false) (@Array.mk @PySem.GenState []) (@PySem.Drawn.mk 0 0 0 0) (nat_lit 220) v1) (@PySem.W.piecesOf sts_71 env_41 (@PySem.Code.body (@PySem.W.behindTheImports ((@PySem.W.OpenRow.toRowW (@PySem.W.OpenLaw.row @PySem.Challenge.rw_ja0003_02))).1) env_41) (@PySem.Pos.mk 8 0 9 8) [(@PySem.W.topFrame (@PySem.Pos.mk 0 0 0 0))]))) (fun (v1 : @PySem.OsState) => (@Option.some (@Prod @PySem.Flow (@Prod @PySem.W.SharedT (@Prod @PySem.Code @PySem.Pos))) (@Prod.mk @PySem.Flow (@Prod @PySem.W.SharedT (@Prod @PySem.Code @PySem.Pos)) @PySem.Flow.next (@Prod.mk @PySem.W.SharedT (@Prod @PySem.Code @PySem.Pos) (@PySem.W.SharedT.mk (tree_114 (@PySem.World.params v0)) (nat_lit 77) (@PySem.Life.mk [] [] [] 0 [] [] @Bool.false #[] [] 0 @Bool.false @Bool.false @Bool.false 0 [2000, 10, 10] @Bool.false 0 @Bool.true [] [] 0 @Bool.false) (@Array.mk @PySem.GenState []) (@PySem.Drawn.mk 0 0 0 0) (nat_lit 284) v1) (@Prod.mk @PySem.Code @PySem.Pos (@PySem.Code.body (@PySem.W.behindTheImports ((@PySem.W.OpenRow.toRowW (@PySem.W.OpenLaw.row @PySem.Challenge.rw_ja0003_02))).1) env_41) (@PySem.Pos.mk 10 0 32 76)))))))) := by
  try rw [PySem.W.Fast.te10110043849684766642]
  try rw [PySem.W.Fast.te14364793385576792824]
  try rw [PySem.W.Fast.te2368527892694137696]
  exact q114
theorem q159 : (∀ (v0 : @PySem.World), (@Eq (∀ (v1 : @PySem.OsState), (@Option (@Prod @PySem.Flow (@Prod @PySem.W.SharedT (@Prod @PySem.Code @PySem.Pos))))) (fun (v1 : @PySem.OsState) => (@PySem.W.segRunT @PySem.treeTable ((@PySem.W.OpenRow.toRowW (@PySem.W.OpenLaw.row @PySem.Challenge.rw_ja0003_02))).1 v0 (nat_lit 11) (@Option.some @PySem.Value (@PySem.Value.ref 6)) (nat_lit 1) (nat_lit 355) (@PySem.W.SharedT.mk (tree_114 (@PySem.World.params v0)) (nat_lit 77) (@PySem.Life.mk [] [] [] 0 [] [] @Bool.false #[] [] 0 @Bool.false @Bool.false @Bool.false 0 [2000, 10, 10] @Bool.false 0 @Bool.true [] [] 0 @Bool.false) (@Array.mk @PySem.GenState []) (@PySem.Drawn.mk 0 0 0 0) (nat_lit 284) v1) (@PySem.W.piecesOf sts_115 env_41 (@PySem.Code.body (@PySem.W.behindTheImports ((@PySem.W.OpenRow.toRowW (@PySem.W.OpenLaw.row @PySem.Challenge.rw_ja0003_02))).1) env_41) (@PySem.Pos.mk 10 0 32 76) [(@PySem.W.topFrame (@PySem.Pos.mk 0 0 0 0))]))) (fun (v1 : @PySem.OsState) => (@Option.some (@Prod @PySem.Flow (@Prod @PySem.W.SharedT (@Prod @PySem.Code @PySem.Pos))) (@Prod.mk @PySem.Flow (@Prod @PySem.W.SharedT (@Prod @PySem.Code @PySem.Pos)) @PySem.Flow.next (@Prod.mk @PySem.W.SharedT (@Prod @PySem.Code @PySem.Pos) (@PySem.W.SharedT.mk (tree_158 (@PySem.World.params v0)) (nat_lit 119) (@PySem.Life.mk [] [] [] 0 [] [] @Bool.false #[] [] 0 @Bool.false @Bool.false @Bool.false 0 [2000, 10, 10] @Bool.false 0 @Bool.true [] [] 0 @Bool.false) (@Array.mk @PySem.GenState []) (@PySem.Drawn.mk 0 0 0 0) (nat_lit 359) v1) (@Prod.mk @PySem.Code @PySem.Pos (@PySem.Code.body (@PySem.W.behindTheImports ((@PySem.W.OpenRow.toRowW (@PySem.W.OpenLaw.row @PySem.Challenge.rw_ja0003_02))).1) env_41) (@PySem.Pos.mk 76 0 76 18)))))))) := by
  try rw [PySem.W.Fast.te10110043849684766642]
  try rw [PySem.W.Fast.te14364793385576792824]
  try rw [PySem.W.Fast.te2368527892694137696]
  exact q158
theorem q189 : (∀ (v0 : @PySem.World), (@Eq (∀ (v1 : @PySem.OsState), (@Option (@Prod @PySem.Flow (@Prod @PySem.W.SharedT (@Prod @PySem.Code @PySem.Pos))))) (fun (v1 : @PySem.OsState) => (@PySem.W.segRunT @PySem.treeTable ((@PySem.W.OpenRow.toRowW (@PySem.W.OpenLaw.row @PySem.Challenge.rw_ja0003_02))).1 v0 (nat_lit 11) (@Option.some @PySem.Value (@PySem.Value.ref 6)) (nat_lit 1) (nat_lit 292) (@PySem.W.SharedT.mk (tree_158 (@PySem.World.params v0)) (nat_lit 119) (@PySem.Life.mk [] [] [] 0 [] [] @Bool.false #[] [] 0 @Bool.false @Bool.false @Bool.false 0 [2000, 10, 10] @Bool.false 0 @Bool.true [] [] 0 @Bool.false) (@Array.mk @PySem.GenState []) (@PySem.Drawn.mk 0 0 0 0) (nat_lit 359) v1) (@PySem.W.piecesOf sts_159 env_41 (@PySem.Code.body (@PySem.W.behindTheImports ((@PySem.W.OpenRow.toRowW (@PySem.W.OpenLaw.row @PySem.Challenge.rw_ja0003_02))).1) env_41) (@PySem.Pos.mk 76 0 76 18) [(@PySem.W.topFrame (@PySem.Pos.mk 0 0 0 0))]))) (fun (v1 : @PySem.OsState) => (@Option.some (@Prod @PySem.Flow (@Prod @PySem.W.SharedT (@Prod @PySem.Code @PySem.Pos))) (@Prod.mk @PySem.Flow (@Prod @PySem.W.SharedT (@Prod @PySem.Code @PySem.Pos)) @PySem.Flow.next (@Prod.mk @PySem.W.SharedT (@Prod @PySem.Code @PySem.Pos) (@PySem.W.SharedT.mk (tree_188 (@PySem.World.params v0)) (nat_lit 147) (@PySem.Life.mk [] [] [] 0 [] [] @Bool.false #[] [] 0 @Bool.false @Bool.false @Bool.false 0 [2000, 10, 10] @Bool.false 0 @Bool.true [] [] 0 @Bool.false) (@Array.mk @PySem.GenState []) (@PySem.Drawn.mk 0 0 0 0) (nat_lit 406) v1) (@Prod.mk @PySem.Code @PySem.Pos (@PySem.Code.body (@PySem.W.behindTheImports ((@PySem.W.OpenRow.toRowW (@PySem.W.OpenLaw.row @PySem.Challenge.rw_ja0003_02))).1) env_41) (@PySem.Pos.mk 93 0 93 8)))))))) := by
  try rw [PySem.W.Fast.te10110043849684766642]
  try rw [PySem.W.Fast.te14364793385576792824]
  try rw [PySem.W.Fast.te2368527892694137696]
  exact q188
theorem q230 : (∀ (v0 : @PySem.World), (@Eq (∀ (v1 : @PySem.OsState), (@Option (@Prod @PySem.Flow (@Prod @PySem.W.SharedT (@Prod @PySem.Code @PySem.Pos))))) (fun (v1 : @PySem.OsState) => (@PySem.W.segRunT @PySem.treeTable ((@PySem.W.OpenRow.toRowW (@PySem.W.OpenLaw.row @PySem.Challenge.rw_ja0003_02))).1 (@PySem.World.withFollow v0 "special-get-raises" @Bool.false) (nat_lit 11) (@Option.some @PySem.Value (@PySem.Value.ref 6)) (nat_lit 1) (nat_lit 400) (@PySem.W.SharedT.mk (tree_188 (@PySem.World.params (@PySem.World.withFollow v0 "special-get-raises" @Bool.false))) (nat_lit 147) (@PySem.Life.mk [] [] [] 0 [] [] @Bool.false #[] [] 0 @Bool.false @Bool.false @Bool.false 0 [2000, 10, 10] @Bool.false 0 @Bool.true [] [] 0 @Bool.false) (@Array.mk @PySem.GenState []) (@PySem.Drawn.mk 0 0 0 0) (nat_lit 406) v1) (@PySem.W.piecesOf sts_189 env_41 (@PySem.Code.body (@PySem.W.behindTheImports ((@PySem.W.OpenRow.toRowW (@PySem.W.OpenLaw.row @PySem.Challenge.rw_ja0003_02))).1) env_41) (@PySem.Pos.mk 93 0 93 8) [(@PySem.W.topFrame (@PySem.Pos.mk 0 0 0 0))]))) (fun (v1 : @PySem.OsState) => (@Option.some (@Prod @PySem.Flow (@Prod @PySem.W.SharedT (@Prod @PySem.Code @PySem.Pos))) (@Prod.mk @PySem.Flow (@Prod @PySem.W.SharedT (@Prod @PySem.Code @PySem.Pos)) @PySem.Flow.next (@Prod.mk @PySem.W.SharedT (@Prod @PySem.Code @PySem.Pos) (@PySem.W.SharedT.mk (tree_229 (@PySem.World.params (@PySem.World.withFollow v0 "special-get-raises" @Bool.false))) (nat_lit 186) (@PySem.Life.mk [] [] [] 0 [] [] @Bool.false #[] [] 0 @Bool.false @Bool.false @Bool.false 0 [2000, 10, 10] @Bool.false 0 @Bool.true [] [] 0 @Bool.false) (@Array.mk @PySem.GenState []) (@PySem.Drawn.mk 0 0 0 0) (nat_lit 480) v1) (@Prod.mk @PySem.Code @PySem.Pos (@PySem.Code.body (@PySem.W.behindTheImports ((@PySem.W.OpenRow.toRowW (@PySem.W.OpenLaw.row @PySem.Challenge.rw_ja0003_02))).1) env_41) (@PySem.Pos.mk 109 0 109 22)))))))) := by
  try rw [PySem.W.Fast.te10110043849684766642]
  try rw [PySem.W.Fast.te14364793385576792824]
  try rw [PySem.W.Fast.te2368527892694137696]
  exact q229
theorem q232 : (∀ (v0 : @PySem.World), (@Eq (∀ (v1 : @PySem.OsState), (@Option (@Prod @PySem.Flow (@Prod @PySem.W.SharedT (@Prod @PySem.Code @PySem.Pos))))) (fun (v1 : @PySem.OsState) => (@PySem.W.segRunT @PySem.treeTable ((@PySem.W.OpenRow.toRowW (@PySem.W.OpenLaw.row @PySem.Challenge.rw_ja0003_02))).1 (@PySem.World.withFollow v0 "special-get-raises" @Bool.true) (nat_lit 11) (@Option.some @PySem.Value (@PySem.Value.ref 6)) (nat_lit 1) (nat_lit 400) (@PySem.W.SharedT.mk (tree_188 (@PySem.World.params (@PySem.World.withFollow v0 "special-get-raises" @Bool.true))) (nat_lit 147) (@PySem.Life.mk [] [] [] 0 [] [] @Bool.false #[] [] 0 @Bool.false @Bool.false @Bool.false 0 [2000, 10, 10] @Bool.false 0 @Bool.true [] [] 0 @Bool.false) (@Array.mk @PySem.GenState []) (@PySem.Drawn.mk 0 0 0 0) (nat_lit 406) v1) (@PySem.W.piecesOf sts_189 env_41 (@PySem.Code.body (@PySem.W.behindTheImports ((@PySem.W.OpenRow.toRowW (@PySem.W.OpenLaw.row @PySem.Challenge.rw_ja0003_02))).1) env_41) (@PySem.Pos.mk 93 0 93 8) [(@PySem.W.topFrame (@PySem.Pos.mk 0 0 0 0))]))) (fun (v1 : @PySem.OsState) => (@Option.some (@Prod @PySem.Flow (@Prod @PySem.W.SharedT (@Prod @PySem.Code @PySem.Pos))) (@Prod.mk @PySem.Flow (@Prod @PySem.W.SharedT (@Prod @PySem.Code @PySem.Pos)) @PySem.Flow.next (@Prod.mk @PySem.W.SharedT (@Prod @PySem.Code @PySem.Pos) (@PySem.W.SharedT.mk (tree_229 (@PySem.World.params (@PySem.World.withFollow v0 "special-get-raises" @Bool.true))) (nat_lit 186) (@PySem.Life.mk [] [] [] 0 [] [] @Bool.false #[] [] 0 @Bool.false @Bool.false @Bool.false 0 [2000, 10, 10] @Bool.false 0 @Bool.true [] [] 0 @Bool.false) (@Array.mk @PySem.GenState []) (@PySem.Drawn.mk 0 0 0 0) (nat_lit 480) v1) (@Prod.mk @PySem.Code @PySem.Pos (@PySem.Code.body (@PySem.W.behindTheImports ((@PySem.W.OpenRow.toRowW (@PySem.W.OpenLaw.row @PySem.Challenge.rw_ja0003_02))).1) env_41) (@PySem.Pos.mk 109 0 109 22)))))))) := by
  try rw [PySem.W.Fast.te10110043849684766642]
  try rw [PySem.W.Fast.te14364793385576792824]
  try rw [PySem.W.Fast.te2368527892694137696]
  exact q231
theorem q261 : (∀ (v0 : @PySem.World), (@Eq (∀ (v1 : @PySem.OsState), (@Option (@Prod @PySem.Flow (@Prod @PySem.W.SharedT (@Prod @PySem.Code @PySem.Pos))))) (fun (v1 : @PySem.OsState) => (@PySem.W.segRunT @PySem.treeTable ((@PySem.W.OpenRow.toRowW (@PySem.W.OpenLaw.row @PySem.Challenge.rw_ja0003_02))).1 v0 (nat_lit 11) (@Option.some @PySem.Value (@PySem.Value.ref 6)) (nat_lit 1) (nat_lit 277) (@PySem.W.SharedT.mk (tree_229 (@PySem.World.params v0)) (nat_lit 186) (@PySem.Life.mk [] [] [] 0 [] [] @Bool.false #[] [] 0 @Bool.false @Bool.false @Bool.false 0 [2000, 10, 10] @Bool.false 0 @Bool.true [] [] 0 @Bool.false) (@Array.mk @PySem.GenState []) (@PySem.Drawn.mk 0 0 0 0) (nat_lit 480) v1) (@PySem.W.piecesOf sts_232 env_41 (@PySem.Code.body (@PySem.W.behindTheImports ((@PySem.W.OpenRow.toRowW (@PySem.W.OpenLaw.row @PySem.Challenge.rw_ja0003_02))).1) env_41) (@PySem.Pos.mk 109 0 109 22) [(@PySem.W.topFrame (@PySem.Pos.mk 0 0 0 0))]))) (fun (v1 : @PySem.OsState) => (@Option.some (@Prod @PySem.Flow (@Prod @PySem.W.SharedT (@Prod @PySem.Code @PySem.Pos))) (@Prod.mk @PySem.Flow (@Prod @PySem.W.SharedT (@Prod @PySem.Code @PySem.Pos)) @PySem.Flow.next (@Prod.mk @PySem.W.SharedT (@Prod @PySem.Code @PySem.Pos) (@PySem.W.SharedT.mk (tree_260 (@PySem.World.params v0)) (nat_lit 212) (@PySem.Life.mk [] [] [] 0 [] [] @Bool.false #[] [] 0 @Bool.false @Bool.false @Bool.false 0 [2000, 10, 10] @Bool.false 0 @Bool.true [] [] 0 @Bool.false) (@Array.mk @PySem.GenState []) (@PySem.Drawn.mk 0 0 0 0) (nat_lit 515) v1) (@Prod.mk @PySem.Code @PySem.Pos (@PySem.Code.body (@PySem.W.behindTheImports ((@PySem.W.OpenRow.toRowW (@PySem.W.OpenLaw.row @PySem.Challenge.rw_ja0003_02))).1) env_41) (@PySem.Pos.mk 114 0 123 241)))))))) := by
  try rw [PySem.W.Fast.te10110043849684766642]
  try rw [PySem.W.Fast.te14364793385576792824]
  try rw [PySem.W.Fast.te2368527892694137696]
  exact q260
theorem q320 : (∀ (v0 : @PySem.World), (@Eq (∀ (v1 : @PySem.OsState), (@Option (@Prod @PySem.Flow (@Prod @PySem.W.SharedT (@Prod @PySem.Code @PySem.Pos))))) (fun (v1 : @PySem.OsState) => (@PySem.W.segRunT @PySem.treeTable ((@PySem.W.OpenRow.toRowW (@PySem.W.OpenLaw.row @PySem.Challenge.rw_ja0003_02))).1 v0 (nat_lit 11) (@Option.some @PySem.Value (@PySem.Value.ref 6)) (nat_lit 1) (nat_lit 421) (@PySem.W.SharedT.mk (tree_260 (@PySem.World.params v0)) (nat_lit 212) (@PySem.Life.mk [] [] [] 0 [] [] @Bool.false #[] [] 0 @Bool.false @Bool.false @Bool.false 0 [2000, 10, 10] @Bool.false 0 @Bool.true [] [] 0 @Bool.false) (@Array.mk @PySem.GenState []) (@PySem.Drawn.mk 0 0 0 0) (nat_lit 515) v1) (@PySem.W.piecesOf sts_261 env_41 (@PySem.Code.body (@PySem.W.behindTheImports ((@PySem.W.OpenRow.toRowW (@PySem.W.OpenLaw.row @PySem.Challenge.rw_ja0003_02))).1) env_41) (@PySem.Pos.mk 114 0 123 241) [(@PySem.W.topFrame (@PySem.Pos.mk 0 0 0 0))]))) (fun (v1 : @PySem.OsState) => (@Option.some (@Prod @PySem.Flow (@Prod @PySem.W.SharedT (@Prod @PySem.Code @PySem.Pos))) (@Prod.mk @PySem.Flow (@Prod @PySem.W.SharedT (@Prod @PySem.Code @PySem.Pos)) @PySem.Flow.next (@Prod.mk @PySem.W.SharedT (@Prod @PySem.Code @PySem.Pos) (@PySem.W.SharedT.mk (tree_319 (@PySem.World.params v0)) (nat_lit 269) (@PySem.Life.mk [] [] [] 0 [] [] @Bool.false #[] [] 0 @Bool.false @Bool.false @Bool.false 0 [2000, 10, 10] @Bool.false 0 @Bool.true [] [] 0 @Bool.false) (@Array.mk @PySem.GenState []) (@PySem.Drawn.mk 0 0 0 0) (nat_lit 613) v1) (@Prod.mk @PySem.Code @PySem.Pos (@PySem.Code.body (@PySem.W.behindTheImports ((@PySem.W.OpenRow.toRowW (@PySem.W.OpenLaw.row @PySem.Challenge.rw_ja0003_02))).1) env_41) (@PySem.Pos.mk 124 0 171 16)))))))) := by
  try rw [PySem.W.Fast.te10110043849684766642]
  try rw [PySem.W.Fast.te14364793385576792824]
  try rw [PySem.W.Fast.te2368527892694137696]
  exact q319
theorem q336 : (∀ (v0 : @PySem.World), (@Eq (∀ (v1 : @PySem.OsState), (@Option (@Prod @PySem.Flow (@Prod @PySem.W.SharedT (@Prod @PySem.Code @PySem.Pos))))) (fun (v1 : @PySem.OsState) => (@PySem.W.segRunT @PySem.treeTable ((@PySem.W.OpenRow.toRowW (@PySem.W.OpenLaw.row @PySem.Challenge.rw_ja0003_02))).1 v0 (nat_lit 11) (@Option.some @PySem.Value (@PySem.Value.ref 6)) (nat_lit 1) (nat_lit 64) (@PySem.W.SharedT.mk (tree_319 (@PySem.World.params v0)) (nat_lit 269) (@PySem.Life.mk [] [] [] 0 [] [] @Bool.false #[] [] 0 @Bool.false @Bool.false @Bool.false 0 [2000, 10, 10] @Bool.false 0 @Bool.true [] [] 0 @Bool.false) (@Array.mk @PySem.GenState []) (@PySem.Drawn.mk 0 0 0 0) (nat_lit 613) v1) (@PySem.W.piecesOf sts_320 env_41 (@PySem.Code.body (@PySem.W.behindTheImports ((@PySem.W.OpenRow.toRowW (@PySem.W.OpenLaw.row @PySem.Challenge.rw_ja0003_02))).1) env_41) (@PySem.Pos.mk 124 0 171 16) [(@PySem.W.topFrame (@PySem.Pos.mk 0 0 0 0))]))) (fun (v1 : @PySem.OsState) => (@Option.some (@Prod @PySem.Flow (@Prod @PySem.W.SharedT (@Prod @PySem.Code @PySem.Pos))) (@Prod.mk @PySem.Flow (@Prod @PySem.W.SharedT (@Prod @PySem.Code @PySem.Pos)) @PySem.Flow.next (@Prod.mk @PySem.W.SharedT (@Prod @PySem.Code @PySem.Pos) (@PySem.W.SharedT.mk (tree_335 (@PySem.World.params v0)) (nat_lit 283) (@PySem.Life.mk [] [] [] 0 [] [] @Bool.false #[] [] 0 @Bool.false @Bool.false @Bool.false 0 [2000, 10, 10] @Bool.false 0 @Bool.true [] [] 0 @Bool.false) (@Array.mk @PySem.GenState []) (@PySem.Drawn.mk 0 0 0 0) (nat_lit 632) v1) (@Prod.mk @PySem.Code @PySem.Pos (@PySem.Code.body (@PySem.W.behindTheImports ((@PySem.W.OpenRow.toRowW (@PySem.W.OpenLaw.row @PySem.Challenge.rw_ja0003_02))).1) env_41) (@PySem.Pos.mk 177 0 185 17)))))))) := by
  try rw [PySem.W.Fast.te10110043849684766642]
  try rw [PySem.W.Fast.te14364793385576792824]
  try rw [PySem.W.Fast.te2368527892694137696]
  exact q335
theorem q410 : (∀ (v0 : @PySem.World), (@Eq (∀ (v1 : @PySem.OsState), (@Option (@Prod @PySem.Flow (@Prod @PySem.W.SharedT (@Prod @PySem.Code @PySem.Pos))))) (fun (v1 : @PySem.OsState) => (@PySem.W.segRunT @PySem.treeTable ((@PySem.W.OpenRow.toRowW (@PySem.W.OpenLaw.row @PySem.Challenge.rw_ja0003_02))).1 v0 (nat_lit 11) (@Option.some @PySem.Value (@PySem.Value.ref 6)) (nat_lit 1) (nat_lit 542) (@PySem.W.SharedT.mk (tree_335 (@PySem.World.params v0)) (nat_lit 283) (@PySem.Life.mk [] [] [] 0 [] [] @Bool.false #[] [] 0 @Bool.false @Bool.false @Bool.false 0 [2000, 10, 10] @Bool.false 0 @Bool.true [] [] 0 @Bool.false) (@Array.mk @PySem.GenState []) (@PySem.Drawn.mk 0 0 0 0) (nat_lit 632) v1) (@PySem.W.piecesOf sts_336 env_41 (@PySem.Code.body (@PySem.W.behindTheImports ((@PySem.W.OpenRow.toRowW (@PySem.W.OpenLaw.row @PySem.Challenge.rw_ja0003_02))).1) env_41) (@PySem.Pos.mk 177 0 185 17) [(@PySem.W.topFrame (@PySem.Pos.mk 0 0 0 0))]))) (fun (v1 : @PySem.OsState) => (@Option.some (@Prod @PySem.Flow (@Prod @PySem.W.SharedT (@Prod @PySem.Code @PySem.Pos))) (@Prod.mk @PySem.Flow (@Prod @PySem.W.SharedT (@Prod @PySem.Code @PySem.Pos)) @PySem.Flow.next (@Prod.mk @PySem.W.SharedT (@Prod @PySem.Code @PySem.Pos) (@PySem.W.SharedT.mk (tree_409 (@PySem.World.params v0)) (nat_lit 355) (@PySem.Life.mk [] [] [] 0 [] [] @Bool.false #[] [] 0 @Bool.false @Bool.false @Bool.false 0 [2000, 10, 10] @Bool.false 0 @Bool.true [] [] 0 @Bool.false) (@Array.mk @PySem.GenState []) (@PySem.Drawn.mk 0 0 0 0) (nat_lit 738) v1) (@Prod.mk @PySem.Code @PySem.Pos (@PySem.Code.body (@PySem.W.behindTheImports ((@PySem.W.OpenRow.toRowW (@PySem.W.OpenLaw.row @PySem.Challenge.rw_ja0003_02))).1) env_41) (@PySem.Pos.mk 186 0 236 42)))))))) := by
  try rw [PySem.W.Fast.te10110043849684766642]
  try rw [PySem.W.Fast.te14364793385576792824]
  try rw [PySem.W.Fast.te2368527892694137696]
  exact q409
theorem q494 : (∀ (v0 : @PySem.World), (@Eq (∀ (v1 : @PySem.OsState), (@Option (@Prod @PySem.Flow (@Prod @PySem.W.SharedT (@Prod @PySem.Code @PySem.Pos))))) (fun (v1 : @PySem.OsState) => (@PySem.W.segRunT @PySem.treeTable ((@PySem.W.OpenRow.toRowW (@PySem.W.OpenLaw.row @PySem.Challenge.rw_ja0003_02))).1 v0 (nat_lit 11) (@Option.some @PySem.Value (@PySem.Value.ref 6)) (nat_lit 1) (nat_lit 389) (@PySem.W.SharedT.mk (tree_409 (@PySem.World.params v0)) (nat_lit 355) (@PySem.Life.mk [] [] [] 0 [] [] @Bool.false #[] [] 0 @Bool.false @Bool.false @Bool.false 0 [2000, 10, 10] @Bool.false 0 @Bool.true [] [] 0 @Bool.false) (@Array.mk @PySem.GenState []) (@PySem.Drawn.mk 0 0 0 0) (nat_lit 738) v1) (@PySem.W.piecesOf sts_410 env_41 (@PySem.Code.body (@PySem.W.behindTheImports ((@PySem.W.OpenRow.toRowW (@PySem.W.OpenLaw.row @PySem.Challenge.rw_ja0003_02))).1) env_41) (@PySem.Pos.mk 186 0 236 42) [(@PySem.W.topFrame (@PySem.Pos.mk 0 0 0 0))]))) (fun (v1 : @PySem.OsState) => (@Option.some (@Prod @PySem.Flow (@Prod @PySem.W.SharedT (@Prod @PySem.Code @PySem.Pos))) (@Prod.mk @PySem.Flow (@Prod @PySem.W.SharedT (@Prod @PySem.Code @PySem.Pos)) @PySem.Flow.next (@Prod.mk @PySem.W.SharedT (@Prod @PySem.Code @PySem.Pos) (@PySem.W.SharedT.mk (tree_493 (@PySem.World.params v0)) (nat_lit 437) (@PySem.Life.mk [] [] [] 0 [] [] @Bool.false #[] [] 0 @Bool.false @Bool.false @Bool.false 0 [2000, 10, 10] @Bool.false 0 @Bool.true [] [] 0 @Bool.false) (@Array.mk @PySem.GenState []) (@PySem.Drawn.mk 0 0 0 0) (nat_lit 857) v1) (@Prod.mk @PySem.Code @PySem.Pos (@PySem.Code.body (@PySem.W.behindTheImports ((@PySem.W.OpenRow.toRowW (@PySem.W.OpenLaw.row @PySem.Challenge.rw_ja0003_02))).1) env_41) (@PySem.Pos.mk 294 0 296 102)))))))) := by
  try rw [PySem.W.Fast.te10110043849684766642]
  try rw [PySem.W.Fast.te14364793385576792824]
  try rw [PySem.W.Fast.te2368527892694137696]
  exact q493
theorem q515 : (∀ (v0 : @PySem.World), (@Eq (∀ (v1 : @PySem.OsState), (@Option (@Prod @PySem.Flow (@Prod @PySem.W.SharedT (@Prod @PySem.Code @PySem.Pos))))) (fun (v1 : @PySem.OsState) => (@PySem.W.segRunT @PySem.treeTable ((@PySem.W.OpenRow.toRowW (@PySem.W.OpenLaw.row @PySem.Challenge.rw_ja0003_02))).1 v0 (nat_lit 11) (@Option.some @PySem.Value (@PySem.Value.ref 6)) (nat_lit 1) (nat_lit 96) (@PySem.W.SharedT.mk (tree_493 (@PySem.World.params v0)) (nat_lit 437) (@PySem.Life.mk [] [] [] 0 [] [] @Bool.false #[] [] 0 @Bool.false @Bool.false @Bool.false 0 [2000, 10, 10] @Bool.false 0 @Bool.true [] [] 0 @Bool.false) (@Array.mk @PySem.GenState []) (@PySem.Drawn.mk 0 0 0 0) (nat_lit 857) v1) (@PySem.W.piecesOf sts_494 env_41 (@PySem.Code.body (@PySem.W.behindTheImports ((@PySem.W.OpenRow.toRowW (@PySem.W.OpenLaw.row @PySem.Challenge.rw_ja0003_02))).1) env_41) (@PySem.Pos.mk 294 0 296 102) [(@PySem.W.topFrame (@PySem.Pos.mk 0 0 0 0))]))) (fun (v1 : @PySem.OsState) => (@Option.some (@Prod @PySem.Flow (@Prod @PySem.W.SharedT (@Prod @PySem.Code @PySem.Pos))) (@Prod.mk @PySem.Flow (@Prod @PySem.W.SharedT (@Prod @PySem.Code @PySem.Pos)) @PySem.Flow.next (@Prod.mk @PySem.W.SharedT (@Prod @PySem.Code @PySem.Pos) (@PySem.W.SharedT.mk (tree_514 (@PySem.World.params v0)) (nat_lit 456) (@PySem.Life.mk [] [] [] 0 [] [] @Bool.false #[] [] 0 @Bool.false @Bool.false @Bool.false 0 [2000, 10, 10] @Bool.false 0 @Bool.true [] [] 0 @Bool.false) (@Array.mk @PySem.GenState []) (@PySem.Drawn.mk 0 0 0 0) (nat_lit 888) v1) (@Prod.mk @PySem.Code @PySem.Pos (@PySem.Code.body (@PySem.W.behindTheImports ((@PySem.W.OpenRow.toRowW (@PySem.W.OpenLaw.row @PySem.Challenge.rw_ja0003_02))).1) env_41) (@PySem.Pos.mk 316 0 340 15)))))))) := by
  try rw [PySem.W.Fast.te10110043849684766642]
  try rw [PySem.W.Fast.te14364793385576792824]
  try rw [PySem.W.Fast.te2368527892694137696]
  exact q514
theorem q517 : (∀ (v0 : @PySem.World), (@Eq (∀ (v1 : @PySem.OsState), (@Option @PySem.Shared)) (fun (v1 : @PySem.OsState) => (@PySem.W.topRun @PySem.treeTable ((@PySem.W.OpenRow.toRowW (@PySem.W.OpenLaw.row @PySem.Challenge.rw_ja0003_02))).1 v0 (nat_lit 11) (@Option.some @PySem.Value (@PySem.Value.ref 6)) (nat_lit 2) (@PySem.W.SharedT.abs (@PySem.W.SharedT.mk (tree_514 (@PySem.World.params v0)) (nat_lit 456) (@PySem.Life.mk [] [] [] 0 [] [] @Bool.false #[] [] 0 @Bool.false @Bool.false @Bool.false 0 [2000, 10, 10] @Bool.false 0 @Bool.true [] [] 0 @Bool.false) (@Array.mk @PySem.GenState []) (@PySem.Drawn.mk 0 0 0 0) (nat_lit 888) v1)) (@PySem.Thread.mk (@PySem.W.doneF @PySem.Flow.next) (@PySem.Code.body (@PySem.W.behindTheImports ((@PySem.W.OpenRow.toRowW (@PySem.W.OpenLaw.row @PySem.Challenge.rw_ja0003_02))).1) env_41) (@PySem.Pos.mk 316 0 340 15) [(@PySem.W.topFrame (@PySem.Pos.mk 0 0 0 0))]))) (fun (v1 : @PySem.OsState) => (@Option.some @PySem.Shared (@PySem.Shared.mk (heap_515 (@PySem.World.params v0)) (@Array.mk @PySem.GenState []) (@PySem.Drawn.mk 0 0 0 0) (nat_lit 888) v1))))) := by
  try rw [PySem.W.Fast.te14082659384304107361]
  try rw [PySem.W.Fast.te14364793385576792824]
  try rw [PySem.W.Fast.te2368527892694137696]
  exact q516
theorem q520 : (∀ (v0 : @PySem.World), (@Eq (@Prod @Bool (@Prod @Nat (@Option @PySem.Value))) (@Prod.mk @Bool (@Prod @Nat (@Option @PySem.Value)) (@Bool.and (@PySem.Heap.isNs (@PySem.W.boot_heap (@PySem.World.params v0)) @PySem.mainGlobals) (@BEq.beq @Nat (@instBEqOfDecidableEq @Nat @instDecidableEqNat) (@Array.size @PySem.GenState (@Array.mk @PySem.GenState [])) 0)) (@Prod.mk @Nat (@Option @PySem.Value) (@Array.size @PySem.Obj (@PySem.Heap.objs (@PySem.W.boot_heap (@PySem.World.params v0)))) (@PySem.Heap.nsMap (@PySem.W.boot_heap (@PySem.World.params v0)) @PySem.mainGlobals (@PySem.Str.ofString "__annotations__")))) (@Prod.mk @Bool (@Prod @Nat (@Option @PySem.Value)) @Bool.true (@Prod.mk @Nat (@Option @PySem.Value) (nat_lit 11) (@Option.some @PySem.Value (@PySem.Value.ref 6)))))) := by
  try rw [show (PySem.Str.ofString "__annotations__" : Str) = z47 from by kernel_rfl]
  try rw [PySem.W.Fast.te8920871248978507458]
  exact q519
theorem q522 : (∀ (v0 : @PySem.World), (@Eq (∀ (v1 : @PySem.OsState), @Bool) (fun (v1 : @PySem.OsState) => (@Bool.and (@Bool.and (@Bool.and (@PySem.W.staticsOk (@PySem.importedModules (@PySem.Module.body (@PySem.Program.main ((@PySem.W.OpenRow.toRowW (@PySem.W.OpenLaw.row @PySem.Challenge.rw_ja0003_02))).1))) (@PySem.W.boot_heap (@PySem.World.params v0)) (heap_515 (@PySem.World.params v0))) (@PySem.W.namesBound ((@PySem.W.OpenRow.toRowW (@PySem.W.OpenLaw.row @PySem.Challenge.rw_ja0003_02))).1 (heap_515 (@PySem.World.params v0)))) (@PySem.W.gensDone (@PySem.Shared.mk (heap_515 (@PySem.World.params v0)) (@Array.mk @PySem.GenState []) (@PySem.Drawn.mk 0 0 0 0) (nat_lit 888) v1))) (@PySem.W.laidKept (@PySem.W.boot_heap (@PySem.World.params v0)) (heap_515 (@PySem.World.params v0))))) (fun (v1 : @PySem.OsState) => @Bool.true))) := by
  try rw [PySem.W.Fast.te5923862056798008813]
  try rw [PySem.W.Fast.te2368527892694137696]
  exact q521
theorem q524 : (∀ (v0 : @PySem.World), (@Eq (∀ (v1 : @PySem.OsState), @PyProof.Rows.Seen) (fun (v1 : @PySem.OsState) => (@PyProof.Rows.seen (@List.map @PySem.DefRec @PySem.Str (fun (v2 : @PySem.DefRec) => (@PySem.DefRec.name v2)) (@PyProof.Rows.recsOf view_39)) (@PyProof.Rows.ownsOf view_39) [] (@PySem.Shared.mk (@PySem.Shared.heap (@PySem.Shared.mk (heap_515 (@PySem.World.params v0)) (@Array.mk @PySem.GenState []) (@PySem.Drawn.mk 0 0 0 0) (nat_lit 888) v1)) #[] (@PySem.Shared.drawn (@PySem.Shared.mk (heap_515 (@PySem.World.params v0)) (@Array.mk @PySem.GenState []) (@PySem.Drawn.mk 0 0 0 0) (nat_lit 888) v1)) (@PySem.Shared.toks (@PySem.Shared.mk (heap_515 (@PySem.World.params v0)) (@Array.mk @PySem.GenState []) (@PySem.Drawn.mk 0 0 0 0) (nat_lit 888) v1)) (@PySem.Shared.os (@PySem.Shared.mk (heap_515 (@PySem.World.params v0)) (@Array.mk @PySem.GenState []) (@PySem.Drawn.mk 0 0 0 0) (nat_lit 888) v1))))) (fun (v1 : @PySem.OsState) => (@PyProof.Rows.expectedOf view_39)))) := by
  try rw [PySem.W.Fast.te5160383126252970620]
  try rw [PySem.W.Fast.te3399658132070893891]
  try rw [PySem.W.Fast.te5991557255702980513]
  exact q523
theorem q526 : (∀ (v0 : @PySem.World), (@Eq (∀ (v1 : @PySem.OsState), (@Prod (@Option @PySem.Str) (@List (@Prod @PySem.Str @PySem.Value)))) (fun (v1 : @PySem.OsState) => (@PySem.Heap.bltView (@PySem.Shared.heap (@PySem.Shared.mk (heap_515 (@PySem.World.params v0)) (@Array.mk @PySem.GenState []) (@PySem.Drawn.mk 0 0 0 0) (nat_lit 888) v1)))) (fun (v1 : @PySem.OsState) => @PySem.bltViewBooted))) := by
  exact q525
theorem q528 : (∀ (v0 : @PySem.World), (@Eq (∀ (v1 : @PySem.OsState), @Bool) (fun (v1 : @PySem.OsState) => (@Bool.and (@Bool.and (@Bool.and (@Bool.and (@Bool.and (@Bool.and (@PySem.Heap.keysOk (@PySem.Shared.heap (@PySem.Shared.mk (heap_515 (@PySem.World.params v0)) (@Array.mk @PySem.GenState []) (@PySem.Drawn.mk 0 0 0 0) (nat_lit 888) v1)) (@PySem.W.looseW view_39 [(@PySem.Str.ofString "QuicProtocolVersion"), (@PySem.Str.ofString "CipherSuite"), (@PySem.Str.ofString "CIPHER_SUITES"), (@PySem.Str.ofString "CryptoContext"), (@PySem.Str.ofString "CryptoPair")]) (@List.map @PySem.DefRec @PySem.Str (fun (v2 : @PySem.DefRec) => (@PySem.DefRec.name v2)) (@PyProof.Rows.recsOf view_39)) (@List.map (@Prod @PySem.Str @PySem.PyData) @PySem.Str (fun (v2 : (@Prod @PySem.Str @PySem.PyData)) => (@Prod.fst @PySem.Str @PySem.PyData v2)) (@PyProof.Rows.litsOf view_39)) (@List.map @PySem.ClsRec @PySem.Str (fun (v2 : @PySem.ClsRec) => (@PySem.ClsRec.name v2)) (@PyProof.Rows.clssOf view_39 (@PySem.W.looseW view_39 [(@PySem.Str.ofString "QuicProtocolVersion"), (@PySem.Str.ofString "CipherSuite"), (@PySem.Str.ofString "CIPHER_SUITES"), (@PySem.Str.ofString "CryptoContext"), (@PySem.Str.ofString "CryptoPair")])))) (@PySem.Heap.accountedOkI (@PySem.Shared.heap (@PySem.Shared.mk (heap_515 (@PySem.World.params v0)) (@Array.mk @PySem.GenState []) (@PySem.Drawn.mk 0 0 0 0) (nat_lit 888) v1)) (@PySem.importedModules (@PySem.Module.body (@PySem.Program.main ((@PySem.W.OpenRow.toRowW (@PySem.W.OpenLaw.row @PySem.Challenge.rw_ja0003_02))).1))))) (@PySem.Heap.isNs (@PySem.Shared.heap (@PySem.Shared.mk (heap_515 (@PySem.World.params v0)) (@Array.mk @PySem.GenState []) (@PySem.Drawn.mk 0 0 0 0) (nat_lit 888) v1)) @PySem.mainGlobals)) (@PySem.Heap.isNs (@PySem.Shared.heap (@PySem.Shared.mk (heap_515 (@PySem.World.params v0)) (@Array.mk @PySem.GenState []) (@PySem.Drawn.mk 0 0 0 0) (nat_lit 888) v1)) @PySem.builtinsNs)) (@PyProof.Rows.tablesOk view_39 (@PySem.Shared.heap (@PySem.Shared.mk (heap_515 (@PySem.World.params v0)) (@Array.mk @PySem.GenState []) (@PySem.Drawn.mk 0 0 0 0) (nat_lit 888) v1)))) ((fun (v2 : @PySem.Shared) => (@Bool.and (@PySem.W.xlAt view_39 [] v2) (@PySem.W.recOk (@PySem.W.RowW.records (@PySem.W.OpenRow.toRowW (@PySem.W.OpenLaw.row @PySem.Challenge.rw_ja0003_02))) v2))) (@PySem.Shared.mk (heap_515 (@PySem.World.params v0)) (@Array.mk @PySem.GenState []) (@PySem.Drawn.mk 0 0 0 0) (nat_lit 888) v1))) (@ite @Bool (@Eq @Bool @Bool.true @Bool.true) (@instDecidableEqBool @Bool.true @Bool.true) (@BEq.beq @Nat (@instBEqOfDecidableEq @Nat @instDecidableEqNat) (@Array.size @PySem.GenState (@PySem.Shared.gens (@PySem.Shared.mk (heap_515 (@PySem.World.params v0)) (@Array.mk @PySem.GenState []) (@PySem.Drawn.mk 0 0 0 0) (nat_lit 888) v1))) 0) (@Bool.not (@PySem.leftWithCleanup (@PySem.Shared.gens (@PySem.Shared.mk (heap_515 (@PySem.World.params v0)) (@Array.mk @PySem.GenState []) (@PySem.Drawn.mk 0 0 0 0) (nat_lit 888) v1))))))) (fun (v1 : @PySem.OsState) => @Bool.true))) := by
  try rw [show (PySem.Str.ofString "QuicProtocolVersion" : Str) = z58 from by kernel_rfl]
  try rw [show (PySem.Str.ofString "CipherSuite" : Str) = z31 from by kernel_rfl]
  try rw [show (PySem.Str.ofString "CIPHER_SUITES" : Str) = z61 from by kernel_rfl]
  try rw [show (PySem.Str.ofString "CryptoContext" : Str) = z68 from by kernel_rfl]
  try rw [show (PySem.Str.ofString "CryptoPair" : Str) = z118 from by kernel_rfl]
  try rw [PySem.W.Fast.te10880121769531294198]
  try rw [PySem.W.Fast.te821141287760084731]
  try rw [PySem.W.Fast.te3399658132070893891]
  try rw [PySem.W.Fast.te7409074990110511671]
  try rw [PySem.W.Fast.te13664370479719496447]
  try rw [PySem.W.Fast.te14722251495701143533]
  try rw [PySem.W.Fast.te5923862056798008813]
  try rw [PySem.W.Fast.te2368527892694137696]
  try rw [PySem.W.Fast.te10994771534591457954]
  exact q527
theorem q530 : (∀ (v0 : @PySem.World), (@Eq (∀ (v1 : @PySem.OsState), @Bool) (fun (v1 : @PySem.OsState) => (@PyProof.Rows.tabsOk view_39 (@PySem.Shared.mk (heap_515 (@PySem.World.params v0)) (@Array.mk @PySem.GenState []) (@PySem.Drawn.mk 0 0 0 0) (nat_lit 888) v1))) (fun (v1 : @PySem.OsState) => @Bool.true))) := by
  try rw [PySem.W.Fast.te479339242167458305]
  exact q529
theorem q532 : (∀ (v0 : @PySem.World), (@Eq (∀ (v1 : @PySem.OsState), (@Prod (@List (@Option @PySem.FnShape)) @Bool)) (fun (v1 : @PySem.OsState) => (@PySem.pinSeenD view_39 (@PyProof.Rows.drecsOf view_39) (@PySem.Shared.mk (heap_515 (@PySem.World.params v0)) (@Array.mk @PySem.GenState []) (@PySem.Drawn.mk 0 0 0 0) (nat_lit 888) v1))) (fun (v1 : @PySem.OsState) => (@PySem.pinGoodD (@PyProof.Rows.drecsOf view_39))))) := by
  try rw [PySem.W.Fast.te16090120013241838585]
  try rw [PySem.W.Fast.te3247288618530077131]
  exact q531
theorem q534 : (∀ (v0 : @PySem.World), (@Eq (∀ (v1 : @PySem.OsState), (@List (@Option @PyProof.Rows.PlainShape))) (fun (v1 : @PySem.OsState) => (@PyProof.Rows.plainSeenE view_39 (@PySem.W.looseW view_39 [(@PySem.Str.ofString "QuicProtocolVersion"), (@PySem.Str.ofString "CipherSuite"), (@PySem.Str.ofString "CIPHER_SUITES"), (@PySem.Str.ofString "CryptoContext"), (@PySem.Str.ofString "CryptoPair")]) (@PySem.Shared.mk (heap_515 (@PySem.World.params v0)) (@Array.mk @PySem.GenState []) (@PySem.Drawn.mk 0 0 0 0) (nat_lit 888) v1))) (fun (v1 : @PySem.OsState) => (@PyProof.Rows.plainGoodE view_39 (@PySem.W.looseW view_39 [(@PySem.Str.ofString "QuicProtocolVersion"), (@PySem.Str.ofString "CipherSuite"), (@PySem.Str.ofString "CIPHER_SUITES"), (@PySem.Str.ofString "CryptoContext"), (@PySem.Str.ofString "CryptoPair")]))))) := by
  try rw [show (PySem.Str.ofString "QuicProtocolVersion" : Str) = z58 from by kernel_rfl]
  try rw [show (PySem.Str.ofString "CipherSuite" : Str) = z31 from by kernel_rfl]
  try rw [show (PySem.Str.ofString "CIPHER_SUITES" : Str) = z61 from by kernel_rfl]
  try rw [show (PySem.Str.ofString "CryptoContext" : Str) = z68 from by kernel_rfl]
  try rw [show (PySem.Str.ofString "CryptoPair" : Str) = z118 from by kernel_rfl]
  try rw [PySem.W.Fast.te2386780881361962483]
  try rw [PySem.W.Fast.te821141287760084731]
  exact q533
theorem q536 : (∀ (v0 : @PySem.World), (@Eq (∀ (v1 : @PySem.OsState), (@List (@Option (@Prod @PyProof.Rows.PlainShape @Bool)))) (fun (v1 : @PySem.OsState) => (@PyProof.Rows.plainSeenD view_39 [(@PySem.Str.ofString "QuicProtocolVersion"), (@PySem.Str.ofString "CipherSuite"), (@PySem.Str.ofString "CIPHER_SUITES"), (@PySem.Str.ofString "CryptoContext"), (@PySem.Str.ofString "CryptoPair")] (@PySem.Shared.mk (heap_515 (@PySem.World.params v0)) (@Array.mk @PySem.GenState []) (@PySem.Drawn.mk 0 0 0 0) (nat_lit 888) v1))) (fun (v1 : @PySem.OsState) => (@PyProof.Rows.plainGoodD view_39 [(@PySem.Str.ofString "QuicProtocolVersion"), (@PySem.Str.ofString "CipherSuite"), (@PySem.Str.ofString "CIPHER_SUITES"), (@PySem.Str.ofString "CryptoContext"), (@PySem.Str.ofString "CryptoPair")])))) := by
  try rw [show (PySem.Str.ofString "QuicProtocolVersion" : Str) = z58 from by kernel_rfl]
  try rw [show (PySem.Str.ofString "CipherSuite" : Str) = z31 from by kernel_rfl]
  try rw [show (PySem.Str.ofString "CIPHER_SUITES" : Str) = z61 from by kernel_rfl]
  try rw [show (PySem.Str.ofString "CryptoContext" : Str) = z68 from by kernel_rfl]
  try rw [show (PySem.Str.ofString "CryptoPair" : Str) = z118 from by kernel_rfl]
  try rw [PySem.W.Fast.te11698064438423848299]
  exact q535
theorem q538 : (∀ (v0 : @PySem.World), (@Eq (∀ (v1 : @PySem.OsState), (@Prod (@List (@Option @PySem.FnShape)) @Bool)) (fun (v1 : @PySem.OsState) => (@PySem.W.wideSeen view_39 (@PySem.Shared.mk (heap_515 (@PySem.World.params v0)) (@Array.mk @PySem.GenState []) (@PySem.Drawn.mk 0 0 0 0) (nat_lit 888) v1))) (fun (v1 : @PySem.OsState) => (@PySem.W.wideGood view_39)))) := by
  try rw [PySem.W.Fast.te7317090234206586261]
  exact q537
theorem q540 : (∀ (v0 : @PySem.World), (@Eq (∀ (v1 : @PySem.OsState), (@List (@Prod (@Option (@Prod (@List (@Option @PySem.FnShape)) @Bool)) (@Option (@Prod @PyProof.Rows.PlainShape @Bool))))) (fun (v1 : @PySem.OsState) => (@PySem.W.clsSeenW view_39 [(@PySem.Str.ofString "QuicProtocolVersion"), (@PySem.Str.ofString "CipherSuite"), (@PySem.Str.ofString "CIPHER_SUITES"), (@PySem.Str.ofString "CryptoContext"), (@PySem.Str.ofString "CryptoPair")] (@PySem.Shared.mk (heap_515 (@PySem.World.params v0)) (@Array.mk @PySem.GenState []) (@PySem.Drawn.mk 0 0 0 0) (nat_lit 888) v1))) (fun (v1 : @PySem.OsState) => (@PySem.W.clsGoodW view_39 [(@PySem.Str.ofString "QuicProtocolVersion"), (@PySem.Str.ofString "CipherSuite"), (@PySem.Str.ofString "CIPHER_SUITES"), (@PySem.Str.ofString "CryptoContext"), (@PySem.Str.ofString "CryptoPair")])))) := by
  try rw [show (PySem.Str.ofString "QuicProtocolVersion" : Str) = z58 from by kernel_rfl]
  try rw [show (PySem.Str.ofString "CipherSuite" : Str) = z31 from by kernel_rfl]
  try rw [show (PySem.Str.ofString "CIPHER_SUITES" : Str) = z61 from by kernel_rfl]
  try rw [show (PySem.Str.ofString "CryptoContext" : Str) = z68 from by kernel_rfl]
  try rw [show (PySem.Str.ofString "CryptoPair" : Str) = z118 from by kernel_rfl]
  try rw [PySem.W.Fast.te7369524293546568484]
  exact q539
end
section
theorem hsts : @PySem.W.behindTheImports ((@PySem.W.OpenRow.toRowW (@PySem.W.OpenLaw.row @PySem.Challenge.rw_ja0003_02))).1 = sts_49 ++ (sts_71 ++ (sts_115 ++ (sts_159 ++ (sts_189 ++ (sts_232 ++ (sts_261 ++ (sts_320 ++ (sts_336 ++ (sts_410 ++ (sts_494 ++ [])))))))))) := by
  rw [PySem.W.Fast.te2368527892694137696]
  kernel_rfl
theorem q233 : (∀ (v0 : @PySem.World), (@Eq (∀ (v1 : @PySem.OsState), (@Option (@Prod @PySem.Flow (@Prod @PySem.W.SharedT (@Prod @PySem.Code @PySem.Pos))))) (fun (v1 : @PySem.OsState) => (@PySem.W.segRunT @PySem.treeTable ((@PySem.W.OpenRow.toRowW (@PySem.W.OpenLaw.row @PySem.Challenge.rw_ja0003_02))).1 v0 (nat_lit 11) (@Option.some @PySem.Value (@PySem.Value.ref 6)) (nat_lit 1) (nat_lit 400) (@PySem.W.SharedT.mk (tree_188 (@PySem.World.params v0)) (nat_lit 147) (@PySem.Life.mk [] [] [] 0 [] [] @Bool.false #[] [] 0 @Bool.false @Bool.false @Bool.false 0 [2000, 10, 10] @Bool.false 0 @Bool.true [] [] 0 @Bool.false) (@Array.mk @PySem.GenState []) (@PySem.Drawn.mk 0 0 0 0) (nat_lit 406) v1) (@PySem.W.piecesOf sts_189 env_41 (@PySem.Code.body (@PySem.W.behindTheImports ((@PySem.W.OpenRow.toRowW (@PySem.W.OpenLaw.row @PySem.Challenge.rw_ja0003_02))).1) env_41) (@PySem.Pos.mk 93 0 93 8) [(@PySem.W.topFrame (@PySem.Pos.mk 0 0 0 0))]))) (fun (v1 : @PySem.OsState) => (@Option.some (@Prod @PySem.Flow (@Prod @PySem.W.SharedT (@Prod @PySem.Code @PySem.Pos))) (@Prod.mk @PySem.Flow (@Prod @PySem.W.SharedT (@Prod @PySem.Code @PySem.Pos)) @PySem.Flow.next (@Prod.mk @PySem.W.SharedT (@Prod @PySem.Code @PySem.Pos) (@PySem.W.SharedT.mk (tree_229 (@PySem.World.params v0)) (nat_lit 186) (@PySem.Life.mk [] [] [] 0 [] [] @Bool.false #[] [] 0 @Bool.false @Bool.false @Bool.false 0 [2000, 10, 10] @Bool.false 0 @Bool.true [] [] 0 @Bool.false) (@Array.mk @PySem.GenState []) (@PySem.Drawn.mk 0 0 0 0) (nat_lit 480) v1) (@Prod.mk @PySem.Code @PySem.Pos (@PySem.Code.body (@PySem.W.behindTheImports ((@PySem.W.OpenRow.toRowW (@PySem.W.OpenLaw.row @PySem.Challenge.rw_ja0003_02))).1) env_41) (@PySem.Pos.mk 109 0 109 22)))))))) := byRow2 "special-get-raises" (P := fun v0 => (@Eq (∀ (v1 : @PySem.OsState), (@Option (@Prod @PySem.Flow (@Prod @PySem.W.SharedT (@Prod @PySem.Code @PySem.Pos))))) (fun (v1 : @PySem.OsState) => (@PySem.W.segRunT @PySem.treeTable ((@PySem.W.OpenRow.toRowW (@PySem.W.OpenLaw.row @PySem.Challenge.rw_ja0003_02))).1 v0 (nat_lit 11) (@Option.some @PySem.Value (@PySem.Value.ref 6)) (nat_lit 1) (nat_lit 400) (@PySem.W.SharedT.mk (tree_188 (@PySem.World.params v0)) (nat_lit 147) (@PySem.Life.mk [] [] [] 0 [] [] @Bool.false #[] [] 0 @Bool.false @Bool.false @Bool.false 0 [2000, 10, 10] @Bool.false 0 @Bool.true [] [] 0 @Bool.false) (@Array.mk @PySem.GenState []) (@PySem.Drawn.mk 0 0 0 0) (nat_lit 406) v1) (@PySem.W.piecesOf sts_189 env_41 (@PySem.Code.body (@PySem.W.behindTheImports ((@PySem.W.OpenRow.toRowW (@PySem.W.OpenLaw.row @PySem.Challenge.rw_ja0003_02))).1) env_41) (@PySem.Pos.mk 93 0 93 8) [(@PySem.W.topFrame (@PySem.Pos.mk 0 0 0 0))]))) (fun (v1 : @PySem.OsState) => (@Option.some (@Prod @PySem.Flow (@Prod @PySem.W.SharedT (@Prod @PySem.Code @PySem.Pos))) (@Prod.mk @PySem.Flow (@Prod @PySem.W.SharedT (@Prod @PySem.Code @PySem.Pos)) @PySem.Flow.next (@Prod.mk @PySem.W.SharedT (@Prod @PySem.Code @PySem.Pos) (@PySem.W.SharedT.mk (tree_229 (@PySem.World.params v0)) (nat_lit 186) (@PySem.Life.mk [] [] [] 0 [] [] @Bool.false #[] [] 0 @Bool.false @Bool.false @Bool.false 0 [2000, 10, 10] @Bool.false 0 @Bool.true [] [] 0 @Bool.false) (@Array.mk @PySem.GenState []) (@PySem.Drawn.mk 0 0 0 0) (nat_lit 480) v1) (@Prod.mk @PySem.Code @PySem.Pos (@PySem.Code.body (@PySem.W.behindTheImports ((@PySem.W.OpenRow.toRowW (@PySem.W.OpenLaw.row @PySem.Challenge.rw_ja0003_02))).1) env_41) (@PySem.Pos.mk 109 0 109 22)))))))) q230 q232
theorem piece_cut {tb p w n0 ann N s r b l env c p' B} (e : b = l) (k : topRun tb p w n0 ann N s (restOf l env c p' B) = some r) : topRun tb p w n0 ann N s (restOf b env c p' B) = some r := e ▸ k
theorem q518 : (∀ (v0 : @PySem.World), (∀ (v1 : @PySem.OsState), (@Eq (@Option @PySem.Shared) (@PySem.W.topRun @PySem.treeTable ((@PySem.W.OpenRow.toRowW (@PySem.W.OpenLaw.row @PySem.Challenge.rw_ja0003_02))).1 v0 (nat_lit 11) (@Option.some @PySem.Value (@PySem.Value.ref 6)) (12 + (1 + (252 + (330 + (355 + (292 + (400 + (277 + (421 + (64 + (542 + (389 + (96 + (2)))))))))))))) (@PySem.Shared.mk (@PySem.W.boot_heap (@PySem.World.params v0)) (@Array.mk @PySem.GenState []) @PySem.W.boot_drawn @PySem.W.boot_toks v1) (@PySem.W.topStub ((@PySem.W.OpenRow.toRowW (@PySem.W.OpenLaw.row @PySem.Challenge.rw_ja0003_02))).1)) (@Option.some @PySem.Shared (@PySem.Shared.mk (heap_515 (@PySem.World.params v0)) (@Array.mk @PySem.GenState []) (@PySem.Drawn.mk 0 0 0 0) (nat_lit 888) v1))))) := by
  intro w os
  refine go_top (congrFun (q47 w) os) (piece_block (congrFun (q49 w) os) (piece_cut hsts ?_))
  refine piece_app (segRun_of (congrFun (q71 w) os)) ?_
  refine piece_app (segRun_of (congrFun (q115 w) os)) ?_
  refine piece_app (segRun_of (congrFun (q159 w) os)) ?_
  refine piece_app (segRun_of (congrFun (q189 w) os)) ?_
  refine piece_app (segRun_of (congrFun (q233 w) os)) ?_
  refine piece_app (segRun_of (congrFun (q261 w) os)) ?_
  refine piece_app (segRun_of (congrFun (q320 w) os)) ?_
  refine piece_app (segRun_of (congrFun (q336 w) os)) ?_
  refine piece_app (segRun_of (congrFun (q410 w) os)) ?_
  refine piece_app (segRun_of (congrFun (q494 w) os)) ?_
  refine piece_app (segRun_of (congrFun (q515 w) os)) ?_
  exact congrFun (q517 w) os
theorem q550 : (∀ (v0 : @PySem.World), (@Eq (∀ (v1 : @PySem.OsState), (@PySem.W.Hook.α HK)) (fun (v1 : @PySem.OsState) => (@PySem.W.Hook.obs HK (@PySem.Shared.mk (heap_515 (@PySem.World.params v0)) (@Array.mk @PySem.GenState []) (@PySem.Drawn.mk 0 0 0 0) (nat_lit 888) v1))) (fun (v1 : @PySem.OsState) => (@PySem.W.Hook.val HK v0)))) := by
  intro w
  kernel_rfl
end
section
noncomputable def dL : DefRec := ⟨z89, fA (sg PB 44), fB (sg PB 44), fC (sg PB 44), (@PySem.Pos.mk 316 0 340 15)⟩
abbrev RWW : RowW := OpenRow.toRowW (OpenLaw.row PySem.Challenge.rw_ja0003_02)
theorem said01 : sreFenced (OpenLaw.row PySem.Challenge.rw_ja0003_02).prog.main = true := by kernel_rfl
theorem said02 : namesResolve (OpenLaw.row PySem.Challenge.rw_ja0003_02).prog = true := by kernel_rfl
theorem said03 : lookedIntoSs (moduleNames (OpenLaw.row PySem.Challenge.rw_ja0003_02).prog.main.body) (OpenLaw.row PySem.Challenge.rw_ja0003_02).prog.main.body = true := by kernel_rfl
theorem said04 : namesMeet (OpenLaw.row PySem.Challenge.rw_ja0003_02).prog (OpenLaw.row PySem.Challenge.rw_ja0003_02).prog.main.body (fun _ n => attrL n) = true := by kernel_rfl
theorem said05 : ((OpenLaw.row PySem.Challenge.rw_ja0003_02).prog.boundNames.all fun n => !worldNames.contains n) = true := by kernel_rfl
theorem said1 : looksOpen (OpenLaw.row PySem.Challenge.rw_ja0003_02).prog = true := by
  delta looksOpen
  rw [said01, said02, said03, said04, said05, Bool.or_true]
  kernel_rfl
theorem said2 : (OpenLaw.row PySem.Challenge.rw_ja0003_02).partSaid = true := by
  delta OpenRow.partSaid
  rw [said1]
  kernel_rfl
theorem said3 : (OpenLaw.row PySem.Challenge.rw_ja0003_02).wellSaid = true := by
  delta OpenRow.wellSaid
  rw [said2]
  kernel_rfl
theorem said : OpenLaw.wellSaid PySem.Challenge.rw_ja0003_02 = true := by
  delta OpenLaw.wellSaid
  rw [said3]
  kernel_rfl
theorem left1 : LeftO RWW.prog view_39 [(@PySem.Str.ofString "QuicProtocolVersion"), (@PySem.Str.ofString "CipherSuite"), (@PySem.Str.ofString "CIPHER_SUITES"), (@PySem.Str.ofString "CryptoContext"), (@PySem.Str.ofString "CryptoPair")] (fun s => xlAt view_39 [] s && recOk (RowW.records RWW) s) (Hook.obs HK) (Hook.val HK) 6940 :=
  LeftO.of_pieces (boot_open (by rfl) (by rfl) (fun _ => by rfl)) q520 q518 (by rfl) (fun w => funext fun os =>
    looks_pair (congrFun (q522 w) os) (looks_pair (looks_pair (congrFun (q524 w) os) (looks_pair (congrFun (q526 w) os) (looks_pair (congrFun (q528 w) os) (looks_pair (congrFun (q530 w) os) (looks_pair (congrFun (q532 w) os) (looks_pair (congrFun (q534 w) os) (looks_pair (congrFun (q536 w) os) (looks_pair (congrFun (q538 w) os) (congrFun (q540 w) os))))))))) (congrFun (q550 w) os)))
theorem hd2 (walk : (@Mine.WalkP view_39 [(@PySem.Str.ofString "QuicProtocolVersion"), (@PySem.Str.ofString "CipherSuite"), (@PySem.Str.ofString "CIPHER_SUITES"), (@PySem.Str.ofString "CryptoContext"), (@PySem.Str.ofString "CryptoPair")] (@PySem.W.XL view_39 []) (Hook.says HK) (@PySem.W.OpenRow.toRowW (@PySem.W.OpenLaw.row @PySem.Challenge.rw_ja0003_02)) dL [])) : PySem.Challenge.rw_ja0003_02.Holds := by
  refine holds_law said fun _ => ?_
  refine Mine.PySem.W.holds_open (q := view_39) (loose := [(@PySem.Str.ofString "QuicProtocolVersion"), (@PySem.Str.ofString "CipherSuite"), (@PySem.Str.ofString "CIPHER_SUITES"), (@PySem.Str.ofString "CryptoContext"), (@PySem.Str.ofString "CryptoPair")]) (Xt := fun s => xlAt view_39 [] s && recOk (RowW.records RWW) s) (XP := XL view_39 []) (Yf := Hook.obs HK) (Ya := Hook.val HK) (YP := Hook.says HK) (N := 6940) left1 (Hook.of HK) (Hook.keeps HK) (fun s e => xl_of s (Bool.and_eq_true_iff.mp e).1) XL.keeps (by kernel_rfl) (by kernel_rfl) (by kernel_rfl) (fun s e => recFacts_of (Bool.and_eq_true_iff.mp e).2) (by rfl) (by assumption) (by decide +kernel) ⟨rfl, rfl, rfl, rfl, rfl, by decide +kernel⟩ ?hw walk
  case hw => w_witness2
end
theorem fillK_C1 (h : PySem.Challenge.rw_ja0003_02.wellSaid = true) : (KK = KK) ∧ PySem.Challenge.rw_ja0003_02 = PySem.Challenge.rw_ja0003_02 := by
  k_fill
  exact ⟨rfl, rfl⟩
section
variable {prog : Program} {w : World} {A : Around} {H0 h : Heap} {fs : List (Nat × Map)} {H : PH} {n : Nat} {L : Nat} {m : Map} {g : Array GenState} {d : Drawn} {tk : Nat} {os : OsState} {bb : Nat}
  {E : Value → Shared → Prop} {Q : Value → Shared → Prop}
theorem take_ct {st cl : Nat} {b : Int} {most : Int} {tm : Tok}
    (G : Gd (KK w.params) H0) (hz : H0.objs.size ≤ n) (O : Ok A 1)
    (R : RC w.params H0 fs H n h) (hs : StC H st cl b) (hm : 0 < most) (hb : b < 2 ^ 30)
    (k : ∀ v t x h' n' tk', 0 ≤ v → v < most → n ≤ n' → StC (H.set st x) st cl (b + 1) → RC w.params H0 fs (H.set st x) n' h' → Q (.int v t) ⟨h', g, d, tk', os⟩) :
    wpAny (model prog w) A (call (.ref 361) [.ref st, .int most tm]) Q E ⟨h, g, d, tk, os⟩ := by
  refine' StC.el hs ?_
  clear hs
  intro at_ t0 vs cells hs hc hi hne hl0 hl h0 h1
  have fin : ∀ t', StC (H.set st (.lst [.int (at_ + 1) t', .ref cl])) st cl (b + 1) := fun t' =>
    ⟨at_ + 1, t', vs, cells, PH.set_self _ _ _, PH.set_at hne hc, hi, hne, hl0, hl, by walk_at "om", by walk_at "om"⟩
  refine' r_def (binds := [("state", .ref st), ("most", .int most tm)]) R ?G hz O.room ?ho ?hcd ?hbind ?hloc ?_ ?hco ?hgen ?hk ?hcell
  walk_at "def"
  intro L' h₁ tk₁ hl R'
  have hvl := hi.length
  walk_at "36"
  split
  · rename_i hlt
    have hlt' := of_decide_eq_true hlt
    walk_at "9"
    rename RC _ _ _ _ _ _ => r0
    exact k _ _ _ _ _ _ ‹_› ‹_› (by walk_at "om") (fin _) r0.pop
  · walk_at "37"
    rename RC _ _ _ _ _ _ => r0
    exact k _ _ _ _ _ _ ‹_› ‹_› (by walk_at "om") (fin _) r0.pop
theorem octets_ct {st cl : Nat} {b : Int} {size : Int} {ts : Tok}
    (G : Gd (KK w.params) H0) (hz : H0.objs.size ≤ n) (O : Ok A 2)
    (R : RC w.params H0 fs H n h) (hs : StC H st cl b) (h0 : 0 ≤ size) (h1 : size ≤ 100) (hb : b < 2 ^ 30)
    (k : ∀ (y : List UInt8) t x h' n' tk', (y.length : Int) = size → n ≤ n' → StC (H.set st x) st cl (b + 1) → RC w.params H0 fs (H.set st x) n' h' → Q (.bytes y.toArray t) ⟨h', g, d, tk', os⟩) :
    wpAny (model prog w) A (call (.ref 375) [.ref st, .int size ts]) Q E ⟨h, g, d, tk, os⟩ := by
  refine' r_def (binds := [("state", .ref st), ("size", .int size ts)]) R ?G hz O.room ?ho ?hcd ?hbind ?hloc ?_ ?hco ?hgen ?hk ?hcell
  walk_at "def"
  intro L' h₁ tk₁ hl R'
  walk_at "8"
  split
  · rename_i hc; have hc' := of_decide_eq_true hc
    walk_at "13"
    rename RC _ _ _ _ _ _ => r0
    have hp : (0 : Int) < 256 ^ size.toNat := Int.pow_pos (by decide)
    refine' take_ct G (by walk_at "om") (O.deep (by decide)) r0 hs hp hb ?_
    intro v t x h' n' tk' v0 v1 hn hs' r1
    clear r0
    have hv : v.toNat < 256 ^ size.toNat := by
      have e : ((256 ^ size.toNat : Nat) : Int) = 256 ^ size.toNat := by rw [Int.natCast_pow]; rfl
      walk_at "om"
    walk_at "8"
    rename RC _ _ _ _ _ _ => r0
    exact k _ _ _ _ _ _ (by rw [toBE_length]; walk_at "om") (by walk_at "om") hs' r0.pop
  · rename_i hc
    have hc' := of_decide_eq_false (Bool.eq_false_iff.mpr hc)
    walk_at "1"
    rename RC _ _ _ _ _ _ => r0
    obtain ⟨at_, t0, vs, cells, e, r⟩ := id hs
    have e2 := PH.set_same e
    refine k [] _ (.lst [.int at_ t0, .ref cl]) _ (L' + 1) _ (by simp; walk_at "om") (by walk_at "om") (by rw [e2]; exact hs.mono (by walk_at "om")) (by rw [e2]; exact r0.pop)
theorem state_ct {l : Nat} {vs : List Value} {cells : List Int} {most : Int} {tm : Tok}
    (G : Gd (KK w.params) H0) (hz : H0.objs.size ≤ n) (O : Ok A 1)
    (R : RC w.params H0 fs H n h) (hi : H0.IsList l vs.toArray) (hv : IntsAre vs cells) (hs : cells.length < 2 ^ 19) (hm : 0 < most)
    (k : ∀ (st cl : Nat) H' h' n' tk', n ≤ n' → H.le H' → StC H' st cl 0 → RC w.params H0 fs H' n' h' → Q (.ref st) ⟨h', g, d, tk', os⟩) :
    wpAny (model prog w) A (call (.ref 368) [.ref l, .int most tm]) Q E ⟨h, g, d, tk, os⟩ := by
  refine' r_def (binds := [("script", .ref l), ("most", .int most tm)]) R ?G hz O.room ?ho ?hcd ?hbind ?hloc ?_ ?hco ?hgen ?hk ?hcell
  walk_at "def"
  intro L' h₁ tk₁ hl R'
  have hvl := hv.length
  have il : h₁.IsList l vs.toArray := by obtain ⟨o, ho, r⟩ := hi; exact ⟨o, R'.ext _ _ ho, r⟩
  walk_at "21"
  have hvt := ints_take most.toNat hv
  have hvl2 := hvt.length
  split
  · rename_i hc
    walk_at "3"
    rename RC _ _ _ _ _ _ => r0
    have hne : (List.take most.toNat cells).length ≠ 0 := by
      intro q
      rw [q] at hvl2
      rw [List.length_eq_zero_iff.mp hvl2] at hc
      exact absurd hc (by decide)
    have hle : (List.take most.toNat cells).length ≤ cells.length := by rw [List.length_take]; walk_at "om"
    exact k _ _ _ _ _ _ (by walk_at "om") (by walk_at "le") ⟨0, _, _, _, by walk_at "lk", by walk_at "lk", hvt, by walk_at "om", by walk_at "om", by walk_at "om", by walk_at "om", by walk_at "om"⟩ r0.pop
  · walk_at "7"
    rename RC _ _ _ _ _ _ => r0
    exact k _ _ _ _ _ _ (by walk_at "om") (by walk_at "le") ⟨0, _, _, _, by walk_at "lk", by walk_at "lk", .cons 0 _ .nil, by walk_at "om", by decide, by decide, by walk_at "om", by walk_at "om"⟩ r0.pop
end
section
variable {prog : Program} {w : World} {A : Around} {H0 h : Heap} {fs : List (Nat × Map)} {H : PH} {n : Nat} {L : Nat} {m : Map} {g : Array GenState} {d : Drawn} {tk : Nat} {os : OsState} {bb : Nat}
  {E : Value → Shared → Prop} {Q : Value → Shared → Prop}
theorem castPow (k : Nat) : ((256 : Int) ^ k) = ((256 ^ k : Nat) : Int) := by rw [Int.natCast_pow]; rfl
theorem turnN_lt (size number : Nat) : turnN size number < 256 ^ size := by
  have h0 : 0 < 256 ^ size := Nat.pow_pos (by decide)
  have h1 : number % 256 ≤ 255 := by walk_at "om"
  have h2 := Nat.mul_le_mul_left ((256 ^ size - 1) / 255) h1
  have h3 : (256 ^ size - 1) / 255 * 255 ≤ 256 ^ size - 1 := Nat.div_mul_le_self _ _
  unfold turnN
  walk_at "om"
theorem turn_xor (text : List UInt8) (number : Nat) : Builtin.bitXor ((beI text : Nat) : Int) (((256 : Int) ^ (((text.length : Nat) : Int)).toNat - 1).fdiv 255 * ((number : Nat) : Int).fmod 256) = ((beI text ^^^ turnN text.length number : Nat) : Int) := by
  have h0 : 0 < 256 ^ text.length := Nat.pow_pos (by decide)
  rw [Int.toNat_natCast, castPow, Int.fmod_eq_emod_of_nonneg _ (by decide), Int.fdiv_eq_ediv_of_nonneg _ (by decide)]
  have e1 : (((256 ^ text.length : Nat) : Int) - 1) / 255 * (((number : Nat) : Int) % 256) = ((turnN text.length number : Nat) : Int) := by
    unfold turnN
    rw [Int.natCast_mul, Int.natCast_ediv, Int.natCast_emod, Int.natCast_sub h0]
    rfl
  rw [e1, bitXor_nat]
theorem turn_lt (text : List UInt8) (number : Nat) : beI text ^^^ turnN text.length number < 256 ^ text.length := by
  have e : (256 : Nat) ^ text.length = 2 ^ (8 * text.length) := by rw [Nat.pow_mul]
  have h1 := beI_lt text
  have h2 := turnN_lt text.length number
  rw [e] at h1 h2 ⊢
  exact Nat.xor_lt_two_pow h1 h2
theorem fmodC (x m : Nat) : ((x : Nat) : Int).fmod ((m : Nat) : Int) = ((x % m : Nat) : Int) := by
  rw [Int.fmod_eq_emod_of_nonneg _ (Int.natCast_nonneg _), Int.natCast_emod]
theorem turned_ct {text : List UInt8} {number : Nat} {t1 t2 : Tok}
    (G : Gd (KK w.params) H0) (hz : H0.objs.size ≤ n) (O : Ok A 1) (R : RC w.params H0 fs H n h) (l1 : text.length < 8900)
    (k : ∀ t h' n' tk', n ≤ n' → RC w.params H0 fs H n' h' → Q (.bytes (turnB text number).toArray t) ⟨h', g, d, tk', os⟩) :
    wpAny (model prog w) A (call (.ref 382) [.bytes text.toArray t1, .int (number : Nat) t2]) Q E ⟨h, g, d, tk, os⟩ := by
  refine' r_def (binds := [("text", .bytes text.toArray t1), ("number", .int (number : Nat) t2)]) R ?G hz O.room ?ho ?hcd ?hbind ?hloc ?_ ?hco ?hgen ?hk ?hcell
  walk_at "def"
  intro L' h₁ tk₁ hl R'
  walk_at "17"
  split
  · rename_i hc
    have hc' := of_decide_eq_true hc
    walk_at "3"
    rename RC _ _ _ _ _ _ => r0
    refine Qb ?_ (k _ _ _ _ (by walk_at "om") (r0.pop.weak (by walk_at "le")))
    have : text.length = 0 := by walk_at "om"
    rw [List.length_eq_zero_iff.mp this]; rfl
  · rename_i hc
    have hc' := of_decide_eq_false (Bool.eq_false_iff.mpr hc)
    walk_at "40"
    rw [turn_xor]
    have hlt : (((beI text ^^^ turnN text.length number : Nat) : Int)).toNat < 256 ^ (((text.length : Nat) : Int)).toNat := by
      rw [Int.toNat_natCast, Int.toNat_natCast]; exact turn_lt _ _
    walk_at "1"
    rename RC _ _ _ _ _ _ => r0
    exact k _ _ _ _ (by walk_at "om") (r0.pop.weak (by walk_at "le"))
theorem pow127 : ((2 : Int) ^ Int.toNat 127 - 1) = (((2 ^ 127 - 1 : Nat)) : Int) := by decide +kernel
theorem pow521 : ((2 : Int) ^ Int.toNat 521 - 1) = ((MM : Nat) : Int) := by decide +kernel
theorem fm251 (x : Nat) : ((x : Nat) : Int).fmod 251 = ((x % 251 : Nat) : Int) := fmodC x 251
theorem seal_ct {name key nonce data assoc : List UInt8} {t1 t2 t3 t4 t5 : Tok}
    (G : Gd (KK w.params) H0) (hz : H0.objs.size ≤ n) (O : Ok A 2) (R : RC w.params H0 fs H n h)
    (l1 : name.length < 256) (l2 : key.length < 256) (l3 : nonce.length < 256) (l4 : data.length < 8900) (l5 : assoc.length < 256)
    (k : ∀ t h' n' tk', n ≤ n' → RC w.params H0 fs H n' h' → Q (.bytes (sealB name key nonce data assoc).toArray t) ⟨h', g, d, tk', os⟩) :
    wpAny (model prog w) A (call (.ref 389) [.bytes name.toArray t1, .bytes key.toArray t2, .bytes nonce.toArray t3, .bytes data.toArray t4, .bytes assoc.toArray t5]) Q E ⟨h, g, d, tk, os⟩ := by
  refine' r_def (binds := [("name", .bytes name.toArray t1), ("key", .bytes key.toArray t2), ("nonce", .bytes nonce.toArray t3), ("data", .bytes data.toArray t4), ("associated", .bytes assoc.toArray t5)]) R ?G hz O.room ?ho ?hcd ?hbind ?hloc ?_ ?hco ?hgen ?hk ?hcell
  walk_at "def"
  intro L' h₁ tk₁ hl R'
  walk_at "27"
  rw [fm251]
  rename RC _ _ _ _ _ _ => r0
  have bn0 := r0.bnd
  refine' turned_ct G (by walk_at "om") (O.deep (by decide)) r0 l4 ?_
  intro t h' n' tk' hn r1
  clear r0
  have lt := turnB_length data (beI (key ++ nonce) % 251)
  generalize hT : turnB data (beI (key ++ nonce) % 251) = T at r1 lt ⊢
  have hl : (nonce ++ assoc ++ T ++ key ++ name).length ≤ 10000 := by simp only [List.length_append]; walk_at "om"
  walk_at "45"
  rw [pow127, fmodC]
  have hlt : (((beI (nonce ++ assoc ++ T ++ key ++ name) % (2 ^ 127 - 1) : Nat) : Int)).toNat < 256 ^ (Int.toNat 16) := by
    rw [Int.toNat_natCast]
    exact Nat.lt_trans (Nat.mod_lt _ (by decide +kernel)) (by decide +kernel)
  walk_at "2"
  rename RC _ _ _ _ _ _ => r0
  refine Qb ?_ (k _ _ _ _ (by walk_at "om") (r0.pop.weak (by walk_at "le")))
  unfold sealB tagB keyN
  rw [hT]
  rfl
theorem fmMask (x : Nat) : ((x : Nat) : Int).fmod 1099511627689 = ((x % 1099511627689 : Nat) : Int) := fmodC x 1099511627689
theorem mask_ct {name key sample : List UInt8} {t1 t2 t3 : Tok}
    (G : Gd (KK w.params) H0) (hz : H0.objs.size ≤ n) (O : Ok A 1) (R : RC w.params H0 fs H n h)
    (l0 : name.length < 256) (l1 : 6 ≤ key.length) (l2 : key.length < 256) (l3 : sample.length < 256)
    (k : ∀ t h' n' tk', n ≤ n' → RC w.params H0 fs H n' h' → Q (.bytes (maskB name key sample).toArray t) ⟨h', g, d, tk', os⟩) :
    wpAny (model prog w) A (call (.ref 403) [.bytes name.toArray t1, .bytes key.toArray t2, .bytes sample.toArray t3]) Q E ⟨h, g, d, tk, os⟩ := by
  refine' r_def (binds := [("name", .bytes name.toArray t1), ("key", .bytes key.toArray t2), ("sample", .bytes sample.toArray t3)]) R ?G hz O.room ?ho ?hcd ?hbind ?hloc ?_ ?hco ?hgen ?hk ?hcell
  walk_at "def"
  intro L' h₁ tk₁ hl R'
  walk_at "31"
  rw [fmMask]
  have hlt : (((beI (key ++ sample ++ name) % 1099511627689 : Nat) : Int)).toNat < 256 ^ (Int.toNat 5) := by
    rw [Int.toNat_natCast]
    exact Nat.lt_trans (Nat.mod_lt _ (by decide)) (by decide)
  walk_at "0"
  rename RC _ _ _ _ _ _ => r0
  exact k _ _ _ _ (by walk_at "om") (r0.pop.weak (by walk_at "le"))
theorem opened_ct {name key nonce data assoc : List UInt8} {t1 t2 t3 t4 t5 : Tok}
    (G : Gd (KK w.params) H0) (hz : H0.objs.size ≤ n) (O : Ok A 3) (R : RC w.params H0 fs H n h)
    (l1 : name.length < 256) (l2 : key.length < 256) (l3 : nonce.length < 256) (l4 : data.length < 8900) (l5 : assoc.length < 256)
    (k : ∀ v h' n' tk', OptB v (openB name key nonce data assoc) → n ≤ n' → RC w.params H0 fs H n' h' → Q v ⟨h', g, d, tk', os⟩) :
    wpAny (model prog w) A (call (.ref 396) [.bytes name.toArray t1, .bytes key.toArray t2, .bytes nonce.toArray t3, .bytes data.toArray t4, .bytes assoc.toArray t5]) Q E ⟨h, g, d, tk, os⟩ := by
  refine' r_def (binds := [("name", .bytes name.toArray t1), ("key", .bytes key.toArray t2), ("nonce", .bytes nonce.toArray t3), ("data", .bytes data.toArray t4), ("associated", .bytes assoc.toArray t5)]) R ?G hz O.room ?ho ?hcd ?hbind ?hloc ?_ ?hco ?hgen ?hk ?hcell
  walk_at "def"
  intro L' h₁ tk₁ hl R'
  walk_at "13"
  split
  · rename_i hc
    have hc' := of_decide_eq_true hc
    walk_at "3"
    rename RC _ _ _ _ _ _ => r0
    refine k _ _ _ _ ?_ (by walk_at "om") (r0.pop.weak (by walk_at "le"))
    unfold openB
    rw [if_pos (by walk_at "om")]
    rfl
  · rename_i hc
    have hc' := of_decide_eq_false (Bool.eq_false_iff.mpr hc)
    walk_at "44"
    have lc : (data.take ((data.length : Int) - 16).toNat).length < 8900 := by rw [List.length_take]; walk_at "om"
    have ec : turnB (data.take ((data.length : Int) - 16).toNat) (beI (key ++ nonce) % 251) = cutB key nonce data := by
      rw [show ((data.length : Int) - 16).toNat = data.length - 16 by walk_at "om"]; rfl
    have l6 : (cutB key nonce data).length < 8900 := by rw [← ec, turnB_length]; exact lc
    rw [fm251]
    rename RC _ _ _ _ _ _ => r0
    refine' turned_ct G (by walk_at "om") (O.deep (by decide)) r0 lc ?_
    rw [ec]
    intro t h' n' tk' hn r1
    clear r0
    walk_at "20"
    rename RC _ _ _ _ _ _ => r0
    refine' seal_ct G (by walk_at "om") (O.deep (by decide)) r0 l1 l2 l3 l6 l5 ?_
    intro t h' n' tk' hn r1
    clear r0
    walk_at "3"
    split
    · rename_i he
      walk_at "1"
      rename RC _ _ _ _ _ _ => r0
      refine k _ _ _ _ ?_ (by walk_at "om") (r0.pop.weak (by walk_at "le"))
      have he' : sealB name key nonce (cutB key nonce data) assoc = data := (beq_iff_eq (α := List UInt8)).mp he
      unfold openB
      rw [if_neg (by walk_at "om"), if_pos he']
      exact ⟨_, rfl⟩
    · rename_i he
      walk_at "1"
      rename RC _ _ _ _ _ _ => r0
      refine k _ _ _ _ ?_ (by walk_at "om") (r0.pop.weak (by walk_at "le"))
      have he' : ¬ sealB name key nonce (cutB key nonce data) assoc = data := fun q => he ((beq_iff_eq (α := List UInt8)).mpr q)
      unfold openB
      rw [if_neg (by walk_at "om"), if_neg he']
      rfl
theorem MM_one : 1 < MM := by decide +kernel
theorem MM_lt : MM < 256 ^ 66 := by decide +kernel
theorem hash_lt (x : Nat) : (((powM x MM : Nat) : Int)).toNat < 256 ^ (Int.toNat 66) := by
  rw [Int.toNat_natCast]
  exact Nat.lt_trans (powM_lt _ _ (by decide +kernel)) MM_lt
theorem expand_ct {size length : Int} {secret label : List UInt8} {t1 t2 t3 t4 t5 : Tok}
    (G : Gd (KK w.params) H0) (hz : H0.objs.size ≤ n) (O : Ok A 1) (R : RC w.params H0 fs H n h)
    (l1 : secret.length ≤ 100) (l2 : label.length ≤ 100) (l4 : 0 ≤ length) (l5 : length ≤ 66) (l6 : ExpandPre secret label) (l7 : 0 ≤ size)
    (k : ∀ t h' n' tk', n ≤ n' → RC w.params H0 fs H n' h' → Q (.bytes (expandB size.toNat secret label length.toNat).toArray t) ⟨h', g, d, tk', os⟩) :
    wpAny (model prog w) A (call (.ref 410) [.int size t1, .bytes secret.toArray t2, .bytes label.toArray t3, .bytes ([] : List UInt8).toArray t4, .int length t5]) Q E ⟨h, g, d, tk, os⟩ := by
  refine' r_def (binds := [("size", .int size t1), ("secret", .bytes secret.toArray t2), ("label", .bytes label.toArray t3), ("hash_value", .bytes ([] : List UInt8).toArray t4), ("length", .int length t5)]) R ?G hz O.room ?ho ?hcd ?hbind ?hloc ?_ ?hco ?hgen ?hk ?hcell
  walk_at "def"
  intro L' h₁ tk₁ hl R'
  walk_at "42"
  have e1 : ((beI (secret ++ label ++ []) : Nat) : Int) + size + 3 = ((beI (secret ++ label) + size.toNat + 3 : Nat) : Int) := by
    rw [List.append_nil]; walk_at "om"
  rw [e1, pow521]
  refine r_pow3 MM_one ?_
  intro u5 tk5
  have hlt := hash_lt (beI (secret ++ label) + size.toNat + 3)
  walk_at "17"
  rename RC _ _ _ _ _ _ => r0
  refine Qb ?_ (k _ _ _ _ (by walk_at "om") (r0.pop.weak (by walk_at "le")))
  unfold expandB hashN
  rw [Int.toNat_natCast, show (66 - length).toNat = 66 - length.toNat by walk_at "om"]
  rfl
theorem extract_ct {size : Int} {salt ikm : List UInt8} {t1 t2 t3 : Tok}
    (G : Gd (KK w.params) H0) (hz : H0.objs.size ≤ n) (O : Ok A 1) (R : RC w.params H0 fs H n h)
    (l1 : salt.length ≤ 100) (l2 : ikm.length ≤ 100) (l5 : size ≤ 66) (l7 : 0 ≤ size)
    (k : ∀ t h' n' tk', n ≤ n' → RC w.params H0 fs H n' h' → Q (.bytes (extractB size.toNat salt ikm).toArray t) ⟨h', g, d, tk', os⟩) :
    wpAny (model prog w) A (call (.ref 417) [.int size t1, .bytes salt.toArray t2, .bytes ikm.toArray t3]) Q E ⟨h, g, d, tk, os⟩ := by
  refine' r_def (binds := [("size", .int size t1), ("salt", .bytes salt.toArray t2), ("key_material", .bytes ikm.toArray t3)]) R ?G hz O.room ?ho ?hcd ?hbind ?hloc ?_ ?hco ?hgen ?hk ?hcell
  walk_at "def"
  intro L' h₁ tk₁ hl R'
  walk_at "39"
  have e1 : ((beI (salt ++ ikm) : Nat) : Int) + size + 3 = ((beI (salt ++ ikm) + size.toNat + 3 : Nat) : Int) := by walk_at "om"
  rw [e1, pow521]
  refine r_pow3 MM_one ?_
  intro u5 tk5
  have hlt := hash_lt (beI (salt ++ ikm) + size.toNat + 3)
  walk_at "17"
  rename RC _ _ _ _ _ _ => r0
  refine Qb ?_ (k _ _ _ _ (by walk_at "om") (r0.pop.weak (by walk_at "le")))
  unfold extractB hashN
  rw [Int.toNat_natCast, show (66 - size).toNat = 66 - size.toNat by walk_at "om"]
  rfl
end
section
variable {prog : Program} {w : World} {A : Around} {H0 h : Heap} {fs : List (Nat × Map)} {H : PH} {n : Nat} {L : Nat} {m : Map} {g : Array GenState} {d : Drawn} {tk : Nat} {os : OsState} {bb : Nat}
  {E : Value → Shared → Prop} {Q : Value → Shared → Prop}
abbrev PR : Nat := 424
theorem prim_seal_ct {name key nonce data assoc : List UInt8} {t0 t1 t2 t3 t4 t5 : Tok}
    (G : Gd (KK w.params) H0) (hz : H0.objs.size ≤ n) (O : Ok A 3) (R : RC w.params H0 fs H n h)
    (l1 : name.length < 256) (l2 : key.length < 256) (l3 : nonce.length < 256) (l4 : data.length < 256) (l5 : assoc.length < 256)
    (k : ∀ t h' n' tk', n ≤ n' → RC w.params H0 fs H n' h' → Q (.bytes (sealB name key nonce data assoc).toArray t) ⟨h', g, d, tk', os⟩) :
    wpAny (model prog w) A (call (.ref 424) [.str (PySem.Str.ofString "seal") t0, .bytes name.toArray t1, .bytes key.toArray t2, .bytes nonce.toArray t3, .bytes data.toArray t4, .bytes assoc.toArray t5]) Q E ⟨h, g, d, tk, os⟩ := by
  refine' r_def (binds := [("word", .str (PySem.Str.ofString "seal") t0), ("name", .bytes name.toArray t1), ("key", .bytes key.toArray t2), ("first", .bytes nonce.toArray t3), ("second", .bytes data.toArray t4), ("third", .bytes assoc.toArray t5)]) R ?G hz O.room ?ho ?hcd ?hbind ?hloc ?_ ?hco ?hgen ?hk ?hcell
  walk_at "def"
  intro L' h₁ tk₁ hl R'
  walk_at "25"
  rename RC _ _ _ _ _ _ => r0
  refine' seal_ct G (by walk_at "om") (O.deep (by decide)) r0 l1 l2 l3 (Nat.lt_of_lt_of_le l4 (by decide)) l5 ?_
  intro t h' n' tk' hn r1
  exact k _ _ _ _ (by walk_at "om") (r1.pop.weak (by walk_at "le"))
theorem prim_open_ct {name key nonce data assoc : List UInt8} {t0 t1 t2 t3 t4 t5 : Tok}
    (G : Gd (KK w.params) H0) (hz : H0.objs.size ≤ n) (O : Ok A 4) (R : RC w.params H0 fs H n h)
    (l1 : name.length < 256) (l2 : key.length < 256) (l3 : nonce.length < 256) (l4 : data.length < 8900) (l5 : assoc.length < 256)
    (k : ∀ v h' n' tk', OptB v (openB name key nonce data assoc) → n ≤ n' → RC w.params H0 fs H n' h' → Q v ⟨h', g, d, tk', os⟩) :
    wpAny (model prog w) A (call (.ref 424) [.str (PySem.Str.ofString "open") t0, .bytes name.toArray t1, .bytes key.toArray t2, .bytes nonce.toArray t3, .bytes data.toArray t4, .bytes assoc.toArray t5]) Q E ⟨h, g, d, tk, os⟩ := by
  refine' r_def (binds := [("word", .str (PySem.Str.ofString "open") t0), ("name", .bytes name.toArray t1), ("key", .bytes key.toArray t2), ("first", .bytes nonce.toArray t3), ("second", .bytes data.toArray t4), ("third", .bytes assoc.toArray t5)]) R ?G hz O.room ?ho ?hcd ?hbind ?hloc ?_ ?hco ?hgen ?hk ?hcell
  walk_at "def"
  intro L' h₁ tk₁ hl R'
  walk_at "34"
  rename RC _ _ _ _ _ _ => r0
  refine' opened_ct G (by walk_at "om") (O.deep (by decide)) r0 l1 l2 l3 l4 l5 ?_
  intro v h' n' tk' ho hn r1
  exact k _ _ _ _ ho (by walk_at "om") (r1.pop.weak (by walk_at "le"))
theorem prim_mask_ct {name key sample : List UInt8} {t0 t1 t2 t3 : Tok} {v1 v2 : Value}
    (G : Gd (KK w.params) H0) (hz : H0.objs.size ≤ n) (O : Ok A 3) (R : RC w.params H0 fs H n h)
    (l0 : name.length < 256) (l1 : 6 ≤ key.length) (l2 : key.length < 256) (l3 : sample.length < 256)
    (k : ∀ t h' n' tk', n ≤ n' → RC w.params H0 fs H n' h' → Q (.bytes (maskB name key sample).toArray t) ⟨h', g, d, tk', os⟩) :
    wpAny (model prog w) A (call (.ref 424) [.str (PySem.Str.ofString "mask") t0, .bytes name.toArray t1, .bytes key.toArray t2, .bytes sample.toArray t3, v1, v2]) Q E ⟨h, g, d, tk, os⟩ := by
  refine' r_def (binds := [("word", .str (PySem.Str.ofString "mask") t0), ("name", .bytes name.toArray t1), ("key", .bytes key.toArray t2), ("first", .bytes sample.toArray t3), ("second", v1), ("third", v2)]) R ?G hz O.room ?ho ?hcd ?hbind ?hloc ?_ ?hco ?hgen ?hk ?hcell
  walk_at "def"
  intro L' h₁ tk₁ hl R'
  walk_at "39"
  rename RC _ _ _ _ _ _ => r0
  refine' mask_ct G (by walk_at "om") (O.deep (by decide)) r0 l0 l1 l2 l3 ?_
  intro t h' n' tk' hn r1
  exact k _ _ _ _ (by walk_at "om") (r1.pop.weak (by walk_at "le"))
theorem prim_expand_ct {size length : Int} {secret label : List UInt8} {t0 t1 t2 t3 t4 t5 : Tok}
    (G : Gd (KK w.params) H0) (hz : H0.objs.size ≤ n) (O : Ok A 3) (R : RC w.params H0 fs H n h)
    (l1 : secret.length ≤ 100) (l2 : label.length ≤ 100) (l4 : 0 ≤ length) (l5 : length ≤ 66) (l6 : ExpandPre secret label) (l7 : 0 ≤ size)
    (k : ∀ t h' n' tk', n ≤ n' → RC w.params H0 fs H n' h' → Q (.bytes (expandB size.toNat secret label length.toNat).toArray t) ⟨h', g, d, tk', os⟩) :
    wpAny (model prog w) A (call (.ref 424) [.str (PySem.Str.ofString "expand") t0, .int size t1, .bytes secret.toArray t2, .bytes label.toArray t3, .bytes ([] : List UInt8).toArray t4, .int length t5]) Q E ⟨h, g, d, tk, os⟩ := by
  refine' r_def (binds := [("word", .str (PySem.Str.ofString "expand") t0), ("name", .int size t1), ("key", .bytes secret.toArray t2), ("first", .bytes label.toArray t3), ("second", .bytes ([] : List UInt8).toArray t4), ("third", .int length t5)]) R ?G hz O.room ?ho ?hcd ?hbind ?hloc ?_ ?hco ?hgen ?hk ?hcell
  walk_at "def"
  intro L' h₁ tk₁ hl R'
  walk_at "52"
  rename RC _ _ _ _ _ _ => r0
  refine' expand_ct G (by walk_at "om") (O.deep (by decide)) r0 l1 l2 l4 l5 l6 l7 ?_
  intro t h' n' tk' hn r1
  exact k _ _ _ _ (by walk_at "om") (r1.pop.weak (by walk_at "le"))
theorem hkdf_ct {size length : Int} {secret label : List UInt8} {t1 t2 t3 t4 t5 : Tok}
    (G : Gd (KK w.params) H0) (hz : H0.objs.size ≤ n) (O : Ok A 4) (R : RC w.params H0 fs H n h)
    (l1 : secret.length ≤ 100) (l2 : label.length ≤ 100) (l4 : 0 ≤ length) (l5 : length ≤ 66) (l6 : ExpandPre secret label) (l7 : 0 ≤ size)
    (k : ∀ t h' n' tk', n ≤ n' → RC w.params H0 fs H n' h' → Q (.bytes (expandB size.toNat secret label length.toNat).toArray t) ⟨h', g, d, tk', os⟩) :
    wpAny (model prog w) A (call (.ref 174) [.ref 424, .int size t1, .bytes secret.toArray t2, .bytes label.toArray t3, .bytes ([] : List UInt8).toArray t4, .int length t5]) Q E ⟨h, g, d, tk, os⟩ := by
  refine' r_def (binds := [("primitives", .ref 424), ("algorithm", .int size t1), ("secret", .bytes secret.toArray t2), ("label", .bytes label.toArray t3), ("hash_value", .bytes ([] : List UInt8).toArray t4), ("length", .int length t5)]) R ?G hz O.room ?ho ?hcd ?hbind ?hloc ?_ ?hco ?hgen ?hk ?hcell
  walk_at "def"
  intro L' h₁ tk₁ hl R'
  walk_at "19"
  rename RC _ _ _ _ _ _ => r0
  refine' prim_expand_ct G (by walk_at "om") (O.deep (by decide)) r0 l1 l2 l4 l5 l6 l7 ?_
  intro t h' n' tk' hn r1
  exact k _ _ _ _ (by walk_at "om") (r1.pop.weak (by walk_at "le"))
theorem suitehash_ct {suite : Int} {t1 : Tok}
    (G : Gd (KK w.params) H0) (hz : H0.objs.size ≤ n) (O : Ok A 2) (R : RC w.params H0 fs H n h)
    (k : ∀ t h' n' tk', n ≤ n' → RC w.params H0 fs H n' h' → Q (.int (if suite = 4866 then 48 else 32) t) ⟨h', g, d, tk', os⟩) :
    wpAny (model prog w) A (call (.ref 167) [.int suite t1]) Q E ⟨h, g, d, tk, os⟩ := by
  refine' r_def (binds := [("cipher_suite", .int suite t1)]) R ?G hz O.room ?ho ?hcd ?hbind ?hloc ?_ ?hco ?hgen ?hk ?hcell
  walk_at "def"
  intro L' h₁ tk₁ hl R'
  walk_at "9"
  split
  · rename_i hc
    have hc' := of_decide_eq_true hc
    walk_at "3"
    rename RC _ _ _ _ _ _ => r0
    have := k
    simp only [if_pos hc'] at this
    exact this _ _ _ _ (by walk_at "om") (r0.pop.weak (by walk_at "le"))
  · rename_i hc
    have hc' := of_decide_eq_false (Bool.eq_false_iff.mpr hc)
    walk_at "4"
    rename RC _ _ _ _ _ _ => r0
    have := k
    simp only [if_neg hc'] at this
    exact this _ _ _ _ (by walk_at "om") (r0.pop.weak (by walk_at "le"))
end
section
variable {prog : Program} {w : World} {A : Around} {H0 h : Heap} {fs : List (Nat × Map)} {H : PH} {n : Nat} {L : Nat} {m : Map} {g : Array GenState} {d : Drawn} {tk : Nat} {os : OsState} {bb : Nat}
  {E : Value → Shared → Prop} {Q : Value → Shared → Prop}
theorem derive_ct {suite version : Int} {secret : List UInt8} {t1 t2 t3 : Tok}
    (G : Gd (KK w.params) H0) (hz : H0.objs.size ≤ n) (O : Ok A 5) (R : RC w.params H0 fs H n h) (l1 : SecOk (bb + 1) secret)
    (k : ∀ (a : Nat) u1 u2 u3 h' n' tk', n ≤ a → RC w.params H0 fs (H.set a (.tup [.bytes (keyB suite version secret).toArray u1, .bytes (ivB suite version secret).toArray u2, .bytes (hpB suite version secret).toArray u3])) n' h' → Q (.ref a) ⟨h', g, d, tk', os⟩) :
    wpAny (model prog w) A (call (.ref 211) [] [("primitives", .ref 424), ("cipher_suite", .int suite t1), ("secret", .bytes secret.toArray t2), ("version", .int version t3)]) Q E ⟨h, g, d, tk, os⟩ := by
  refine' r_def (binds := [("primitives", .ref 424), ("cipher_suite", .int suite t1), ("secret", .bytes secret.toArray t2), ("version", .int version t3)]) R ?G hz O.room ?ho ?hcd ?hbind ?hloc ?_ ?hco ?hgen ?hk ?hcell
  walk_at "def"
  intro L' h₁ tk₁ hl R'
  walk_at "9"
  rename RC _ _ _ _ _ _ => r0
  refine' suitehash_ct G (by walk_at "om") (O.deep (by decide)) r0 ?_
  intro t h' n' tk' hn r1
  clear r0
  walk_at "18"
  have any : ([4866, 4867].any (· == suite)) = decide (suite = 4866 ∨ suite = 4867) := by
    simp only [List.any_cons, List.any_nil, Bool.or_false]
    by_cases q1 : suite = 4866
    · subst q1; rfl
    · by_cases q2 : suite = 4867
      · subst q2; rfl
      · have e1 : ((4866 : Int) == suite) = false := by simpa using Ne.symm q1
        have e2 : ((4867 : Int) == suite) = false := by simpa using Ne.symm q2
        simp [q1, q2, e1, e2]
  rw [any]
  split
  · rename_i hc
    have hks : keySize suite = 32 := if_pos (of_decide_eq_true hc)
    walk_at "14"
    split
    · rename_i hv'
      have hv' : isV2 version = true := hv'
      have ek : keyB suite version secret = expandB (if suite = 4866 then 48 else 32 : Int).toNat secret (keyL (isV2 version)) (Int.toNat (keySize suite)) := rfl
      have ei : ivB suite version secret = expandB (if suite = 4866 then 48 else 32 : Int).toNat secret (ivL (isV2 version)) (Int.toNat 12) := rfl
      have eh : hpB suite version secret = expandB (if suite = 4866 then 48 else 32 : Int).toNat secret (hpL (isV2 version)) (Int.toNat (keySize suite)) := rfl
      simp only [ek, ei, eh, hv', hks] at k
      walk_at "21"
      rename RC _ _ _ _ _ _ => r0
      refine' hkdf_ct G (by walk_at "om") (O.deep (by decide)) r0 l1.le (by decide) (by decide) (by decide) (l1.pre (by decide)) (by have := algI_in suite; unfold algI at this; walk_at "om") ?_
      intro u1 h' n' tk' hn r1
      clear r0
      walk_at "18"
      rename RC _ _ _ _ _ _ => r0
      refine' hkdf_ct G (by walk_at "om") (O.deep (by decide)) r0 l1.le (by decide) (by decide) (by decide) (l1.pre (by decide)) (by have := algI_in suite; unfold algI at this; walk_at "om") ?_
      intro u2 h' n' tk' hn r1
      clear r0
      walk_at "18"
      rename RC _ _ _ _ _ _ => r0
      refine' hkdf_ct G (by walk_at "om") (O.deep (by decide)) r0 l1.le (by decide) (by decide) (by decide) (l1.pre (by decide)) (by have := algI_in suite; unfold algI at this; walk_at "om") ?_
      intro u3 h' n' tk' hn r1
      clear r0
      walk_at "2"
      rename RC _ _ _ _ _ _ => r0
      exact k _ u1 u2 u3 _ _ _ (by walk_at "om") (r0.pop.weak (by walk_at "le"))
    · rename_i hv'
      have hv' : isV2 version = false := Bool.eq_false_iff.mpr hv'
      have ek : keyB suite version secret = expandB (if suite = 4866 then 48 else 32 : Int).toNat secret (keyL (isV2 version)) (Int.toNat (keySize suite)) := rfl
      have ei : ivB suite version secret = expandB (if suite = 4866 then 48 else 32 : Int).toNat secret (ivL (isV2 version)) (Int.toNat 12) := rfl
      have eh : hpB suite version secret = expandB (if suite = 4866 then 48 else 32 : Int).toNat secret (hpL (isV2 version)) (Int.toNat (keySize suite)) := rfl
      simp only [ek, ei, eh, hv', hks] at k
      walk_at "21"
      rename RC _ _ _ _ _ _ => r0
      refine' hkdf_ct G (by walk_at "om") (O.deep (by decide)) r0 l1.le (by decide) (by decide) (by decide) (l1.pre (by decide)) (by have := algI_in suite; unfold algI at this; walk_at "om") ?_
      intro u1 h' n' tk' hn r1
      clear r0
      walk_at "18"
      rename RC _ _ _ _ _ _ => r0
      refine' hkdf_ct G (by walk_at "om") (O.deep (by decide)) r0 l1.le (by decide) (by decide) (by decide) (l1.pre (by decide)) (by have := algI_in suite; unfold algI at this; walk_at "om") ?_
      intro u2 h' n' tk' hn r1
      clear r0
      walk_at "18"
      rename RC _ _ _ _ _ _ => r0
      refine' hkdf_ct G (by walk_at "om") (O.deep (by decide)) r0 l1.le (by decide) (by decide) (by decide) (l1.pre (by decide)) (by have := algI_in suite; unfold algI at this; walk_at "om") ?_
      intro u3 h' n' tk' hn r1
      clear r0
      walk_at "2"
      rename RC _ _ _ _ _ _ => r0
      exact k _ u1 u2 u3 _ _ _ (by walk_at "om") (r0.pop.weak (by walk_at "le"))
  · rename_i hc
    have hks : keySize suite = 16 := if_neg (of_decide_eq_false (Bool.eq_false_iff.mpr hc))
    walk_at "14"
    split
    · rename_i hv'
      have hv' : isV2 version = true := hv'
      have ek : keyB suite version secret = expandB (if suite = 4866 then 48 else 32 : Int).toNat secret (keyL (isV2 version)) (Int.toNat (keySize suite)) := rfl
      have ei : ivB suite version secret = expandB (if suite = 4866 then 48 else 32 : Int).toNat secret (ivL (isV2 version)) (Int.toNat 12) := rfl
      have eh : hpB suite version secret = expandB (if suite = 4866 then 48 else 32 : Int).toNat secret (hpL (isV2 version)) (Int.toNat (keySize suite)) := rfl
      simp only [ek, ei, eh, hv', hks] at k
      walk_at "21"
      rename RC _ _ _ _ _ _ => r0
      refine' hkdf_ct G (by walk_at "om") (O.deep (by decide)) r0 l1.le (by decide) (by decide) (by decide) (l1.pre (by decide)) (by have := algI_in suite; unfold algI at this; walk_at "om") ?_
      intro u1 h' n' tk' hn r1
      clear r0
      walk_at "18"
      rename RC _ _ _ _ _ _ => r0
      refine' hkdf_ct G (by walk_at "om") (O.deep (by decide)) r0 l1.le (by decide) (by decide) (by decide) (l1.pre (by decide)) (by have := algI_in suite; unfold algI at this; walk_at "om") ?_
      intro u2 h' n' tk' hn r1
      clear r0
      walk_at "18"
      rename RC _ _ _ _ _ _ => r0
      refine' hkdf_ct G (by walk_at "om") (O.deep (by decide)) r0 l1.le (by decide) (by decide) (by decide) (l1.pre (by decide)) (by have := algI_in suite; unfold algI at this; walk_at "om") ?_
      intro u3 h' n' tk' hn r1
      clear r0
      walk_at "2"
      rename RC _ _ _ _ _ _ => r0
      exact k _ u1 u2 u3 _ _ _ (by walk_at "om") (r0.pop.weak (by walk_at "le"))
    · rename_i hv'
      have hv' : isV2 version = false := Bool.eq_false_iff.mpr hv'
      have ek : keyB suite version secret = expandB (if suite = 4866 then 48 else 32 : Int).toNat secret (keyL (isV2 version)) (Int.toNat (keySize suite)) := rfl
      have ei : ivB suite version secret = expandB (if suite = 4866 then 48 else 32 : Int).toNat secret (ivL (isV2 version)) (Int.toNat 12) := rfl
      have eh : hpB suite version secret = expandB (if suite = 4866 then 48 else 32 : Int).toNat secret (hpL (isV2 version)) (Int.toNat (keySize suite)) := rfl
      simp only [ek, ei, eh, hv', hks] at k
      walk_at "21"
      rename RC _ _ _ _ _ _ => r0
      refine' hkdf_ct G (by walk_at "om") (O.deep (by decide)) r0 l1.le (by decide) (by decide) (by decide) (l1.pre (by decide)) (by have := algI_in suite; unfold algI at this; walk_at "om") ?_
      intro u1 h' n' tk' hn r1
      clear r0
      walk_at "18"
      rename RC _ _ _ _ _ _ => r0
      refine' hkdf_ct G (by walk_at "om") (O.deep (by decide)) r0 l1.le (by decide) (by decide) (by decide) (l1.pre (by decide)) (by have := algI_in suite; unfold algI at this; walk_at "om") ?_
      intro u2 h' n' tk' hn r1
      clear r0
      walk_at "18"
      rename RC _ _ _ _ _ _ => r0
      refine' hkdf_ct G (by walk_at "om") (O.deep (by decide)) r0 l1.le (by decide) (by decide) (by decide) (l1.pre (by decide)) (by have := algI_in suite; unfold algI at this; walk_at "om") ?_
      intro u3 h' n' tk' hn r1
      clear r0
      walk_at "2"
      rename RC _ _ _ _ _ _ => r0
      exact k _ u1 u2 u3 _ _ _ (by walk_at "om") (r0.pop.weak (by walk_at "le"))
end
section
variable {prog : Program} {w : World} {A : Around} {H0 h : Heap} {fs : List (Nat × Map)} {H : PH} {n : Nat} {L : Nat} {m : Map} {g : Array GenState} {d : Drawn} {tk : Nat} {os : OsState} {bb : Nat}
  {E : Value → Shared → Prop} {Q : Value → Shared → Prop}
theorem join_if {α : Type} {M : Model} {A : Around} {c : Prop} [Decidable c] {t1 t2 : Sem α} {Q : α → Shared → Prop} {E : Value → Shared → Prop} {s : Shared} (R : α → Shared → Prop) (h1 : c → wpAny M A t1 R E s) (h2 : ¬ c → wpAny M A t2 R E s) (k : ∀ a s', R a s' → Q a s') :
    if c then wpAny M A t1 Q E s else wpAny M A t2 Q E s := by
  by_cases q : c
  · rw [if_pos q]; exact wpAny_mono (h1 q) k (fun _ _ x => x)
  · rw [if_neg q]; exact wpAny_mono (h2 q) k (fun _ _ x => x)
theorem RC.nameAll {P : Params} {X : Prop} (r : RC P H0 fs H n h) (k : ∀ fs' H' n', fs' = fs → H' = H → n' = n → RC P H0 fs' H' n' h → X) : X := k _ _ _ rfl rfl rfl r
noncomputable def AeadAt (H : PH) (x : Nat) (name key iv : List UInt8) : Prop :=
  ∃ (dx : Nat) (t1 t2 t3 : Tok), H x = some (.inst 72 dx) ∧ H dx = some (.dic [("_cipher_name", .bytes name.toArray t1), ("_key", .bytes key.toArray t2), ("_primitives", .ref 424), ("_iv", .int (beI iv : Nat) t3)])
noncomputable def HpAt (H : PH) (x : Nat) (name key : List UInt8) : Prop :=
  ∃ (dx : Nat) (t1 t2 : Tok), H x = some (.inst 114 dx) ∧ H dx = some (.dic [("_cipher_name", .bytes name.toArray t1), ("_key", .bytes key.toArray t2), ("_primitives", .ref 424)])
theorem AeadAt.el {X : Prop} {H : PH} {x : Nat} {name key iv : List UInt8} (h : AeadAt H x name key iv) (k : ∀ (dx : Nat) (t1 t2 t3 : Tok), H x = some (.inst 72 dx) → H dx = some (.dic [("_cipher_name", .bytes name.toArray t1), ("_key", .bytes key.toArray t2), ("_primitives", .ref 424), ("_iv", .int (beI iv : Nat) t3)]) → X) : X :=
  let ⟨_, _, _, _, e1, e2⟩ := h; k _ _ _ _ e1 e2
theorem HpAt.el {X : Prop} {H : PH} {x : Nat} {name key : List UInt8} (h : HpAt H x name key) (k : ∀ (dx : Nat) (t1 t2 : Tok), H x = some (.inst 114 dx) → H dx = some (.dic [("_cipher_name", .bytes name.toArray t1), ("_key", .bytes key.toArray t2), ("_primitives", .ref 424)]) → X) : X :=
  let ⟨_, _, _, e1, e2⟩ := h; k _ _ _ e1 e2
theorem AeadAt.keep {H H' : PH} {x : Nat} {name key iv : List UInt8} (h : AeadAt H x name key iv) (k : KeepI H H') : AeadAt H' x name key iv := by
  obtain ⟨dx, t1, t2, t3, e1, e2⟩ := h
  exact ⟨dx, t1, t2, t3, k _ _ trivial e1, k _ _ rfl e2⟩
theorem HpAt.keep {H H' : PH} {x : Nat} {name key : List UInt8} (h : HpAt H x name key) (k : KeepI H H') : HpAt H' x name key := by
  obtain ⟨dx, t1, t2, e1, e2⟩ := h
  exact ⟨dx, t1, t2, k _ _ trivial e1, k _ _ rfl e2⟩
theorem aead_new_ct {name key iv : List UInt8} {t1 t2 t3 : Tok}
    (G : Gd (KK w.params) H0) (hz : H0.objs.size ≤ n) (O : Ok A 5) (R : RC w.params H0 fs H n h) (hn : (aeadNames.any (· == name)) = true) (l1 : iv.length = 12)
    (k : ∀ (x : Nat) H' h' n' tk', n ≤ n' → H.le H' → AeadAt H' x name key iv → RC w.params H0 fs H' n' h' → Q (.ref x) ⟨h', g, d, tk', os⟩) :
    wpAny (model prog w) A (call (.ref 72) [.bytes name.toArray t1, .bytes key.toArray t2, .bytes iv.toArray t3, .ref 424]) Q E ⟨h, g, d, tk, os⟩ := by
  refine' r_new (binds := fun x => [("self", .ref x), ("cipher_name", .bytes name.toArray t1), ("key", .bytes key.toArray t2), ("iv", .bytes iv.toArray t3), ("primitives", .ref 424)]) R ?G hz O ?hkk ?hm ?hi ?hf ?ho ?hcd ?hbind ?hloc ?_ ?hco ?hgen ?hk ?hcell
  walk_at "new"
  intro dx L' h₁ tk₁ hd hl R' O'
  walk_at "15"
  split
  · rename_i hc
    have hn' : (!aeadNames.any (· == name)) = true := hc
    rw [hn] at hn'; exact absurd hn' (by decide)
  · walk_at "14"
    split
    · rename_i hc
      exact absurd (of_decide_eq_true hc) (by walk_at "om")
    · walk_at "33"
      rename RC _ _ _ _ _ _ => r0
      exact k _ _ _ _ _ (by walk_at "om") (by walk_at "le") ⟨_, _, _, _, by walk_at "lk", by walk_at "lk"⟩ r0.pop
theorem hp_new_ct {name key : List UInt8} {t1 t2 : Tok}
    (G : Gd (KK w.params) H0) (hz : H0.objs.size ≤ n) (O : Ok A 5) (R : RC w.params H0 fs H n h) (hn : (hpNames.any (· == name)) = true)
    (k : ∀ (x : Nat) H' h' n' tk', n ≤ n' → H.le H' → HpAt H' x name key → RC w.params H0 fs H' n' h' → Q (.ref x) ⟨h', g, d, tk', os⟩) :
    wpAny (model prog w) A (call (.ref 114) [.bytes name.toArray t1, .bytes key.toArray t2, .ref 424]) Q E ⟨h, g, d, tk, os⟩ := by
  refine' r_new (binds := fun x => [("self", .ref x), ("cipher_name", .bytes name.toArray t1), ("key", .bytes key.toArray t2), ("primitives", .ref 424)]) R ?G hz O ?hkk ?hm ?hi ?hf ?ho ?hcd ?hbind ?hloc ?_ ?hco ?hgen ?hk ?hcell
  walk_at "new"
  intro dx L' h₁ tk₁ hd hl R' O'
  walk_at "15"
  split
  · rename_i hc
    have hn' : (!hpNames.any (· == name)) = true := hc
    rw [hn] at hn'; exact absurd hn' (by decide)
  · walk_at "18"
    rename RC _ _ _ _ _ _ => r0
    exact k _ _ _ _ _ (by walk_at "om") (by walk_at "le") ⟨_, _, _, by walk_at "lk", by walk_at "lk"⟩ r0.pop
theorem nonce_ct {x : Nat} {name key iv : List UInt8} {pn : Int} {t1 : Tok}
    (G : Gd (KK w.params) H0) (hz : H0.objs.size ≤ n) (O : Ok A 2) (R : RC w.params H0 fs H n h) (ha : AeadAt H x name key iv) (l1 : 0 ≤ Builtin.bitXor (beI iv : Nat) pn) (l2 : (Builtin.bitXor (beI iv : Nat) pn).toNat < 256 ^ 12)
    (k : ∀ t h' n' tk', n ≤ n' → RC w.params H0 fs H n' h' → Q (.bytes (toBE 12 (Builtin.bitXor (beI iv : Nat) pn).toNat).toArray t) ⟨h', g, d, tk', os⟩) :
    wpAny (model prog w) A (call (.ref 69) [.ref x, .int pn t1]) Q E ⟨h, g, d, tk, os⟩ := by
  refine' AeadAt.el ha ?_
  intro dx u1 u2 u3 e1 e2
  refine' r_def (binds := [("self", .ref x), ("packet_number", .int pn t1)]) R ?G hz O.room ?ho ?hcd ?hbind ?hloc ?_ ?hco ?hgen ?hk ?hcell
  walk_at "def"
  intro L' h₁ tk₁ hl R'
  walk_at "17"
  rename RC _ _ _ _ _ _ => r0
  exact k _ _ _ _ (by walk_at "om") (r0.pop.weak (by walk_at "le"))
noncomputable def nonceB (iv : List UInt8) (pn : Int) : List UInt8 := toBE 12 (Builtin.bitXor (beI iv : Nat) pn).toNat
noncomputable def NonceOk (iv : List UInt8) (pn : Int) : Prop := 0 ≤ Builtin.bitXor (beI iv : Nat) pn ∧ (Builtin.bitXor (beI iv : Nat) pn).toNat < 256 ^ 12
theorem aead_enc_ct {x : Nat} {name key iv data assoc : List UInt8} {pn : Int} {t1 t2 t3 : Tok}
    (G : Gd (KK w.params) H0) (hz : H0.objs.size ≤ n) (O : Ok A 4) (R : RC w.params H0 fs H n h) (ha : AeadAt H x name key iv) (hno : NonceOk iv pn)
    (l1 : name.length < 256) (l2 : key.length < 256) (l4 : data.length < 256) (l5 : assoc.length < 256)
    (k : ∀ t h' n' tk', n ≤ n' → RC w.params H0 fs H n' h' → Q (.bytes (sealB name key (nonceB iv pn) data assoc).toArray t) ⟨h', g, d, tk', os⟩) :
    wpAny (model prog w) A (call (.ref 62) [.ref x, .bytes data.toArray t1, .bytes assoc.toArray t2, .int pn t3]) Q E ⟨h, g, d, tk, os⟩ := by
  have ha' := ha
  refine' AeadAt.el ha ?_
  intro dx u1 u2 u3 e1 e2
  refine' r_def (binds := [("self", .ref x), ("data", .bytes data.toArray t1), ("associated_data", .bytes assoc.toArray t2), ("packet_number", .int pn t3)]) R ?G hz O.room ?ho ?hcd ?hbind ?hloc ?_ ?hco ?hgen ?hk ?hcell
  walk_at "def"
  intro L' h₁ tk₁ hl R'
  walk_at "25"
  rename RC _ _ _ _ _ _ => r0
  refine' nonce_ct G (by walk_at "om") (O.deep (by decide)) r0 ha' hno.1 hno.2 ?_
  intro t h' n' tk' hn r1
  clear r0
  walk_at "6"
  rename RC _ _ _ _ _ _ => r0
  refine' prim_seal_ct G (by walk_at "om") (O.deep (by decide)) r0 l1 l2 (by rw [toBE_length]; decide) l4 l5 ?_
  intro t h' n' tk' hn r1
  exact k _ _ _ _ (by walk_at "om") (r1.pop.weak (by walk_at "le"))
theorem hp_mask_ct {x : Nat} {name key sample : List UInt8} {t1 : Tok}
    (G : Gd (KK w.params) H0) (hz : H0.objs.size ≤ n) (O : Ok A 4) (R : RC w.params H0 fs H n h) (ha : HpAt H x name key)
    (l0 : name.length < 256) (l1 : 6 ≤ key.length) (l2 : key.length < 256) (l3 : sample.length < 256)
    (k : ∀ t h' n' tk', n ≤ n' → RC w.params H0 fs H n' h' → Q (.bytes (maskB name key sample).toArray t) ⟨h', g, d, tk', os⟩) :
    wpAny (model prog w) A (call (.ref 111) [.ref x, .bytes sample.toArray t1]) Q E ⟨h, g, d, tk, os⟩ := by
  refine' HpAt.el ha ?_
  intro dx u1 u2 e1 e2
  refine' r_def (binds := [("self", .ref x), ("sample", .bytes sample.toArray t1)]) R ?G hz O.room ?ho ?hcd ?hbind ?hloc ?_ ?hco ?hgen ?hk ?hcell
  walk_at "def"
  intro L' h₁ tk₁ hl R'
  walk_at "24"
  rename RC _ _ _ _ _ _ => r0
  refine' prim_mask_ct G (by walk_at "om") (O.deep (by decide)) r0 l0 l1 l2 l3 ?_
  intro t h' n' tk' hn r1
  exact k _ _ _ _ (by walk_at "om") (r1.pop.weak (by walk_at "le"))
end
section
variable {prog : Program} {w : World} {A : Around} {H0 h : Heap} {fs : List (Nat × Map)} {H : PH} {n : Nat} {L : Nat} {m : Map} {g : Array GenState} {d : Drawn} {tk : Nat} {os : OsState} {bb : Nat}
  {E : Value → Shared → Prop} {Q : Value → Shared → Prop}
noncomputable def decC (t b e : Int) : Int := Builtin.bitOr (Builtin.bitAnd e (Builtin.bitNot (1 * 2 ^ b.toNat - 1))) t
noncomputable def decodeI (t b e : Int) : Int :=
  if decC t b e ≤ e - (1 * 2 ^ b.toNat : Int).fdiv 2 ∧ decC t b e < 1 * 2 ^ (62 : Int).toNat - 1 * 2 ^ b.toNat
  then decC t b e + 1 * 2 ^ b.toNat
  else if e + (1 * 2 ^ b.toNat : Int).fdiv 2 < decC t b e ∧ 1 * 2 ^ b.toNat ≤ decC t b e
  then decC t b e - 1 * 2 ^ b.toNat
  else decC t b e
theorem dec1 {t b e : Int} (h1 : decC t b e ≤ e - (1 * 2 ^ b.toNat : Int).fdiv 2) (h2 : decC t b e < 1 * 2 ^ (62 : Int).toNat - 1 * 2 ^ b.toNat) : decodeI t b e = decC t b e + 1 * 2 ^ b.toNat := if_pos ⟨h1, h2⟩
theorem dec2 {t b e : Int} (h : ¬ (decC t b e ≤ e - (1 * 2 ^ b.toNat : Int).fdiv 2 ∧ decC t b e < 1 * 2 ^ (62 : Int).toNat - 1 * 2 ^ b.toNat)) (h1 : e + (1 * 2 ^ b.toNat : Int).fdiv 2 < decC t b e) (h2 : 1 * 2 ^ b.toNat ≤ decC t b e) : decodeI t b e = decC t b e - 1 * 2 ^ b.toNat := by
  unfold decodeI; rw [if_neg h, if_pos ⟨h1, h2⟩]
theorem dec3 {t b e : Int} (h : ¬ (decC t b e ≤ e - (1 * 2 ^ b.toNat : Int).fdiv 2 ∧ decC t b e < 1 * 2 ^ (62 : Int).toNat - 1 * 2 ^ b.toNat)) (h1 : ¬ (e + (1 * 2 ^ b.toNat : Int).fdiv 2 < decC t b e ∧ 1 * 2 ^ b.toNat ≤ decC t b e)) : decodeI t b e = decC t b e := by
  unfold decodeI; rw [if_neg h, if_neg h1]
theorem decode_ct {t b e : Int} {t1 t2 t3 : Tok}
    (G : Gd (KK w.params) H0) (hz : H0.objs.size ≤ n) (O : Ok A 2) (R : RC w.params H0 fs H n h) (b0 : 0 ≤ b) (b1 : b ≤ 64)
    (k : ∀ u h' n' tk', n ≤ n' → RC w.params H0 fs H n' h' → Q (.int (decodeI t b e) u) ⟨h', g, d, tk', os⟩) :
    wpAny (model prog w) A (call (.ref 139) [.int t t1, .int b t2, .int e t3]) Q E ⟨h, g, d, tk, os⟩ := by
  refine' r_def (binds := [("truncated", .int t t1), ("num_bits", .int b t2), ("expected", .int e t3)]) R ?G hz O.room ?ho ?hcd ?hbind ?hloc ?_ ?hco ?hgen ?hk ?hcell
  walk_at "def"
  intro L' h₁ tk₁ hl R'
  walk_at "40"
  split
  · rename_i p1
    have p1' : decC t b e ≤ e - (1 * 2 ^ b.toNat : Int).fdiv 2 := of_decide_eq_true p1
    walk_at "12"
    split
    · rename_i p2
      have p2' : decC t b e < 1 * 2 ^ (62 : Int).toNat - 1 * 2 ^ b.toNat := of_decide_eq_true p2
      walk_at "8"
      rename RC _ _ _ _ _ _ => r0
      have e1 := dec1 p1' p2'
      exact (e1 ▸ k) _ _ _ _ (by walk_at "om") (r0.pop.weak (by walk_at "le"))
    · rename_i p2
      have p3 : ¬ (decC t b e ≤ e - (1 * 2 ^ b.toNat : Int).fdiv 2 ∧ decC t b e < 1 * 2 ^ (62 : Int).toNat - 1 * 2 ^ b.toNat) := fun h => p2 (decide_eq_true h.2)
      walk_at "12"
      split
      · rename_i q1
        have q1' := of_decide_eq_true q1
        walk_at "6"
        split
        · rename_i q2
          have q2' := of_decide_eq_true q2
          walk_at "8"
          rename RC _ _ _ _ _ _ => r0
          have e1 := dec2 p3 q1' q2'
          exact (e1 ▸ k) _ _ _ _ (by walk_at "om") (r0.pop.weak (by walk_at "le"))
        · rename_i q2
          have q2' := of_decide_eq_false (Bool.eq_false_iff.mpr q2)
          walk_at "4"
          rename RC _ _ _ _ _ _ => r0
          have e1 := dec3 p3 (fun h => q2' h.2)
          exact (e1 ▸ k) _ _ _ _ (by walk_at "om") (r0.pop.weak (by walk_at "le"))
      · rename_i q1
        have q1' := of_decide_eq_false (Bool.eq_false_iff.mpr q1)
        walk_at "4"
        rename RC _ _ _ _ _ _ => r0
        have e1 := dec3 p3 (fun h => q1' h.1)
        exact (e1 ▸ k) _ _ _ _ (by walk_at "om") (r0.pop.weak (by walk_at "le"))
  · rename_i p1
    have p3 : ¬ (decC t b e ≤ e - (1 * 2 ^ b.toNat : Int).fdiv 2 ∧ decC t b e < 1 * 2 ^ (62 : Int).toNat - 1 * 2 ^ b.toNat) := fun h => p1 (decide_eq_true h.1)
    walk_at "12"
    split
    · rename_i q1
      have q1' := of_decide_eq_true q1
      walk_at "6"
      split
      · rename_i q2
        have q2' := of_decide_eq_true q2
        walk_at "8"
        rename RC _ _ _ _ _ _ => r0
        have e1 := dec2 p3 q1' q2'
        exact (e1 ▸ k) _ _ _ _ (by walk_at "om") (r0.pop.weak (by walk_at "le"))
      · rename_i q2
        have q2' := of_decide_eq_false (Bool.eq_false_iff.mpr q2)
        walk_at "4"
        rename RC _ _ _ _ _ _ => r0
        have e1 := dec3 p3 (fun h => q2' h.2)
        exact (e1 ▸ k) _ _ _ _ (by walk_at "om") (r0.pop.weak (by walk_at "le"))
    · rename_i q1
      have q1' := of_decide_eq_false (Bool.eq_false_iff.mpr q1)
      walk_at "4"
      rename RC _ _ _ _ _ _ => r0
      have e1 := dec3 p3 (fun h => q1' h.1)
      exact (e1 ▸ k) _ _ _ _ (by walk_at "om") (r0.pop.weak (by walk_at "le"))
theorem islong_ct {f : UInt8} {t1 : Tok}
    (G : Gd (KK w.params) H0) (hz : H0.objs.size ≤ n) (O : Ok A 2) (R : RC w.params H0 fs H n h)
    (k : ∀ h' n' tk', n ≤ n' → RC w.params H0 fs H n' h' → Q (.bool (decide (128 ≤ f.toNat))) ⟨h', g, d, tk', os⟩) :
    wpAny (model prog w) A (call (.ref 146) [.int (f.toNat : Nat) t1]) Q E ⟨h, g, d, tk, os⟩ := by
  refine' r_def (binds := [("first_byte", .int (f.toNat : Nat) t1)]) R ?G hz O.room ?ho ?hcd ?hbind ?hloc ?_ ?hco ?hgen ?hk ?hcell
  walk_at "def"
  intro L' h₁ tk₁ hl R'
  walk_at "12"
  rename RC _ _ _ _ _ _ => r0
  rw [and128U]
  exact k _ _ _ (by walk_at "om") (r0.pop.weak (by walk_at "le"))
theorem nocb_ct {v : Value}
    (G : Gd (KK w.params) H0) (hz : H0.objs.size ≤ n) (O : Ok A 2) (R : RC w.params H0 fs H n h)
    (k : ∀ h' n' tk', n ≤ n' → RC w.params H0 fs H n' h' → Q .none ⟨h', g, d, tk', os⟩) :
    wpAny (model prog w) A (call (.ref 192) [v]) Q E ⟨h, g, d, tk, os⟩ := by
  refine' r_def (binds := [("trigger", v)]) R ?G hz O.room ?ho ?hcd ?hbind ?hloc ?_ ?hco ?hgen ?hk ?hcell
  walk_at "def"
  intro L' h₁ tk₁ hl R'
  walk_at "3"
  rename RC _ _ _ _ _ _ => r0
  exact k _ _ _ (by walk_at "om") (r0.pop.weak (by walk_at "le"))
end
section
variable {prog : Program} {w : World} {A : Around} {H0 h : Heap} {fs : List (Nat × Map)} {H : PH} {n : Nat} {L : Nat} {m : Map} {g : Array GenState} {d : Drawn} {tk : Nat} {os : OsState} {bb : Nat}
  {E : Value → Shared → Prop} {Q : Value → Shared → Prop}
theorem eiL {l y i : Nat} (h : y + 1 ≤ l) : ((l : Int) - ((y : Int) + 1) + (i : Nat)).toNat = l - (y + 1) + i := by omega
theorem szM {l y : Nat} : min ((4 : Int) - ((y : Int) + 1) + 16).toNat l - ((4 : Int) - ((y : Int) + 1)).toNat < 256 := Nat.lt_of_le_of_lt (Nat.sub_le _ _) (Nat.lt_of_le_of_lt (Nat.min_le_left _ _) (by omega))
theorem eM1 {y : Nat} : ((4 : Int) - ((y : Int) + 1)).toNat = 4 - (y + 1) := by omega
theorem eM2 {y : Nat} (h : y < 4) : ((4 : Int) - ((y : Int) + 1) + 16).toNat = 4 - (y + 1) + 16 := by omega
theorem apply_ct {x : Nat} {name key ph pp : List UInt8} {t1 t2 : Tok}
    (G : Gd (KK w.params) H0) (hz : H0.objs.size ≤ n) (O : Ok A 5) (R : RC w.params H0 fs H n h) (ha : HpAt H x name key)
    (l0 : name.length < 256) (l1 : 6 ≤ key.length) (l2 : key.length < 256) (l3 : ph.length < 256) (l4 : pp.length < 8900) (l5 : (ph.getD 0 0).toNat % 4 + 1 ≤ ph.length)
    (k : ∀ t h' n' tk', n ≤ n' → RC w.params H0 fs H n' h' → Q (.bytes (applyB name key ph pp).toArray t) ⟨h', g, d, tk', os⟩) :
    wpP (model prog w) A (call (.ref 97) [.ref x, .bytes ph.toArray t1, .bytes pp.toArray t2]) Q E ⟨h, g, d, tk, os⟩ := by
  have ha' := ha
  refine' HpAt.el ha ?_
  intro dx u1 u2 e1 e2
  refine' P_def (binds := [("self", .ref x), ("plain_header", .bytes ph.toArray t1), ("protected_payload", .bytes pp.toArray t2)]) R ?G hz O.room ?ho ?hcd ?hbind ?hloc ?_ ?hco ?hgen ?hk ?hcell
  walk_at "def"
  intro L' h₁ tk₁ hl R'
  refine' P_execs_consA ?_
  walk_at "12"
  refine' P_execs_consA ?_
  walk_at "12"
  refine' P_execs_consA ?_
  walk_at "6"
  refine' P_execs_consA ?_
  walk_at "20"
  rename RC _ _ _ _ _ _ => r0
  have N4 : (ph.getD 0 0).toNat % 4 < 4 := Nat.mod_lt _ (by decide)
  refine' hp_mask_ct G (by walk_at "om") (O.deep (by decide)) r0 ha' l0 l1 l2 (by rw [List.length_drop, List.length_take]; exact szM) ?_
  intro t h' n' tk' hn r1
  clear r0
  generalize hM : maskB name key _ = M at r1 ⊢
  have hM' : maskB name key ((pp.take (4 - ((ph.getD 0 0).toNat % 4 + 1) + 16)).drop (4 - ((ph.getD 0 0).toNat % 4 + 1))) = M := by
    rw [← hM]
    have e1 : ((4 : Int) - ((((ph.getD 0 0).toNat % 4 : Nat) : Int) + 1)).toNat = 4 - ((ph.getD 0 0).toNat % 4 + 1) := eM1
    have e2 : ((4 : Int) - ((((ph.getD 0 0).toNat % 4 : Nat) : Int) + 1) + 16).toNat = 4 - ((ph.getD 0 0).toNat % 4 + 1) + 16 := eM2 N4
    show _ = maskB name key ((pp.take ((4 : Int) - ((((ph.getD 0 0).toNat % 4 : Nat) : Int) + 1) + 16).toNat).drop ((4 : Int) - ((((ph.getD 0 0).toNat % 4 : Nat) : Int) + 1)).toNat)
    rw [e1, e2]
  have lM : M.length = 5 := by rw [← hM]; rfl
  walk_at "1"
  refine' P_execs_cons ?_
  refine' P_Assign_Name ?_ ?hs
  case hs => exact rfl
  refine' P_Call_ofName ?_
  walk_at "1"
  refine' P_callT ?_ ?he ?hp
  case he => exact rfl
  case hp => exact rfl
  walk_at "6"
  rename RC _ _ _ _ _ _ => r0
  refine' r_bytearray r0 (by walk_at "om") (by rw [List.length_append]; walk_at "om") ?_
  intro a h'' ha'' r1
  clear r0
  walk_at "1"
  refine' P_any ?_
  walk_at "11"
  have ph0 : (ph ++ pp).getD 0 0 = ph.getD 0 0 := by
    cases ph with
    | nil => simp at l5
    | cons x r => rfl
  have c1 : 0 < (ph ++ pp).length := by rw [List.length_append]; walk_at "om"
  rename RC _ _ _ _ _ _ => r0
  refine' RC.nameAll r0 ?_
  clear r0
  intro FS HC NC eFS eHC eNC rc
  refine' join_if (R := fun f s' => ∃ hX tkX, f = Flow.next ∧ s' = (⟨hX, g, d, tkX, os⟩ : Shared) ∧ RC w.params H0 FS (HC.set a (.ba (maskFirst (ph ++ pp) M))) NC hX) ?_ ?_ ?_
  · intro hc
    have hc2 : decide (Builtin.bitAnd ((((ph ++ pp).getD 0 0).toNat : Nat) : Int) 128 ≠ 0) = true := hc
    rw [and128U] at hc2
    have eB : maskFirst (ph ++ pp) M = (ph ++ pp).set (Int.toNat 0) ((ph ++ pp).getD (Int.toNat 0) 0 ^^^ (M.getD (Int.toNat 0) 0 &&& 15)) := by
      unfold maskFirst; rw [if_pos (of_decide_eq_true hc2)]; rfl
    subst eFS eHC eNC
    walk_at "15"
    rename RC _ _ _ _ _ _ => r0
    exact ⟨_, _, rfl, rfl, by rw [eB]; exact r0⟩
  · intro hc
    have hc2 : decide (Builtin.bitAnd ((((ph ++ pp).getD 0 0).toNat : Nat) : Int) 128 ≠ 0) = false := Bool.eq_false_iff.mpr hc
    rw [and128U] at hc2
    have eB : maskFirst (ph ++ pp) M = (ph ++ pp).set (Int.toNat 0) ((ph ++ pp).getD (Int.toNat 0) 0 ^^^ (M.getD (Int.toNat 0) 0 &&& 31)) := by
      unfold maskFirst; rw [if_neg (of_decide_eq_false hc2)]; rfl
    subst eFS eHC eNC
    walk_at "15"
    rename RC _ _ _ _ _ _ => r0
    exact ⟨_, _, rfl, rfl, by rw [eB]; exact r0⟩
  rintro f s' ⟨hX, tkX, rfl, rfl, rX⟩
  clear rc
  subst eFS eHC eNC
  walk_at "10"
  rename RC _ _ _ _ _ _ => r0
  have eN : (((ph.getD 0 0).toNat % 4 : Nat) : Int) + 1 = (((ph.getD 0 0).toNat % 4 + 1 : Nat) : Int) := by walk_at "om"
  refine' range_turns (N := (ph.getD 0 0).toNat % 4 + 1) ?hh r0 ?e (fun i H' m' => H' a = some (.ba (maskRun (maskFirst (ph ++ pp) M) (ph.length - ((ph.getD 0 0).toNat % 4 + 1)) M i)) ∧ m' "buffer" = some (.ref a) ∧ (∃ t, m' "pn_offset" = some (.int ((ph.length : Int) - ((((ph.getD 0 0).toNat % 4 : Nat) : Int) + 1)) t)) ∧ (∃ t, m' "mask" = some (.bytes M.toArray t)) ∧ H.le H') ?i0 ?turn ?fin ?hinv ?hk ?hl
  case hk => exact rfl
  case hl => exact rfl
  case hh => exact Ok.hd (by walk_at "ok2")
  case e => rw [← eN]; exact PH.set_self _ _ _
  case i0 =>
    refine ⟨?_, rfl, ⟨_, rfl⟩, ⟨_, rfl⟩, by walk_at "le"⟩
    show _ = some (AO.ba (maskFirst (ph ++ pp) M))
    walk_at "lk"
  case hinv =>
    rintro i H' H'' m' oo ⟨i1, i2, i3, i4, i5⟩
    exact ⟨by walk_at "lk", i2, i3, i4, PH.le_only i5 oo (R.none_new (by walk_at "om"))⟩
  case turn =>
    rintro i H' m' n' h' tk' tk'' hi ⟨i1, i2, ⟨_, i3⟩, ⟨_, i4⟩, i5⟩ hn hit r1
    refine' q_abs ?_
    intro TQ hTQ
    have ml := maskRun_length (maskFirst (ph ++ pp) M) (ph.length - ((ph.getD 0 0).toNat % 4 + 1)) M i
    rw [maskFirst_length, List.length_append] at ml
    clear r0
    walk_at "18"
    rename RC _ _ _ _ _ _ => r0
    have ei : ((ph.length : Int) - ((((ph.getD 0 0).toNat % 4 : Nat) : Int) + 1) + (i : Nat)).toNat = ph.length - ((ph.getD 0 0).toNat % 4 + 1) + i := eiL l5
    have ej : ((1 : Int) + (i : Nat)).toNat = 1 + i := by walk_at "om"
    refine hTQ _ _ (turn_next r0 hn (by walk_at "lk") ⟨?_, i2, ⟨_, i3⟩, ⟨_, i4⟩, PH.le_new i5 (R.none_new (by walk_at "om"))⟩)
    rw [PH.set_self, ei, ej]
    rfl
  case fin =>
    rintro H' m' n' h' tk' ⟨i1, i2, ⟨_, i3⟩, ⟨_, i4⟩, i5⟩ hn r1
    have ml := maskRun_length (maskFirst (ph ++ pp) M) (ph.length - ((ph.getD 0 0).toNat % 4 + 1)) M ((ph.getD 0 0).toNat % 4 + 1)
    rw [maskFirst_length, List.length_append] at ml
    clear r0
    walk_at "9"
    rename RC _ _ _ _ _ _ => r0
    refine Qb ?_ (k _ _ _ _ (by walk_at "om") (r0.pop.weak ?_))
    · rw [← hM']; rfl
    · exact i5
end
section
variable {prog : Program} {w : World} {A : Around} {H0 h : Heap} {fs : List (Nat × Map)} {H : PH} {n : Nat} {L : Nat} {m : Map} {g : Array GenState} {d : Drawn} {tk : Nat} {os : OsState} {bb : Nat}
  {E : Value → Shared → Prop} {Q : Value → Shared → Prop}
theorem remove_ct {x : Nat} {name key packet : List UInt8} {off : Nat} {t1 t2 : Tok}
    (G : Gd (KK w.params) H0) (hz : H0.objs.size ≤ n) (O : Ok A 5) (R : RC w.params H0 fs H n h) (ha : HpAt H x name key)
    (l0 : name.length < 256) (l1 : 6 ≤ key.length) (l2 : key.length < 256) (l4 : packet.length < 8900) (l5 : off + 20 ≤ packet.length)
    (k : ∀ (a : Nat) u1 u2 H' h' n' tk', n ≤ n' → H.le H' → H' a = some (.tup [.bytes (unHdr name key packet off).toArray u1, .int (unTrunc name key packet off : Nat) u2]) → RC w.params H0 fs H' n' h' → Q (.ref a) ⟨h', g, d, tk', os⟩) :
    wpP (model prog w) A (call (.ref 104) [.ref x, .bytes packet.toArray t1, .int (off : Nat) t2]) Q E ⟨h, g, d, tk, os⟩ := by
  have ha' := ha
  refine' HpAt.el ha ?_
  intro dx u1 u2 e1 e2
  refine' P_def (binds := [("self", .ref x), ("packet", .bytes packet.toArray t1), ("pn_offset", .int (off : Nat) t2)]) R ?G hz O.room ?ho ?hcd ?hbind ?hloc ?_ ?hco ?hgen ?hk ?hcell
  walk_at "def"
  intro L' h₁ tk₁ hl R'
  refine' P_execs_consA ?_
  walk_at "6"
  refine' P_execs_consA ?_
  walk_at "15"
  split
  · rename_i hc
    exact absurd (of_decide_eq_true hc) (by walk_at "om")
  walk_at "1"
  refine' P_execs_consA ?_
  walk_at "20"
  rename RC _ _ _ _ _ _ => r0
  refine' hp_mask_ct G (by walk_at "om") (O.deep (by decide)) r0 ha' l0 l1 l2 (by rw [List.length_drop, List.length_take]; walk_at "om") ?_
  intro t h' n' tk' hn r1
  clear r0
  generalize hM : maskB name key _ = M at r1 ⊢
  have hM' : unMask name key packet off = M := by
    rw [← hM]
    show _ = maskB name key ((packet.take ((off : Int) + 4 + 16).toNat).drop ((off : Int) + 4).toNat)
    have q1 : ((off : Int) + 4).toNat = off + 4 := by walk_at "om"
    have q2 : ((off : Int) + 4 + 16).toNat = off + 4 + 16 := by walk_at "om"
    rw [q1, q2]; rfl
  have lM : M.length = 5 := by rw [← hM]; rfl
  have lF : (unFirst name key packet off).length = packet.length := maskFirst_length _ _
  have l6 : unLen name key packet off ≤ 4 := by unfold unLen; walk_at "om"
  walk_at "1"
  refine' P_execs_cons ?_
  refine' P_Assign_Name ?_ ?hs
  case hs => exact rfl
  refine' P_Call_ofName ?_
  walk_at "1"
  refine' P_callT ?_ ?he ?hp
  case he => exact rfl
  case hp => exact rfl
  walk_at "3"
  rename RC _ _ _ _ _ _ => r0
  refine' r_bytearray r0 (by walk_at "om") (by walk_at "om") ?_
  intro a h'' ha'' r1
  clear r0
  walk_at "1"
  refine' P_any ?_
  walk_at "11"
  split
  · rename_i hc
    have hc2 : decide (Builtin.bitAnd (((packet.getD 0 0).toNat : Nat) : Int) 128 ≠ 0) = true := hc
    rw [and128U] at hc2
    have eB : unFirst name key packet off = packet.set (Int.toNat 0) (packet.getD (Int.toNat 0) 0 ^^^ (M.getD (Int.toNat 0) 0 &&& 15)) := by
      rw [← hM']; show maskFirst _ _ = _; unfold maskFirst; rw [if_pos (of_decide_eq_true hc2)]; rfl
    walk_at "42"
    rename RC _ _ _ _ _ _ => r0
    have eN : ((((unFirst name key packet off).getD (Int.toNat 0) 0).toNat % 4 : Nat) : Int) + 1 = ((unLen name key packet off : Nat) : Int) := by
      show ((((unFirst name key packet off).getD 0 0).toNat % 4 : Nat) : Int) + 1 = _
      unfold unLen; walk_at "om"
    rw [← eB, eN] at r0
    refine' range_turns (N := unLen name key packet off) ?hh r0 ?e (fun i H' m' => H' a = some (.ba (maskRun (unFirst name key packet off) off M i)) ∧ m' "buffer" = some (.ref a) ∧ (∃ t, m' "pn_offset" = some (.int (off : Nat) t)) ∧ (∃ t, m' "mask" = some (.bytes M.toArray t)) ∧ (∃ t, m' "pn_length" = some (.int (unLen name key packet off : Nat) t)) ∧ (∃ t, m' "pn_truncated" = some (.int (truncRun (unFirst name key packet off) off M i : Nat) t)) ∧ H.le H') ?i0 ?turn ?fin ?hinv ?hk ?hl
    case hk => exact rfl
    case hl => exact rfl
    case hh => exact Ok.hd (by walk_at "ok2")
    case e => exact PH.set_self _ _ _
    case i0 =>
      refine ⟨?_, rfl, ⟨_, rfl⟩, ⟨_, rfl⟩, ⟨_, rfl⟩, ⟨_, rfl⟩, by walk_at "le"⟩
      show _ = some (AO.ba (unFirst name key packet off))
      walk_at "lk"
    case hinv =>
      rintro i H' H'' m' oo ⟨i1, i2, i3, i4, i5, i6, i7⟩
      exact ⟨by walk_at "lk", i2, i3, i4, i5, i6, PH.le_only i7 oo (R.none_new (by walk_at "om"))⟩
    case turn =>
      rintro i H' m' n' h' tk' tk'' hi ⟨i1, i2, ⟨_, i3⟩, ⟨_, i4⟩, ⟨_, i5⟩, ⟨_, i6⟩, i7⟩ hn hit r1
      refine' q_abs ?_
      intro TQ hTQ
      have ml := maskRun_length (unFirst name key packet off) off M i
      have tl := truncRun_lt (unFirst name key packet off) off M i
      have tl2 : 256 ^ i ≤ 256 ^ 4 := Nat.pow_le_pow_right (by decide) (by walk_at "om")
      have tl3 : truncRun (unFirst name key packet off) off M i < 2 ^ 64 := by
        have : (256 : Nat) ^ 4 < 2 ^ 64 := by decide
        walk_at "om"
      clear r0
      walk_at "34"
      rename RC _ _ _ _ _ _ => r0
      have ei : ((off : Int) + (i : Nat)).toNat = off + i := by walk_at "om"
      have ej : ((1 : Int) + (i : Nat)).toNat = 1 + i := by walk_at "om"
      have eR : maskRun (unFirst name key packet off) off M (i + 1) = (maskRun (unFirst name key packet off) off M i).set ((off : Int) + (i : Nat)).toNat ((maskRun (unFirst name key packet off) off M i).getD ((off : Int) + (i : Nat)).toNat 0 ^^^ M.getD ((1 : Int) + (i : Nat)).toNat 0) := by
        rw [ei, ej]; rfl
      refine hTQ _ _ (turn_next r0 hn (by walk_at "lk") ⟨?_, i2, ⟨_, i3⟩, ⟨_, i4⟩, ⟨_, i5⟩, ?_, PH.le_new i7 (R.none_new (by walk_at "om"))⟩)
      · rw [PH.set_self, eR]
      · have e8 : truncRun (unFirst name key packet off) off M (i + 1) = truncRun (unFirst name key packet off) off M i * 256 + (((maskRun (unFirst name key packet off) off M i).set ((off : Int) + (i : Nat)).toNat ((maskRun (unFirst name key packet off) off M i).getD ((off : Int) + (i : Nat)).toNat 0 ^^^ M.getD ((1 : Int) + (i : Nat)).toNat 0)).getD ((off : Int) + (i : Nat)).toNat 0).toNat := by
          rw [truncRun, eR, ei]
        rw [e8]
        exact ⟨_, rfl⟩
    case fin =>
      rintro H' m' n' h' tk' ⟨i1, i2, ⟨_, i3⟩, ⟨_, i4⟩, ⟨_, i5⟩, ⟨_, i6⟩, i7⟩ hn r1
      have ml := maskRun_length (unFirst name key packet off) off M (unLen name key packet off)
      clear r0
      walk_at "25"
      rename RC _ _ _ _ _ _ => r0
      have eo : ((off : Int) + (unLen name key packet off : Nat)).toNat = off + unLen name key packet off := by walk_at "om"
      rw [eo] at r0
      subst hM'
      exact k _ _ _ _ _ _ _ (by walk_at "om") (by walk_at "le") (PH.set_self _ _ _) r0.pop
  · rename_i hc
    have hc2 : decide (Builtin.bitAnd (((packet.getD 0 0).toNat : Nat) : Int) 128 ≠ 0) = false := Bool.eq_false_iff.mpr hc
    rw [and128U] at hc2
    have eB : unFirst name key packet off = packet.set (Int.toNat 0) (packet.getD (Int.toNat 0) 0 ^^^ (M.getD (Int.toNat 0) 0 &&& 31)) := by
      rw [← hM']; show maskFirst _ _ = _; unfold maskFirst; rw [if_neg (of_decide_eq_false hc2)]; rfl
    walk_at "42"
    rename RC _ _ _ _ _ _ => r0
    have eN : ((((unFirst name key packet off).getD (Int.toNat 0) 0).toNat % 4 : Nat) : Int) + 1 = ((unLen name key packet off : Nat) : Int) := by
      show ((((unFirst name key packet off).getD 0 0).toNat % 4 : Nat) : Int) + 1 = _
      unfold unLen; walk_at "om"
    rw [← eB, eN] at r0
    refine' range_turns (N := unLen name key packet off) ?hh r0 ?e (fun i H' m' => H' a = some (.ba (maskRun (unFirst name key packet off) off M i)) ∧ m' "buffer" = some (.ref a) ∧ (∃ t, m' "pn_offset" = some (.int (off : Nat) t)) ∧ (∃ t, m' "mask" = some (.bytes M.toArray t)) ∧ (∃ t, m' "pn_length" = some (.int (unLen name key packet off : Nat) t)) ∧ (∃ t, m' "pn_truncated" = some (.int (truncRun (unFirst name key packet off) off M i : Nat) t)) ∧ H.le H') ?i0 ?turn ?fin ?hinv ?hk ?hl
    case hk => exact rfl
    case hl => exact rfl
    case hh => exact Ok.hd (by walk_at "ok2")
    case e => exact PH.set_self _ _ _
    case i0 =>
      refine ⟨?_, rfl, ⟨_, rfl⟩, ⟨_, rfl⟩, ⟨_, rfl⟩, ⟨_, rfl⟩, by walk_at "le"⟩
      show _ = some (AO.ba (unFirst name key packet off))
      walk_at "lk"
    case hinv =>
      rintro i H' H'' m' oo ⟨i1, i2, i3, i4, i5, i6, i7⟩
      exact ⟨by walk_at "lk", i2, i3, i4, i5, i6, PH.le_only i7 oo (R.none_new (by walk_at "om"))⟩
    case turn =>
      rintro i H' m' n' h' tk' tk'' hi ⟨i1, i2, ⟨_, i3⟩, ⟨_, i4⟩, ⟨_, i5⟩, ⟨_, i6⟩, i7⟩ hn hit r1
      refine' q_abs ?_
      intro TQ hTQ
      have ml := maskRun_length (unFirst name key packet off) off M i
      have tl := truncRun_lt (unFirst name key packet off) off M i
      have tl2 : 256 ^ i ≤ 256 ^ 4 := Nat.pow_le_pow_right (by decide) (by walk_at "om")
      have tl3 : truncRun (unFirst name key packet off) off M i < 2 ^ 64 := by
        have : (256 : Nat) ^ 4 < 2 ^ 64 := by decide
        walk_at "om"
      clear r0
      walk_at "34"
      rename RC _ _ _ _ _ _ => r0
      have ei : ((off : Int) + (i : Nat)).toNat = off + i := by walk_at "om"
      have ej : ((1 : Int) + (i : Nat)).toNat = 1 + i := by walk_at "om"
      have eR : maskRun (unFirst name key packet off) off M (i + 1) = (maskRun (unFirst name key packet off) off M i).set ((off : Int) + (i : Nat)).toNat ((maskRun (unFirst name key packet off) off M i).getD ((off : Int) + (i : Nat)).toNat 0 ^^^ M.getD ((1 : Int) + (i : Nat)).toNat 0) := by
        rw [ei, ej]; rfl
      refine hTQ _ _ (turn_next r0 hn (by walk_at "lk") ⟨?_, i2, ⟨_, i3⟩, ⟨_, i4⟩, ⟨_, i5⟩, ?_, PH.le_new i7 (R.none_new (by walk_at "om"))⟩)
      · rw [PH.set_self, eR]
      · have e8 : truncRun (unFirst name key packet off) off M (i + 1) = truncRun (unFirst name key packet off) off M i * 256 + (((maskRun (unFirst name key packet off) off M i).set ((off : Int) + (i : Nat)).toNat ((maskRun (unFirst name key packet off) off M i).getD ((off : Int) + (i : Nat)).toNat 0 ^^^ M.getD ((1 : Int) + (i : Nat)).toNat 0)).getD ((off : Int) + (i : Nat)).toNat 0).toNat := by
          rw [truncRun, eR, ei]
        rw [e8]
        exact ⟨_, rfl⟩
    case fin =>
      rintro H' m' n' h' tk' ⟨i1, i2, ⟨_, i3⟩, ⟨_, i4⟩, ⟨_, i5⟩, ⟨_, i6⟩, i7⟩ hn r1
      have ml := maskRun_length (unFirst name key packet off) off M (unLen name key packet off)
      clear r0
      walk_at "25"
      rename RC _ _ _ _ _ _ => r0
      have eo : ((off : Int) + (unLen name key packet off : Nat)).toNat = off + unLen name key packet off := by walk_at "om"
      rw [eo] at r0
      subst hM'
      exact k _ _ _ _ _ _ _ (by walk_at "om") (by walk_at "le") (PH.set_self _ _ _) r0.pop
end
section
variable {prog : Program} {w : World} {A : Around} {H0 h : Heap} {fs : List (Nat × Map)} {H : PH} {n : Nat} {L : Nat} {m : Map} {g : Array GenState} {d : Drawn} {tk : Nat} {os : OsState} {bb : Nat}
  {E : Value → Shared → Prop} {Q : Value → Shared → Prop}
abbrev ctxL (av sv hv kv secv vv : Value) : List (Str × Value) :=
  [("aead", av), ("cipher_suite", sv), ("hp", hv), ("key_phase", kv), ("secret", secv), ("version", vv), ("_setup_cb", .ref 192), ("_teardown_cb", .ref 192), ("primitives", .ref 424)]
noncomputable def CtxV (H : PH) (c cd : Nat) (av sv hv kv secv vv : Value) : Prop :=
  H c = some (.inst 264 cd) ∧ H cd = some (.dic (ctxL av sv hv kv secv vv))
structure CtxAt (H : PH) (c cd : Nat) (suite version kp : Int) (secret hpk : List UInt8) : Prop where
  ex : ∃ (a hp : Nat) (t1 t2 t3 t4 : Tok), CtxV H c cd (.ref a) (.int suite t1) (.ref hp) (.int kp t2) (.bytes secret.toArray t3) (.int version t4) ∧ AeadAt H a (aname suite) (keyB suite version secret) (ivB suite version secret) ∧ HpAt H hp (hname suite) hpk
theorem CtxAt.el {X : Prop} {H : PH} {c cd : Nat} {suite version kp : Int} {secret hpk : List UInt8} (h : CtxAt H c cd suite version kp secret hpk)
    (k : ∀ (a hp : Nat) (t1 t2 t3 t4 : Tok), H c = some (.inst 264 cd) → H cd = some (.dic (ctxL (.ref a) (.int suite t1) (.ref hp) (.int kp t2) (.bytes secret.toArray t3) (.int version t4))) → AeadAt H a (aname suite) (keyB suite version secret) (ivB suite version secret) → HpAt H hp (hname suite) hpk → X) : X :=
  let ⟨_, _, _, _, _, _, ⟨e1, e2⟩, hA, hB⟩ := h.ex; k _ _ _ _ _ _ e1 e2 hA hB
theorem ctx_new_kp_ct {kp : Int} {t1 : Tok}
    (G : Gd (KK w.params) H0) (hz : H0.objs.size ≤ n) (O : Ok A 5) (R : RC w.params H0 fs H n h)
    (k : ∀ (c cd : Nat) H' h' n' tk', n ≤ c → n ≤ cd → n ≤ n' → H.le H' → CtxV H' c cd .none .none .none (.int kp t1) .none .none → RC w.params H0 fs H' n' h' → Q (.ref c) ⟨h', g, d, tk', os⟩) :
    wpAny (model prog w) A (call (.ref 264) [.ref 424] [("key_phase", .int kp t1)]) Q E ⟨h, g, d, tk, os⟩ := by
  refine' r_new (binds := fun x => [("self", .ref x), ("primitives", .ref 424), ("key_phase", .int kp t1), ("setup_cb", .ref 192), ("teardown_cb", .ref 192)]) R ?G hz O ?hkk ?hm ?hi ?hf ?ho ?hcd ?hbind ?hloc ?_ ?hco ?hgen ?hk ?hcell
  walk_at "new"
  intro dx L' h₁ tk₁ hd hl R' O'
  walk_at "47"
  rename RC _ _ _ _ _ _ => r0
  refine' k _ _ _ _ _ _ ?x1 ?x2 ?x3 ?x4 ⟨?x5, ?x6⟩ r0.pop
  case x5 => walk_at "lk"
  case x6 => walk_at "lk"
  case x4 => walk_at "le"
  all_goals walk_at "om"
theorem ctx_new_cb_ct
    (G : Gd (KK w.params) H0) (hz : H0.objs.size ≤ n) (O : Ok A 5) (R : RC w.params H0 fs H n h)
    (k : ∀ (c cd : Nat) H' h' n' tk' u, n ≤ c → n ≤ cd → n ≤ n' → H.le H' → CtxV H' c cd .none .none .none (.int 0 u) .none .none → RC w.params H0 fs H' n' h' → Q (.ref c) ⟨h', g, d, tk', os⟩) :
    wpAny (model prog w) A (call (.ref 264) [.ref 424] [("setup_cb", .ref 192), ("teardown_cb", .ref 192)]) Q E ⟨h, g, d, tk, os⟩ := by
  refine' r_new (binds := fun x => [("self", .ref x), ("primitives", .ref 424), ("key_phase", .int 0 527), ("setup_cb", .ref 192), ("teardown_cb", .ref 192)]) R ?G hz O ?hkk ?hm ?hi ?hf ?ho ?hcd ?hbind ?hloc ?_ ?hco ?hgen ?hk ?hcell
  walk_at "new"
  intro dx L' h₁ tk₁ hd hl R' O'
  walk_at "47"
  rename RC _ _ _ _ _ _ => r0
  refine' k _ _ _ _ _ _ _ ?x1 ?x2 ?x3 ?x4 ⟨?x5, ?x6⟩ r0.pop
  case x5 => walk_at "lk"
  case x6 => walk_at "lk"
  case x4 => walk_at "le"
  all_goals walk_at "om"
theorem ctx_setup_ct {c cd : Nat} {suite version kp : Int} {secret : List UInt8} {av sv hv secv vv : Value} {t1 t2 t3 t4 : Tok}
    (G : Gd (KK w.params) H0) (hz : H0.objs.size ≤ n) (O : Ok A 7) (R : RC w.params H0 fs H n h) (hc : CtxV H c cd av sv hv (.int kp t4) secv vv) (hs : Suite suite) (l1 : SecOk (bb + 1) secret)
    (k : ∀ H' h' n' tk', n ≤ n' → Only [cd] H H' → CtxAt H' c cd suite version kp secret (hpB suite version secret) → RC w.params H0 fs H' n' h' → Q .none ⟨h', g, d, tk', os⟩) :
    wpAny (model prog w) A (call (.ref 254) [.ref c] [("cipher_suite", .int suite t1), ("secret", .bytes secret.toArray t2), ("version", .int version t3)]) Q E ⟨h, g, d, tk, os⟩ := by
  obtain ⟨e1, e2⟩ := hc
  have lc := R.lt e1
  have lcd := R.lt e2
  have ncd : c ≠ cd := ne_of e1 e2 (fun q => nomatch q)
  have hd : H0.DictOf (intKind prog w) 182 [(4865, .ref 183), (4866, .ref 184), (4867, .ref 185)] := by
    refine idict_K G.X (es := [_, _, _]) (by k_is) (.cons rfl (.cons rfl (.cons rfl .nil))) (by decide)
  have hv : ∃ (tp : Nat) (u1 u2 : Tok), valueAt [((4865 : Int), Value.ref 183), (4866, .ref 184), (4867, .ref 185)] suite = some (.ref tp) ∧ IsTup H0 tp (List.toArray [.bytes (hname suite).toArray u1, .bytes (aname suite).toArray u2]) := by
    rcases hs with rfl | rfl | rfl
    · exact ⟨183, _, _, rfl, tupK G.X (by k_is)⟩
    · exact ⟨184, _, _, rfl, tupK G.X (by k_is)⟩
    · exact ⟨185, _, _, rfl, tupK G.X (by k_is)⟩
  obtain ⟨tp, u1, u2, hv, ht⟩ := hv
  refine' r_def (binds := [("self", .ref c), ("cipher_suite", .int suite t1), ("secret", .bytes secret.toArray t2), ("version", .int version t3)]) R ?G hz O.room ?ho ?hcd ?hbind ?hloc ?_ ?hco ?hgen ?hk ?hcell
  walk_at "def"
  intro L' h₁ tk₁ hl R'
  walk_at "31"
  rename RC _ _ _ _ _ _ => r0
  refine' derive_ct G (by walk_at "om") (O.deep (by decide)) r0 l1 ?_
  intro a v1 v2 v3 h' n' tk' ha r1
  clear r0
  have a1 := r1.lt (PH.set_self _ _ _)
  walk_at "28"
  rename RC _ _ _ _ _ _ => r0
  refine' aead_new_ct G (by walk_at "om") (O.deep (by decide)) r0 hs.ana (ivB_length l1) ?_
  intro x H1 h' n' tk' hn le1 hA r1
  clear r0
  have f1 := le1 _ _ (PH.set_at (by walk_at "om") e1)
  have f2 := le1 _ _ (PH.set_at (by walk_at "om") e2)
  walk_at "22"
  rename RC _ _ _ _ _ _ => r0
  refine' hp_new_ct G (by walk_at "om") (O.deep (by decide)) r0 hs.hna ?_
  intro y H2 h' n' tk' hn2 le2 hB r1
  clear r0
  have g1 := le2 _ _ (PH.set_at ncd (PH.set_at ncd f1))
  have g2 := le2 _ _ (PH.set_self _ _ _)
  walk_at "22"
  rename RC _ _ _ _ _ _ => r0
  refine' nocb_ct G (by walk_at "om") (O.deep (by decide)) r0 ?_
  intro h' n' tk' hn3 r1
  clear r0
  walk_at "1"
  rename RC _ _ _ _ _ _ => r0
  have ha0 : H a = none := R.none_new (by walk_at "om")
  refine k _ _ _ _ (by walk_at "om") ?_ ⟨x, y, _, _, _, _, ⟨by walk_at "lk", by walk_at "lk"⟩, hA.keep ?_, hB.keep ?_⟩ r0.pop
  · walk_at "only"
  · walk_at "keepi"
  · walk_at "keepi"
end
section
variable {prog : Program} {w : World} {A : Around} {H0 h : Heap} {fs : List (Nat × Map)} {H : PH} {n : Nat} {L : Nat} {m : Map} {g : Array GenState} {d : Drawn} {tk : Nat} {os : OsState} {bb : Nat}
  {E : Value → Shared → Prop} {Q : Value → Shared → Prop}
theorem isvalid_ct {c cd : Nat} {av sv hv kv secv vv : Value}
    (G : Gd (KK w.params) H0) (hz : H0.objs.size ≤ n) (O : Ok A 2) (R : RC w.params H0 fs H n h) (hc : CtxV H c cd av sv hv kv secv vv) (hv : handedIn av = true)
    (k : ∀ h' n' tk', n ≤ n' → RC w.params H0 fs H n' h' → Q (.bool (!(av == .none))) ⟨h', g, d, tk', os⟩) :
    wpAny (model prog w) A (call (.ref 247) [.ref c]) Q E ⟨h, g, d, tk, os⟩ := by
  obtain ⟨e1, e2⟩ := hc
  refine' r_def (binds := [("self", .ref c)]) R ?G hz O.room ?ho ?hcd ?hbind ?hloc ?_ ?hco ?hgen ?hk ?hcell
  walk_at "def"
  intro L' h₁ tk₁ hl R'
  walk_at "8"
  rename RC _ _ _ _ _ _ => r0
  exact k _ _ _ (by walk_at "om") r0.pop
theorem next_ct {c cd : Nat} {suite version kp : Int} {secret hpk : List UInt8}
    (G : Gd (KK w.params) H0) (hz : H0.objs.size ≤ n) (O : Ok A 9) (R : RC w.params H0 fs H n h) (hc : CtxAt H c cd suite version kp secret hpk) (hs : Suite suite) (l1 : SecOk (bb + 2) secret)
    (k : ∀ (c' cd' : Nat) H' h' n' tk', n ≤ c' → n ≤ cd' → n ≤ n' → H.le H' → CtxAt H' c' cd' suite version (flipI kp) (nextB suite version secret) (hpB suite version (nextB suite version secret)) → RC w.params H0 fs H' n' h' → Q (.ref c') ⟨h', g, d, tk', os⟩) :
    wpAny (model prog w) A (call (.ref 282) [.ref c]) Q E ⟨h, g, d, tk, os⟩ := by
  refine' CtxAt.el hc ?_
  intro a hp t1 t2 t3 t4 e1 e2 hA hB
  refine' r_def (binds := [("self", .ref c)]) R ?G hz O.room ?ho ?hcd ?hbind ?hloc ?_ ?hco ?hgen ?hk ?hcell
  walk_at "def"
  intro L' h₁ tk₁ hl R'
  walk_at "11"
  rename RC _ _ _ _ _ _ => r0
  refine' suitehash_ct G (by walk_at "om") (O.deep (by decide)) r0 ?_
  intro t h' n' tk' hn r1
  clear r0
  walk_at "12"
  split
  · rename_i hv'
    have hv' : isV2 version = true := hv'
    walk_at "30"
    rename RC _ _ _ _ _ _ => r0
    refine' ctx_new_kp_ct G (by walk_at "om") (O.deep (by decide)) r0 ?_
    intro c1 cd1 H1 h' n' tk' hc1 hcd1 hn le1 hV r1
    clear r0
    have e1' := le1 _ _ e1
    have e2' := le1 _ _ e2
    obtain ⟨v1, v2⟩ := hV
    have b1 := r1.lt v1
    have b2 := r1.lt v2
    walk_at "33"
    rename RC _ _ _ _ _ _ => r0
    refine' hkdf_ct G (by walk_at "om") (O.deep (by decide)) r0 l1.le (by decide) (by have := algI_in suite; unfold algI at this; walk_at "om") (by have := algI_in suite; unfold algI at this; walk_at "om") (l1.pre (by decide)) (by have := algI_in suite; unfold algI at this; walk_at "om") ?_
    intro u1 h' n' tk' hn2 r1
    clear r0
    walk_at "6"
    rename RC _ _ _ _ _ _ => r0
    have eS : expandB (if suite = 4866 then 48 else 32 : Int).toNat secret (kuLb (isV2 version)) (if suite = 4866 then 48 else 32 : Int).toNat = nextB suite version secret := rfl
    have l2 : SecOk (bb + 1) (expandB (if suite = 4866 then 48 else 32 : Int).toNat secret (kuLb (isV2 version)) (if suite = 4866 then 48 else 32 : Int).toNat) := l1.next
    rw [hv'] at eS l2
    refine' ctx_setup_ct (bb := bb) (kp := flipI kp) G (by walk_at "om") (O.deep (by decide)) r0 ⟨v1, v2⟩ hs l2 ?_
    intro H2 h' n' tk' hn3 o2 hC r1
    have hC2 : CtxAt H2 c1 cd1 suite version (flipI kp) (nextB suite version secret) (hpB suite version (nextB suite version secret)) := by rw [← eS]; exact hC
    clear r0
    walk_at "3"
    rename RC _ _ _ _ _ _ => r0
    exact k _ _ _ _ _ _ (by walk_at "om") (by walk_at "om") (by walk_at "om") (PH.le_only le1 o2 (R.none_new (by walk_at "om"))) hC2 r0.pop
  · rename_i hv'
    have hv' : isV2 version = false := Bool.eq_false_iff.mpr hv'
    walk_at "30"
    rename RC _ _ _ _ _ _ => r0
    refine' ctx_new_kp_ct G (by walk_at "om") (O.deep (by decide)) r0 ?_
    intro c1 cd1 H1 h' n' tk' hc1 hcd1 hn le1 hV r1
    clear r0
    have e1' := le1 _ _ e1
    have e2' := le1 _ _ e2
    obtain ⟨v1, v2⟩ := hV
    have b1 := r1.lt v1
    have b2 := r1.lt v2
    walk_at "33"
    rename RC _ _ _ _ _ _ => r0
    refine' hkdf_ct G (by walk_at "om") (O.deep (by decide)) r0 l1.le (by decide) (by have := algI_in suite; unfold algI at this; walk_at "om") (by have := algI_in suite; unfold algI at this; walk_at "om") (l1.pre (by decide)) (by have := algI_in suite; unfold algI at this; walk_at "om") ?_
    intro u1 h' n' tk' hn2 r1
    clear r0
    walk_at "6"
    rename RC _ _ _ _ _ _ => r0
    have eS : expandB (if suite = 4866 then 48 else 32 : Int).toNat secret (kuLb (isV2 version)) (if suite = 4866 then 48 else 32 : Int).toNat = nextB suite version secret := rfl
    have l2 : SecOk (bb + 1) (expandB (if suite = 4866 then 48 else 32 : Int).toNat secret (kuLb (isV2 version)) (if suite = 4866 then 48 else 32 : Int).toNat) := l1.next
    rw [hv'] at eS l2
    refine' ctx_setup_ct (bb := bb) (kp := flipI kp) G (by walk_at "om") (O.deep (by decide)) r0 ⟨v1, v2⟩ hs l2 ?_
    intro H2 h' n' tk' hn3 o2 hC r1
    have hC2 : CtxAt H2 c1 cd1 suite version (flipI kp) (nextB suite version secret) (hpB suite version (nextB suite version secret)) := by rw [← eS]; exact hC
    clear r0
    walk_at "3"
    rename RC _ _ _ _ _ _ => r0
    exact k _ _ _ _ _ _ (by walk_at "om") (by walk_at "om") (by walk_at "om") (PH.le_only le1 o2 (R.none_new (by walk_at "om"))) hC2 r0.pop
theorem apply_kp_ct {c cd c2 cd2 : Nat} {suite version kp kp2 : Int} {secret secret2 hpk hpk2 : List UInt8} {v : Value}
    (G : Gd (KK w.params) H0) (hz : H0.objs.size ≤ n) (O : Ok A 9) (R : RC w.params H0 fs H n h) (hc : CtxAt H c cd suite version kp secret hpk) (hc2 : CtxAt H c2 cd2 suite version kp2 secret2 hpk2) (hne : cd2 ≠ cd)
    (k : ∀ H' h' n' tk', n ≤ n' → Only [cd] H H' → CtxAt H' c cd suite version kp2 secret2 hpk → RC w.params H0 fs H' n' h' → Q .none ⟨h', g, d, tk', os⟩) :
    wpAny (model prog w) A (call (.ref 275) [.ref c, .ref c2] [("trigger", v)]) Q E ⟨h, g, d, tk, os⟩ := by
  refine' CtxAt.el hc ?_
  intro a hp t1 t2 t3 t4 e1 e2 hA hB
  refine' CtxAt.el hc2 ?_
  intro a' hp' t1' t2' t3' t4' f1 f2 hA' hB'
  have ncd : c ≠ cd := ne_of e1 e2 (fun q => nomatch q)
  have ncd2 : c2 ≠ cd := ne_of f1 e2 (fun q => nomatch q)
  refine' r_def (binds := [("self", .ref c), ("crypto", .ref c2), ("trigger", v)]) R ?G hz O.room ?ho ?hcd ?hbind ?hloc ?_ ?hco ?hgen ?hk ?hcell
  walk_at "def"
  intro L' h₁ tk₁ hl R'
  walk_at "31"
  rename RC _ _ _ _ _ _ => r0
  refine' nocb_ct G (by walk_at "om") (O.deep (by decide)) r0 ?_
  intro h' n' tk' hn3 r1
  clear r0
  walk_at "1"
  rename RC _ _ _ _ _ _ => r0
  refine k _ _ _ _ (by walk_at "om") ?_ ⟨a', hp, _, _, _, _, ⟨by walk_at "lk", by walk_at "lk"⟩, hA'.keep ?_, hB.keep ?_⟩ r0.pop
  · walk_at "only"
  · walk_at "keepi"
  · walk_at "keepi"
end
section
variable {prog : Program} {w : World} {A : Around} {H0 h : Heap} {fs : List (Nat × Map)} {H : PH} {n : Nat} {L : Nat} {m : Map} {g : Array GenState} {d : Drawn} {tk : Nat} {os : OsState} {bb : Nat}
  {E : Value → Shared → Prop} {Q : Value → Shared → Prop}
noncomputable def encB (suite version : Int) (secret hpk ph pp : List UInt8) (pn : Int) : List UInt8 :=
  applyB (hname suite) hpk ph (sealB (aname suite) (keyB suite version secret) (nonceB (ivB suite version secret) pn) pp ph)
theorem ctx_enc_ct {c cd : Nat} {suite version kp pn : Int} {secret hpk ph pp : List UInt8} {t1 t2 t3 : Tok}
    (G : Gd (KK w.params) H0) (hz : H0.objs.size ≤ n) (O : Ok A 7) (R : RC w.params H0 fs H n h) (hc : CtxAt H c cd suite version kp secret hpk) (hs : Suite suite) (l1 : SecOk bb secret) (l2 : 6 ≤ hpk.length) (l3 : hpk.length < 256)
    (hno : NonceOk (ivB suite version secret) pn) (l4 : ph.length < 256) (l5 : (ph.getD 0 0).toNat % 4 + 1 ≤ ph.length) (l6 : pp.length < 256)
    (k : ∀ t h' n' tk', n ≤ n' → RC w.params H0 fs H n' h' → Q (.bytes (encB suite version secret hpk ph pp pn).toArray t) ⟨h', g, d, tk', os⟩) :
    wpP (model prog w) A (call (.ref 240) [.ref c, .bytes ph.toArray t1, .bytes pp.toArray t2, .int pn t3]) Q E ⟨h, g, d, tk, os⟩ := by
  refine' CtxAt.el hc ?_
  intro a hp u1 u2 u3 u4 e1 e2 hA hB
  refine' AeadAt.el hA ?_
  intro dA w1 w2 w3 a1 a2
  refine' HpAt.el hB ?_
  intro dB w4 w5 b1 b2
  have lk1 := keyB_length (suite := suite) (version := version) l1
  have lk2 := keySize_in suite
  have lk3 : (keyB suite version secret).length < 256 := by walk_at "om"
  have lk4 : (nonceB (ivB suite version secret) pn).length < 256 := by unfold nonceB; rw [toBE_length]; decide
  refine' P_def (binds := [("self", .ref c), ("plain_header", .bytes ph.toArray t1), ("plain_payload", .bytes pp.toArray t2), ("packet_number", .int pn t3)]) R ?G hz O.room ?ho ?hcd ?hbind ?hloc ?_ ?hco ?hgen ?hk ?hcell
  walk_at "def"
  intro L' h₁ tk₁ hl R'
  refine' P_execs_consA ?_
  walk_at "6"
  rename RC _ _ _ _ _ _ => r0
  refine' isvalid_ct G (by walk_at "om") (O.deep (by decide)) r0 ⟨e1, e2⟩ rfl ?_
  intro h' n' tk' hn r1
  clear r0
  walk_at "2"
  · rfl
  refine' P_execs_consA ?_
  walk_at "15"
  rename RC _ _ _ _ _ _ => r0
  refine' aead_enc_ct G (by walk_at "om") (O.deep (by decide)) r0 hA hno hs.anl lk3 l6 l4 ?_
  intro t h' n' tk' hn r1
  clear r0
  walk_at "1"
  refine' P_execs_cons ?_
  refine' P_Return_some ?_
  refine' P_methodCall ?_ ?he
  case he => exact rfl
  walk_at "4"
  refine' P_callK (K := (KK w.params)) ?hk ?_ ?he ?hp
  case he => exact rfl
  case hp => exact rfl
  case hk => k_is
  walk_at "6"
  rename RC _ _ _ _ _ _ => r0
  refine' apply_ct G (by walk_at "om") (O.deep (by decide)) r0 hB hs.hnl l2 l3 l4 (sealB_lt hs.anl lk3 lk4 l6 l4) l5 ?_
  intro t h' n' tk' hn r1
  exact k _ _ _ _ (by walk_at "om") r1.pop
end
section
variable {prog : Program} {w : World} {A : Around} {H0 h : Heap} {fs : List (Nat × Map)} {H : PH} {n : Nat} {L : Nat} {m : Map} {g : Array GenState} {d : Drawn} {tk : Nat} {os : OsState} {bb : Nat}
  {E : Value → Shared → Prop} {Q : Value → Shared → Prop}
noncomputable def PairV (H : PH) (p pd rc sc : Nat) (ask : Bool) : Prop :=
  ∃ t, H p = some (.inst 350 pd) ∧ H pd = some (.dic [("aead_tag_size", .int 16 t), ("primitives", .ref 424), ("recv", .ref rc), ("send", .ref sc), ("_update_key_requested", .bool ask)])
theorem PairV.el {X : Prop} {H : PH} {p pd rc sc : Nat} {ask : Bool} (h : PairV H p pd rc sc ask) (k : ∀ t, H p = some (.inst 350 pd) → H pd = some (.dic [("aead_tag_size", .int 16 t), ("primitives", .ref 424), ("recv", .ref rc), ("send", .ref sc), ("_update_key_requested", .bool ask)]) → X) : X :=
  let ⟨_, e1, e2⟩ := h; k _ e1 e2
theorem pair_new_ct
    (G : Gd (KK w.params) H0) (hz : H0.objs.size ≤ n) (O : Ok A 9) (R : RC w.params H0 fs H n h)
    (k : ∀ (p pd rc rcd sc scd : Nat) H' h' n' tk' u1 u2, n ≤ p → n ≤ pd → n ≤ rc → n ≤ rcd → n ≤ sc → n ≤ scd → rcd ≠ scd → n ≤ n' → H.le H' → PairV H' p pd rc sc false →
      CtxV H' rc rcd .none .none .none (.int 0 u1) .none .none → CtxV H' sc scd .none .none .none (.int 0 u2) .none .none → RC w.params H0 fs H' n' h' → Q (.ref p) ⟨h', g, d, tk', os⟩) :
    wpAny (model prog w) A (call (.ref 350) [.ref 424]) Q E ⟨h, g, d, tk, os⟩ := by
  refine' r_new (binds := fun x => [("self", .ref x), ("primitives", .ref 424), ("recv_setup_cb", .ref 192), ("recv_teardown_cb", .ref 192), ("send_setup_cb", .ref 192), ("send_teardown_cb", .ref 192)]) R ?G hz O ?hkk ?hm ?hi ?hf ?ho ?hcd ?hbind ?hloc ?_ ?hco ?hgen ?hk ?hcell
  walk_at "new"
  intro dx L' h₁ tk₁ hd hl R' O'
  walk_at "24"
  rename RC _ _ _ _ _ _ => r0
  refine' ctx_new_cb_ct G (by walk_at "om") (O'.le (by decide)) r0 ?_
  intro rc rcd H1 h' n' tk' u1 hc1 hcd1 hn le1 hV1 r1
  clear r0
  have f1 := le1 _ _ (PH.set_at (by walk_at "om") (PH.set_at (by walk_at "om") (PH.set_self _ _ _)))
  have f2 := le1 _ _ (PH.set_self _ _ _)
  have L1 : H.le H1 := PH.le_trans (by walk_at "le") le1
  obtain ⟨v1, v2⟩ := hV1
  have b1 := r1.lt v1
  have b2 := r1.lt v2
  walk_at "16"
  rename RC _ _ _ _ _ _ => r0
  refine' ctx_new_cb_ct G (by walk_at "om") (O'.le (by decide)) r0 ?_
  intro sc scd H2 h' n' tk' u2 hc2 hcd2 hn2 le2 hV2 r1
  clear r0
  have g1 := le2 _ _ (PH.set_at (by walk_at "om") f1)
  have g2 := le2 _ _ (PH.set_self _ _ _)
  have L2 : H.le H2 := PH.le_trans (PH.le_new L1 (R.none_new (by walk_at "om"))) le2
  have g3 := le2 _ _ (PH.set_at (by walk_at "om") v1)
  have g4 := le2 _ _ (PH.set_at (by walk_at "om") v2)
  obtain ⟨v3, v4⟩ := hV2
  have b3 := r1.lt v3
  have b4 := r1.lt v4
  walk_at "9"
  rename RC _ _ _ _ _ _ => r0
  refine k (dx + 1) dx rc rcd sc scd _ _ _ _ u1 u2 (by walk_at "om") (by walk_at "om") (by walk_at "om") (by walk_at "om") (by walk_at "om") (by walk_at "om") (by walk_at "om") (by walk_at "om") ?_ ⟨_, by walk_at "lk", by walk_at "lk"⟩ ⟨by walk_at "lk", by walk_at "lk"⟩ ⟨by walk_at "lk", by walk_at "lk"⟩ r0.pop
  walk_at "le"
theorem update_key_ct {p pd rc sc : Nat} {ask : Bool}
    (G : Gd (KK w.params) H0) (hz : H0.objs.size ≤ n) (O : Ok A 2) (R : RC w.params H0 fs H n h) (hp : PairV H p pd rc sc ask)
    (k : ∀ H' h' n' tk', n ≤ n' → Only [pd] H H' → PairV H' p pd rc sc true → RC w.params H0 fs H' n' h' → Q .none ⟨h', g, d, tk', os⟩) :
    wpAny (model prog w) A (call (.ref 332) [.ref p]) Q E ⟨h, g, d, tk, os⟩ := by
  refine' PairV.el hp ?_
  intro t e1 e2
  have np : p ≠ pd := ne_of e1 e2 (fun q => nomatch q)
  refine' r_def (binds := [("self", .ref p)]) R ?G hz O.room ?ho ?hcd ?hbind ?hloc ?_ ?hco ?hgen ?hk ?hcell
  walk_at "def"
  intro L' h₁ tk₁ hl R'
  walk_at "6"
  rename RC _ _ _ _ _ _ => r0
  exact k _ _ _ _ (by walk_at "om") (by walk_at "only") ⟨_, by walk_at "lk", by walk_at "lk"⟩ r0.pop
end
section
variable {prog : Program} {w : World} {A : Around} {H0 h : Heap} {fs : List (Nat × Map)} {H : PH} {n : Nat} {L : Nat} {m : Map} {g : Array GenState} {d : Drawn} {tk : Nat} {os : OsState} {bb : Nat}
  {E : Value → Shared → Prop} {Q : Value → Shared → Prop}
theorem CtxAt.only {S : List Nat} {H H' : PH} {c cd : Nat} {suite version kp : Int} {secret hpk : List UInt8} (h : CtxAt H c cd suite version kp secret hpk) (o : Only S H H') (k : KeepI H H') (h2 : cd ∉ S) : CtxAt H' c cd suite version kp secret hpk := by
  refine' CtxAt.el h ?_
  intro a hp t1 t2 t3 t4 e1 e2 hA hB
  exact ⟨a, hp, t1, t2, t3, t4, ⟨k _ _ trivial e1, o _ _ h2 e2⟩, hA.keep k, hB.keep k⟩
theorem CtxAt.le {H H' : PH} {c cd : Nat} {suite version kp : Int} {secret hpk : List UInt8} (h : CtxAt H c cd suite version kp secret hpk) (o : H.le H') : CtxAt H' c cd suite version kp secret hpk :=
  h.only (S := []) (fun a x _ e => o a x e) (fun a x _ e => o a x e) (List.not_mem_nil)
theorem CtxAt.nimm {H : PH} {c cd : Nat} {suite version kp : Int} {secret hpk : List UInt8} (h : CtxAt H c cd suite version kp secret hpk) : ∀ b ∈ [cd], ∀ z, H b = some z → ¬ Imm z := by
  refine' CtxAt.el h ?_
  intro a hp t1 t2 t3 t4 e1 e2 hA hB
  intro b hb z e
  rw [List.mem_singleton.mp hb, e2] at e
  cases e; exact nimm_ctx
theorem PairV.keep {S : List Nat} {H H' : PH} {p pd rc sc : Nat} {ask : Bool} (h : PairV H p pd rc sc ask) (o : Only S H H') (k : KeepI H H') (h2 : pd ∉ S) : PairV H' p pd rc sc ask := by
  obtain ⟨t, e1, e2⟩ := h
  exact ⟨t, k _ _ trivial e1, o _ _ h2 e2⟩
theorem PairV.ne {H : PH} {p pd rc sc c cd : Nat} {ask : Bool} {suite version kp : Int} {secret hpk : List UInt8} (h : PairV H p pd rc sc ask) (h' : CtxAt H c cd suite version kp secret hpk) : pd ≠ cd := by
  obtain ⟨t, e1, e2⟩ := h
  refine' CtxAt.el h' ?_
  intro a hp t1 t2 t3 t4 f1 f2 hA hB
  refine ne_of e2 f2 (fun q => ?_)
  injection q with q
  injection q with q1 q2
  exact absurd (show Str.ofString "aead_tag_size" = Str.ofString "aead" from congrArg Prod.fst q1) (by decide)
theorem update_ct {p pd rc rcd sc scd : Nat} {ask : Bool} {suite version kpR kpS : Int} {secR hpR secS hpS : List UInt8} {v : Value}
    (G : Gd (KK w.params) H0) (hz : H0.objs.size ≤ n) (O : Ok A 11) (R : RC w.params H0 fs H n h) (hp : PairV H p pd rc sc ask) (hr : CtxAt H rc rcd suite version kpR secR hpR) (hsd : CtxAt H sc scd suite version kpS secS hpS) (hne : rcd ≠ scd)
    (hs : Suite suite) (l1 : SecOk (bb + 2) secR) (l2 : SecOk (bb + 2) secS)
    (k : ∀ H' h' n' tk', n ≤ n' → Only [pd, rcd, scd] H H' → KeepI H H' → PairV H' p pd rc sc false → CtxAt H' rc rcd suite version (flipI kpR) (nextB suite version secR) hpR → CtxAt H' sc scd suite version (flipI kpS) (nextB suite version secS) hpS → RC w.params H0 fs H' n' h' → Q .none ⟨h', g, d, tk', os⟩) :
    wpAny (model prog w) A (call (.ref 347) [.ref p, v]) Q E ⟨h, g, d, tk, os⟩ := by
  refine' PairV.el hp ?_
  intro t e1 e2
  have ne1 := hp.ne hr
  have ne2 := hp.ne hsd
  have np : p ≠ pd := ne_of e1 e2 (fun q => nomatch q)
  refine' r_def (binds := [("self", .ref p), ("trigger", v)]) R ?G hz O.room ?ho ?hcd ?hbind ?hloc ?_ ?hco ?hgen ?hk ?hcell
  walk_at "def"
  intro L' h₁ tk₁ hl R'
  walk_at "19"
  rename RC _ _ _ _ _ _ => r0
  refine' next_ct (bb := bb) G (by walk_at "om") (O.deep (by decide)) r0 hr hs l1 ?_
  intro c1 cd1 H1 h' n' tk' hc1 hcd1 hn le1 hC1 r1
  clear r0
  have e1a := le1 _ _ e1
  have e2a := le1 _ _ e2
  have hr1 := hr.le le1
  have hs1 := hsd.le le1
  have bcd := R.lt e2
  walk_at "5"
  rename RC _ _ _ _ _ _ => r0
  have x1 : cd1 ≠ rcd := by
    refine' CtxAt.el hr ?_
    intro a hp t1 t2 t3 t4 f1 f2 hA hB
    have := R.lt f2
    walk_at "om"
  refine' apply_kp_ct G (by walk_at "om") (O.deep (by decide)) r0 hr1 hC1 x1 ?_
  intro H2 h' n' tk' hn2 o2 hC2 r1
  clear r0
  have k2 : KeepI H1 H2 := KeepI.only (KeepI.refl _) o2 hr1.nimm
  have e1b := k2 _ _ (show Imm (.inst _ _) from trivial) e1a
  have e2b := o2 _ _ (by simpa using ne1) e2a
  have hs2 := hs1.only o2 k2 (by simpa using Ne.symm hne)
  walk_at "19"
  rename RC _ _ _ _ _ _ => r0
  refine' next_ct (bb := bb) G (by walk_at "om") (O.deep (by decide)) r0 hs2 hs l2 ?_
  intro c2 cd2 H3 h' n' tk' hc2 hcd2 hn3 le3 hC3 r1
  clear r0
  have e1c := le3 _ _ e1b
  have e2c := le3 _ _ e2b
  have hs3 := hs2.le le3
  have hC2' := hC2.le le3
  walk_at "5"
  rename RC _ _ _ _ _ _ => r0
  have x2 : cd2 ≠ scd := by
    refine' CtxAt.el hsd ?_
    intro a hp t1 t2 t3 t4 f1 f2 hA hB
    have := R.lt f2
    walk_at "om"
  refine' apply_kp_ct G (by walk_at "om") (O.deep (by decide)) r0 hs3 hC3 x2 ?_
  intro H4 h' n' tk' hn4 o4 hC4 r1
  clear r0
  have k4 : KeepI H3 H4 := KeepI.only (KeepI.refl _) o4 hs3.nimm
  have e1d := k4 _ _ (show Imm (.inst _ _) from trivial) e1c
  have e2d := o4 _ _ (by simpa using ne2) e2c
  have hr4 := hC2'.only o4 k4 (by simpa using hne)
  walk_at "6"
  rename RC _ _ _ _ _ _ => r0
  have o : Only [pd, rcd, scd] H H4 := fun a x na e => by
    simp only [List.mem_cons, List.not_mem_nil, or_false, not_or] at na
    exact o4 a x (by simpa using na.2.2) (le3 _ _ (o2 a x (by simpa using na.2.1) (le1 _ _ e)))
  have kk : KeepI H H4 := ((((KeepI.refl H).le le1).trans k2).le le3).trans k4
  have oS : ∀ z, Only [pd] H4 (H4.set pd z) := fun z => Only.set _ (Only.refl _ _) (List.mem_singleton.mpr rfl)
  have kS : ∀ z, KeepI H4 (H4.set pd z) := fun z => KeepI.set (KeepI.refl _) e2d nimm_pair
  exact k _ _ _ _ (by walk_at "om") (Only.set _ o (by simp)) (KeepI.set kk e2 nimm_pair) ⟨_, by walk_at "lk", by walk_at "lk"⟩ (hr4.only (oS _) (kS _) (by simpa using Ne.symm ne1)) (hC4.only (oS _) (kS _) (by simpa using Ne.symm ne2)) r0.pop
end
section
variable {prog : Program} {w : World} {A : Around} {H0 h : Heap} {fs : List (Nat × Map)} {H : PH} {n : Nat} {L : Nat} {m : Map} {g : Array GenState} {d : Drawn} {tk : Nat} {os : OsState} {bb : Nat}
  {E : Value → Shared → Prop} {Q : Value → Shared → Prop}
theorem pair_enc_ct {p pd rc rcd sc scd : Nat} {ask : Bool} {suite version kpR kpS pn : Int} {secR hpR secS hpS ph pp : List UInt8} {t1 t2 t3 : Tok}
    (G : Gd (KK w.params) H0) (hz : H0.objs.size ≤ n) (O : Ok A 13) (R : RC w.params H0 fs H n h) (hp : PairV H p pd rc sc ask) (hr : CtxAt H rc rcd suite version kpR secR hpR) (hsd : CtxAt H sc scd suite version kpS secS hpS) (hne : rcd ≠ scd)
    (hs : Suite suite) (l1 : SecOk (bb + 2) secR) (l2 : SecOk (bb + 2) secS) (l3 : 6 ≤ hpS.length) (l4 : hpS.length < 256)
    (hno : ∀ s, NonceOk (ivB suite version s) pn) (l5 : ph.length < 256) (l6 : (ph.getD 0 0).toNat % 4 + 1 ≤ ph.length) (l7 : pp.length < 256)
    (k : ∀ t H' h' n' tk', n ≤ n' → Only [pd, rcd, scd] H H' → KeepI H H' → PairV H' p pd rc sc false → CtxAt H' rc rcd suite version (if ask then flipI kpR else kpR) (if ask then nextB suite version secR else secR) hpR →
      CtxAt H' sc scd suite version (if ask then flipI kpS else kpS) (if ask then nextB suite version secS else secS) hpS → RC w.params H0 fs H' n' h' → Q (.bytes (encB suite version (if ask then nextB suite version secS else secS) hpS ph pp pn).toArray t) ⟨h', g, d, tk', os⟩) :
    wpP (model prog w) A (call (.ref 311) [.ref p, .bytes ph.toArray t1, .bytes pp.toArray t2, .int pn t3]) Q E ⟨h, g, d, tk, os⟩ := by
  refine' PairV.el hp ?_
  intro t e1 e2
  refine' P_def (binds := [("self", .ref p), ("plain_header", .bytes ph.toArray t1), ("plain_payload", .bytes pp.toArray t2), ("packet_number", .int pn t3)]) R ?G hz O.room ?ho ?hcd ?hbind ?hloc ?_ ?hco ?hgen ?hk ?hcell
  walk_at "def"
  intro L' h₁ tk₁ hl R'
  refine' P_execs_consA ?_
  walk_at "6"
  cases ask with
  | true =>
    walk_at "11"
    rename RC _ _ _ _ _ _ => r0
    refine' update_ct (bb := bb) G (by walk_at "om") (O.deep (by decide)) r0 hp hr hsd hne hs l1 l2 ?_
    intro H1 h' n' tk' hn o1 k1 hp1 hr1 hs1 r1
    clear r0
    refine' PairV.el hp1 ?_
    intro t' e3 e4
    walk_at "1"
    refine' P_execs_cons ?_
    refine' P_Return_some ?_
    refine' P_methodCall ?_ ?he
    case he => exact rfl
    refine' CtxAt.el hs1 ?_
    intro a hp' v1 v2 v3 v4 f1 f2 hA hB
    walk_at "4"
    refine' P_callK (K := (KK w.params)) ?hk ?_ ?he ?hp
    case he => exact rfl
    case hp => exact rfl
    case hk => k_is
    walk_at "8"
    rename RC _ _ _ _ _ _ => r0
    refine' ctx_enc_ct (bb := bb + 1) G (by walk_at "om") (O.deep (by decide)) r0 hs1 hs l2.next l3 l4 (hno _) l5 l6 l7 ?_
    intro t h' n' tk' hn r1
    exact k _ _ _ _ _ (by walk_at "om") o1 k1 hp1 hr1 hs1 r1.pop
  | false =>
    walk_at "2"
    refine' P_execs_cons ?_
    refine' P_Return_some ?_
    refine' P_methodCall ?_ ?he
    case he => exact rfl
    refine' CtxAt.el hsd ?_
    intro a hp' v1 v2 v3 v4 f1 f2 hA hB
    walk_at "4"
    refine' P_callK (K := (KK w.params)) ?hk ?_ ?he ?hp
    case he => exact rfl
    case hp => exact rfl
    case hk => k_is
    walk_at "8"
    rename RC _ _ _ _ _ _ => r0
    refine' ctx_enc_ct (bb := bb + 2) G (by walk_at "om") (O.deep (by decide)) r0 hsd hs l2 l3 l4 (hno _) l5 l6 l7 ?_
    intro t h' n' tk' hn r1
    exact k _ _ _ _ _ (by walk_at "om") (Only.refl _ _) (KeepI.refl _) hp hr hsd r1.pop
end
section
variable {prog : Program} {w : World} {A : Around} {H0 h : Heap} {fs : List (Nat × Map)} {H : PH} {n : Nat} {L : Nat} {m : Map} {g : Array GenState} {d : Drawn} {tk : Nat} {os : OsState} {bb : Nat}
  {E : Value → Shared → Prop} {Q : Value → Shared → Prop}
theorem aead_dec_ok_ct {x : Nat} {name key iv data assoc y : List UInt8} {pn : Int} {t1 t2 t3 : Tok}
    (G : Gd (KK w.params) H0) (hz : H0.objs.size ≤ n) (O : Ok A 5) (R : RC w.params H0 fs H n h) (ha : AeadAt H x name key iv) (hno : NonceOk iv pn)
    (l1 : name.length < 256) (l2 : key.length < 256) (l4 : data.length < 8900) (l5 : assoc.length < 256) (ho : openB name key (nonceB iv pn) data assoc = some y)
    (k : ∀ t h' n' tk', n ≤ n' → RC w.params H0 fs H n' h' → Q (.bytes y.toArray t) ⟨h', g, d, tk', os⟩) :
    wpAny (model prog w) A (call (.ref 55) [.ref x, .bytes data.toArray t1, .bytes assoc.toArray t2, .int pn t3]) Q E ⟨h, g, d, tk, os⟩ := by
  have ha' := ha
  refine' AeadAt.el ha ?_
  intro dx u1 u2 u3 e1 e2
  refine' r_def (binds := [("self", .ref x), ("data", .bytes data.toArray t1), ("associated_data", .bytes assoc.toArray t2), ("packet_number", .int pn t3)]) R ?G hz O.room ?ho ?hcd ?hbind ?hloc ?_ ?hco ?hgen ?hk ?hcell
  walk_at "def"
  intro L' h₁ tk₁ hl R'
  walk_at "25"
  rename RC _ _ _ _ _ _ => r0
  refine' nonce_ct G (by walk_at "om") (O.deep (by decide)) r0 ha' hno.1 hno.2 ?_
  intro t h' n' tk' hn r1
  clear r0
  walk_at "6"
  rename RC _ _ _ _ _ _ => r0
  refine' prim_open_ct G (by walk_at "om") (O.deep (by decide)) r0 l1 l2 (by rw [toBE_length]; decide) l4 l5 ?_
  intro v h' n' tk' hv hn r1
  clear r0
  have hv' : OptB v (some y) := by rw [← ho]; exact hv
  obtain ⟨tv, rfl⟩ := hv'
  walk_at "13"
  rename RC _ _ _ _ _ _ => r0
  exact k _ _ _ _ (by walk_at "om") (r0.pop.weak (by walk_at "le"))
theorem bnt {b : Bool} (h : (!b) = true) : b = false := by cases b <;> simp_all
theorem bnf {b : Bool} (h : ¬ (!b) = true) : b = true := by cases b <;> simp_all
noncomputable def dHdr (suite : Int) (hpk packet : List UInt8) (off : Nat) : List UInt8 := unHdr (hname suite) hpk packet off
noncomputable def dFb (suite : Int) (hpk packet : List UInt8) (off : Nat) : UInt8 := (dHdr suite hpk packet off).getD (Int.toNat 0) 0
noncomputable def dNum (suite : Int) (hpk packet : List UInt8) (off : Nat) (ex : Int) : Int := decodeI (unTrunc (hname suite) hpk packet off : Nat) (((((dFb suite hpk packet off).toNat % 4 : Nat) : Int) + 1) * 8) ex
noncomputable def phaseI (fb : UInt8) : Int := (Builtin.bitAnd ((fb.toNat : Nat) : Int) 4).fdiv (2 ^ Int.toNat 2)
noncomputable def dNext (suite : Int) (hpk packet : List UInt8) (off : Nat) (kp : Int) : Bool := !(decide (128 ≤ (dFb suite hpk packet off).toNat)) && decide (phaseI (dFb suite hpk packet off) ≠ kp)
noncomputable def dSec (suite version : Int) (hpk packet : List UInt8) (off : Nat) (kp : Int) (secret : List UInt8) : List UInt8 := if dNext suite hpk packet off kp then nextB suite version secret else secret
theorem ctx_dec_ok_ct {c cd : Nat} {suite version kp ex : Int} {secret hpk packet y : List UInt8} {off : Nat} {t1 t2 t3 : Tok}
    (G : Gd (KK w.params) H0) (hz : H0.objs.size ≤ n) (O : Ok A 11) (R : RC w.params H0 fs H n h) (hc : CtxAt H c cd suite version kp secret hpk) (hs : Suite suite) (l1 : SecOk (bb + 2) secret) (l2 : 6 ≤ hpk.length) (l3 : hpk.length < 256)
    (l4 : packet.length < 8900) (l5 : off + 20 ≤ packet.length) (l6 : (dHdr suite hpk packet off).length < 256) (hno : ∀ s, NonceOk (ivB suite version s) (dNum suite hpk packet off ex))
    (ho : openB (aname suite) (keyB suite version (dSec suite version hpk packet off kp secret)) (nonceB (ivB suite version (dSec suite version hpk packet off kp secret)) (dNum suite hpk packet off ex)) (packet.drop (dHdr suite hpk packet off).length) (dHdr suite hpk packet off) = some y)
    (k : ∀ (a : Nat) u1 u2 u3 H' h' n' tk', n ≤ n' → H.le H' → H' a = some (.tup [.bytes (dHdr suite hpk packet off).toArray u1, .bytes y.toArray u2, .int (dNum suite hpk packet off ex) u3, .bool (dNext suite hpk packet off kp)]) → RC w.params H0 fs H' n' h' → Q (.ref a) ⟨h', g, d, tk', os⟩) :
    wpP (model prog w) A (call (.ref 233) [.ref c, .bytes packet.toArray t1, .int (off : Nat) t2, .int ex t3]) Q E ⟨h, g, d, tk, os⟩ := by
  refine' CtxAt.el hc ?_
  intro a hp u1 u2 u3 u4 e1 e2 hA hB
  refine' HpAt.el hB ?_
  intro dB w4 w5 b1 b2
  refine' P_def (binds := [("self", .ref c), ("packet", .bytes packet.toArray t1), ("encrypted_offset", .int (off : Nat) t2), ("expected_packet_number", .int ex t3)]) R ?G hz O.room ?ho ?hcd ?hbind ?hloc ?_ ?hco ?hgen ?hk ?hcell
  walk_at "def"
  intro L' h₁ tk₁ hl R'
  refine' P_execs_consA ?_
  walk_at "10"
  refine' P_execs_cons ?_
  refine' P_Assign_Tuple ?_ ?hs ?hw
  case hs => exact rfl
  case hw => exact rfl
  refine' P_methodCall ?_ ?he
  case he => exact rfl
  walk_at "4"
  refine' P_callK (K := (KK w.params)) ?hk ?_ ?he ?hp
  case he => exact rfl
  case hp => exact rfl
  case hk => k_is
  walk_at "6"
  rename RC _ _ _ _ _ _ => r0
  refine' remove_ct G (by walk_at "om") (O.deep (by decide)) r0 hB hs.hnl l2 l3 l4 l5 ?_
  intro a' u1' u2' H1 h' n' tk' hn le1 hT r1
  clear r0
  refine' AeadAt.el hA ?_
  intro dA w1 w2 w3 a1 a2
  have e1a := le1 _ _ e1
  have e2a := le1 _ _ e2
  have hc1 := hc.le le1
  have hA1 := hA.keep (fun b z _ e => le1 b z e)
  have a1a := le1 _ _ a1
  have a2a := le1 _ _ a2
  have lh : (unHdr (hname suite) hpk packet off).length = off + unLen (hname suite) hpk packet off := by
    unfold unHdr
    rw [List.length_take, maskRun_length]
    have : (unFirst (hname suite) hpk packet off).length = packet.length := maskFirst_length _ _
    have : unLen (hname suite) hpk packet off ≤ 4 := by unfold unLen; walk_at "om"
    walk_at "om"
  have lL : 1 ≤ unLen (hname suite) hpk packet off ∧ unLen (hname suite) hpk packet off ≤ 4 := by unfold unLen; walk_at "om"
  have ll : (unHdr (hname suite) hpk packet off).length ≤ packet.length := by walk_at "om"
  walk_at "8"
  refine' P_any ?_
  walk_at "33"
  rename RC _ _ _ _ _ _ => r0
  refine' decode_ct G (by walk_at "om") (O.deep (by decide)) r0 (by walk_at "om") (by walk_at "om") ?_
  intro u5 h' n' tk' hn2 r1
  clear r0
  walk_at "16"
  rename RC _ _ _ _ _ _ => r0
  refine' islong_ct G (by walk_at "om") (O.deep (by decide)) r0 ?_
  intro h' n' tk' hn3 r1
  clear r0
  walk_at "1"
  split
  · rename_i q1
    have q1' : decide (128 ≤ (dFb suite hpk packet off).toNat) = false := bnt q1
    walk_at "19"
    split
    · rename_i q2
      have q2' : decide (phaseI (dFb suite hpk packet off) ≠ kp) = true := q2
      have eN : dNext suite hpk packet off kp = true := by unfold dNext; rw [q1', q2']; rfl
      walk_at "9"
      rename RC _ _ _ _ _ _ => r0
      refine' next_ct (bb := bb) G (by walk_at "om") (O.deep (by decide)) r0 hc1 hs l1 ?_
      intro c2 cd2 H2 h' n' tk' hc2 hcd2 hn4 le2 hC2 r1
      clear r0
      have cne : c ≠ c2 := by have := R.lt e1; walk_at "om"
      have LE : H.le H2 := PH.le_trans le1 le2
      have g1 := le2 _ _ e1a
      have hd2 : dSec suite version hpk packet off kp secret = nextB suite version secret := by unfold dSec; rw [eN]; rfl
      refine' CtxAt.el hC2 ?_
      intro a2 hp2 v1 v2 v3 v4 f1 f2 hAx hBx
      refine' AeadAt.el hAx ?_
      intro dA2 x1 x2 x3 y1 y2
      have lkx := keyB_length (suite := suite) (version := version) (SecOk.next (suite := suite) (version := version) l1)
      have ho' := ho
      rw [hd2] at ho'
      walk_at "32"
      rename RC _ _ _ _ _ _ => r0
      have lkz := keySize_in suite
      refine' aead_dec_ok_ct G (by walk_at "om") (O.deep (by decide)) r0 hAx (hno _) hs.anl (by walk_at "om") (by rw [List.length_drop]; walk_at "om") l6 ho' ?_
      intro u6 h' n' tk' hn6 r1
      clear r0
      walk_at "17"
      rename RC _ _ _ _ _ _ => r0
      rw [eN] at k
      exact k _ _ _ _ _ _ _ _ (by walk_at "om") (PH.le_new LE (R.none_new (by walk_at "om"))) (PH.set_self _ _ _) r0.pop
    · rename_i q2
      have q2' : decide (phaseI (dFb suite hpk packet off) ≠ kp) = false := Bool.eq_false_iff.mpr q2
      have eN : dNext suite hpk packet off kp = false := by unfold dNext; rw [q1', q2']; rfl
      have LE := le1
      have hAx := hA1
      have hd2 : dSec suite version hpk packet off kp secret = secret := by unfold dSec; rw [eN]; rfl
      have lkx := keyB_length (suite := suite) (version := version) l1
      have ho' := ho
      rw [hd2] at ho'
      walk_at "31"
      rename RC _ _ _ _ _ _ => r0
      have lkz := keySize_in suite
      refine' aead_dec_ok_ct G (by walk_at "om") (O.deep (by decide)) r0 hAx (hno _) hs.anl (by walk_at "om") (by rw [List.length_drop]; walk_at "om") l6 ho' ?_
      intro u6 h' n' tk' hn6 r1
      clear r0
      walk_at "17"
      rename RC _ _ _ _ _ _ => r0
      rw [eN] at k
      exact k _ _ _ _ _ _ _ _ (by walk_at "om") (PH.le_new LE (R.none_new (by walk_at "om"))) (PH.set_self _ _ _) r0.pop
  · rename_i q1
    have q1' : decide (128 ≤ (dFb suite hpk packet off).toNat) = true := bnf q1
    have eN : dNext suite hpk packet off kp = false := by unfold dNext; rw [q1']; rfl
    have LE := le1
    have hAx := hA1
    have hd2 : dSec suite version hpk packet off kp secret = secret := by unfold dSec; rw [eN]; rfl
    have lkx := keyB_length (suite := suite) (version := version) l1
    have ho' := ho
    rw [hd2] at ho'
    walk_at "30"
    rename RC _ _ _ _ _ _ => r0
    have lkz := keySize_in suite
    refine' aead_dec_ok_ct G (by walk_at "om") (O.deep (by decide)) r0 hAx (hno _) hs.anl (by walk_at "om") (by rw [List.length_drop]; walk_at "om") l6 ho' ?_
    intro u6 h' n' tk' hn6 r1
    clear r0
    walk_at "17"
    rename RC _ _ _ _ _ _ => r0
    rw [eN] at k
    exact k _ _ _ _ _ _ _ _ (by walk_at "om") (PH.le_new LE (R.none_new (by walk_at "om"))) (PH.set_self _ _ _) r0.pop
end
section
variable {prog : Program} {w : World} {A : Around} {H0 h : Heap} {fs : List (Nat × Map)} {H : PH} {n : Nat} {L : Nat} {m : Map} {g : Array GenState} {d : Drawn} {tk : Nat} {os : OsState} {bb : Nat}
  {E : Value → Shared → Prop} {Q : Value → Shared → Prop}
theorem pair_dec_ok_ct {p pd rc rcd sc scd : Nat} {ask N : Bool} {suite version kpR kpS ex : Int} {secR hpR secS hpS packet y : List UInt8} {off : Nat} {t1 t2 t3 : Tok}
    (G : Gd (KK w.params) H0) (hz : H0.objs.size ≤ n) (O : Ok A 13) (R : RC w.params H0 fs H n h) (hp : PairV H p pd rc sc ask) (hr : CtxAt H rc rcd suite version kpR secR hpR) (hsd : CtxAt H sc scd suite version kpS secS hpS) (hne : rcd ≠ scd)
    (hs : Suite suite) (l1 : SecOk (bb + 2) secR) (lS : SecOk (bb + 2) secS) (l2 : 6 ≤ hpR.length) (l3 : hpR.length < 256)
    (l4 : packet.length < 8900) (l5 : off + 20 ≤ packet.length) (l6 : (dHdr suite hpR packet off).length < 256) (hno : ∀ s, NonceOk (ivB suite version s) (dNum suite hpR packet off ex)) (hN : dNext suite hpR packet off kpR = N)
    (ho : openB (aname suite) (keyB suite version (dSec suite version hpR packet off kpR secR)) (nonceB (ivB suite version (dSec suite version hpR packet off kpR secR)) (dNum suite hpR packet off ex)) (packet.drop (dHdr suite hpR packet off).length) (dHdr suite hpR packet off) = some y)
    (k : ∀ (a : Nat) u1 u2 u3 H' h' n' tk', n ≤ n' → Only [pd, rcd, scd] H H' → KeepI H H' → PairV H' p pd rc sc (if N then false else ask) → CtxAt H' rc rcd suite version (if N then flipI kpR else kpR) (if N then nextB suite version secR else secR) hpR →
      CtxAt H' sc scd suite version (if N then flipI kpS else kpS) (if N then nextB suite version secS else secS) hpS →
      H' a = some (.tup [.bytes (dHdr suite hpR packet off).toArray u1, .bytes y.toArray u2, .int (dNum suite hpR packet off ex) u3]) → RC w.params H0 fs H' n' h' → Q (.ref a) ⟨h', g, d, tk', os⟩) :
    wpP (model prog w) A (call (.ref 304) [.ref p, .bytes packet.toArray t1, .int (off : Nat) t2, .int ex t3]) Q E ⟨h, g, d, tk, os⟩ := by
  refine' PairV.el hp ?_
  intro t e1 e2
  refine' CtxAt.el hr ?_
  intro a0 hp0 v1 v2 v3 v4 f1 f2 hA hB
  refine' P_def (binds := [("self", .ref p), ("packet", .bytes packet.toArray t1), ("encrypted_offset", .int (off : Nat) t2), ("expected_packet_number", .int ex t3)]) R ?G hz O.room ?ho ?hcd ?hbind ?hloc ?_ ?hco ?hgen ?hk ?hcell
  walk_at "def"
  intro L' h₁ tk₁ hl R'
  refine' P_execs_cons ?_
  refine' P_Assign_Tuple ?_ ?hs ?hw
  case hs => exact rfl
  case hw => exact rfl
  refine' P_methodCall ?_ ?he
  case he => exact rfl
  walk_at "4"
  refine' P_callK (K := (KK w.params)) ?hk ?_ ?he ?hp
  case he => exact rfl
  case hp => exact rfl
  case hk => k_is
  walk_at "8"
  rename RC _ _ _ _ _ _ => r0
  refine' ctx_dec_ok_ct (bb := bb) G (by walk_at "om") (O.deep (by decide)) r0 hr hs l1 l2 l3 l4 l5 l6 hno ho ?_
  intro a u1 u2 u3 H1 h' n' tk' hn le1 hT r1
  clear r0
  rw [hN] at hT
  have bnd : ∀ b z, H1 b = some z → b < n' := fun b z e => r1.lt e
  have e1a := le1 _ _ e1
  have e2a := le1 _ _ e2
  have hp1 : PairV H1 p pd rc sc ask := ⟨t, e1a, e2a⟩
  have hr1 := hr.le le1
  have hs1 := hsd.le le1
  walk_at "14"
  refine' P_any ?_
  walk_at "5"
  cases N with
  | true =>
    walk_at "11"
    rename RC _ _ _ _ _ _ => r0
    refine' update_ct (bb := bb) G (by walk_at "om") (O.deep (by decide)) r0 hp1 hr1 hs1 hne hs l1 lS ?_
    intro H2 h' n' tk' hn2 o2 k2 hp2 hr2 hs2 r1
    clear r0
    have bnd : ∀ b z, H2 b = some z → b < n' := fun b z e => r1.lt e
    walk_at "12"
    rename RC _ _ _ _ _ _ => r0
    exact k _ _ _ _ _ _ _ _ (by walk_at "om") (Only.new _ (fun x z nx e => o2 x z nx (le1 _ _ e)) (R.none_new (by walk_at "om"))) (KeepI.new (((KeepI.refl H).le le1).trans k2) (R.none_new (by walk_at "om"))) (hp2.keep (S := []) (fun b z _ e => PH.set_at (by have := bnd _ _ e; walk_at "om") e) (fun b z _ e => PH.set_at (by have := bnd _ _ e; walk_at "om") e) List.not_mem_nil) (hr2.le (fun b z e => PH.set_at (by have := bnd _ _ e; walk_at "om") e)) (hs2.le (fun b z e => PH.set_at (by have := bnd _ _ e; walk_at "om") e)) (PH.set_self _ _ _) r0.pop
  | false =>
    walk_at "13"
    rename RC _ _ _ _ _ _ => r0
    exact k _ _ _ _ _ _ _ _ (by walk_at "om") (Only.new _ (fun x z nx e => le1 _ _ e) (R.none_new (by walk_at "om"))) (KeepI.new ((KeepI.refl H).le le1) (R.none_new (by walk_at "om"))) (hp1.keep (S := []) (fun b z _ e => PH.set_at (by have := bnd _ _ e; walk_at "om") e) (fun b z _ e => PH.set_at (by have := bnd _ _ e; walk_at "om") e) List.not_mem_nil) (hr1.le (fun b z e => PH.set_at (by have := bnd _ _ e; walk_at "om") e)) (hs1.le (fun b z e => PH.set_at (by have := bnd _ _ e; walk_at "om") e)) (PH.set_self _ _ _) r0.pop
end
section
variable {prog : Program} {w : World} {A : Around} {H0 h : Heap} {fs : List (Nat × Map)} {H : PH} {n : Nat} {L : Nat} {m : Map} {g : Array GenState} {d : Drawn} {tk : Nat} {os : OsState} {bb : Nat}
  {E : Value → Shared → Prop} {Q : Value → Shared → Prop}
theorem prim_extract_ct {size : Int} {salt ikm : List UInt8} {t0 t1 t2 t3 : Tok} {v1 v2 : Value}
    (G : Gd (KK w.params) H0) (hz : H0.objs.size ≤ n) (O : Ok A 3) (R : RC w.params H0 fs H n h)
    (l1 : salt.length ≤ 100) (l2 : ikm.length ≤ 100) (l5 : size ≤ 66) (l7 : 0 ≤ size)
    (k : ∀ t h' n' tk', n ≤ n' → RC w.params H0 fs H n' h' → Q (.bytes (extractB size.toNat salt ikm).toArray t) ⟨h', g, d, tk', os⟩) :
    wpAny (model prog w) A (call (.ref 424) [.str (PySem.Str.ofString "extract") t0, .int size t1, .bytes salt.toArray t2, .bytes ikm.toArray t3, v1, v2]) Q E ⟨h, g, d, tk, os⟩ := by
  refine' r_def (binds := [("word", .str (PySem.Str.ofString "extract") t0), ("name", .int size t1), ("key", .bytes salt.toArray t2), ("first", .bytes ikm.toArray t3), ("second", v1), ("third", v2)]) R ?G hz O.room ?ho ?hcd ?hbind ?hloc ?_ ?hco ?hgen ?hk ?hcell
  walk_at "def"
  intro L' h₁ tk₁ hl R'
  walk_at "49"
  rename RC _ _ _ _ _ _ => r0
  refine' extract_ct G (by walk_at "om") (O.deep (by decide)) r0 l1 l2 l5 l7 ?_
  intro t h' n' tk' hn r1
  exact k _ _ _ _ (by walk_at "om") (r1.pop.weak (by walk_at "le"))
theorem hkdf_extract_ct {size : Int} {salt ikm : List UInt8} {t1 t2 t3 : Tok}
    (G : Gd (KK w.params) H0) (hz : H0.objs.size ≤ n) (O : Ok A 4) (R : RC w.params H0 fs H n h)
    (l1 : salt.length ≤ 100) (l2 : ikm.length ≤ 100) (l5 : size ≤ 66) (l7 : 0 ≤ size)
    (k : ∀ t h' n' tk', n ≤ n' → RC w.params H0 fs H n' h' → Q (.bytes (extractB size.toNat salt ikm).toArray t) ⟨h', g, d, tk', os⟩) :
    wpAny (model prog w) A (call (.ref 181) [.ref 424, .int size t1, .bytes salt.toArray t2, .bytes ikm.toArray t3]) Q E ⟨h, g, d, tk, os⟩ := by
  refine' r_def (binds := [("primitives", .ref 424), ("algorithm", .int size t1), ("salt", .bytes salt.toArray t2), ("key_material", .bytes ikm.toArray t3)]) R ?G hz O.room ?ho ?hcd ?hbind ?hloc ?_ ?hco ?hgen ?hk ?hcell
  walk_at "def"
  intro L' h₁ tk₁ hl R'
  walk_at "19"
  rename RC _ _ _ _ _ _ => r0
  refine' prim_extract_ct G (by walk_at "om") (O.deep (by decide)) r0 l1 l2 l5 l7 ?_
  intro t h' n' tk' hn r1
  exact k _ _ _ _ (by walk_at "om") (r1.pop.weak (by walk_at "le"))
theorem lnext_ct {suite version : Int} {secret : List UInt8} {t1 t2 t3 : Tok}
    (G : Gd (KK w.params) H0) (hz : H0.objs.size ≤ n) (O : Ok A 3) (R : RC w.params H0 fs H n h)
    (l1 : secret.length ≤ 100)
    (k : ∀ t h' n' tk', n ≤ n' → RC w.params H0 fs H n' h' → Q (.bytes (nextB suite version secret).toArray t) ⟨h', g, d, tk', os⟩) :
    wpAny (model prog w) A (call (.ref 436) [.int version t1, .int suite t2, .bytes secret.toArray t3]) Q E ⟨h, g, d, tk, os⟩ := by
  refine' r_def (binds := [("version", .int version t1), ("suite", .int suite t2), ("secret", .bytes secret.toArray t3)]) R ?G hz O.room ?ho ?hcd ?hbind ?hloc ?_ ?hco ?hgen ?hk ?hcell
  walk_at "def"
  intro L' h₁ tk₁ hl R'
  walk_at "10"
  split
  · rename_i hc
    have ea : algI suite = 48 := if_pos (of_decide_eq_true hc)
    walk_at "18"
    split
    · rename_i hv'
      have hv' : isV2 version = true := hv'
      walk_at "7"
      rename RC _ _ _ _ _ _ => r0
      refine' expand_ct G (by walk_at "om") (O.deep (by decide)) r0 l1 (by decide) (by decide) (by decide) trivial (by decide) ?_
      intro t h' n' tk' hn r1
      refine Qb ?_ (k _ _ _ _ (by walk_at "om") (r1.pop.weak (by walk_at "le")))
      unfold nextB
      rw [ea, hv']
      rfl
    · rename_i hv'
      have hv' : isV2 version = false := Bool.eq_false_iff.mpr hv'
      walk_at "7"
      rename RC _ _ _ _ _ _ => r0
      refine' expand_ct G (by walk_at "om") (O.deep (by decide)) r0 l1 (by decide) (by decide) (by decide) trivial (by decide) ?_
      intro t h' n' tk' hn r1
      refine Qb ?_ (k _ _ _ _ (by walk_at "om") (r1.pop.weak (by walk_at "le")))
      unfold nextB
      rw [ea, hv']
      rfl
  · rename_i hc
    have ea : algI suite = 32 := if_neg (of_decide_eq_false (Bool.eq_false_iff.mpr hc))
    walk_at "18"
    split
    · rename_i hv'
      have hv' : isV2 version = true := hv'
      walk_at "7"
      rename RC _ _ _ _ _ _ => r0
      refine' expand_ct G (by walk_at "om") (O.deep (by decide)) r0 l1 (by decide) (by decide) (by decide) trivial (by decide) ?_
      intro t h' n' tk' hn r1
      refine Qb ?_ (k _ _ _ _ (by walk_at "om") (r1.pop.weak (by walk_at "le")))
      unfold nextB
      rw [ea, hv']
      rfl
    · rename_i hv'
      have hv' : isV2 version = false := Bool.eq_false_iff.mpr hv'
      walk_at "7"
      rename RC _ _ _ _ _ _ => r0
      refine' expand_ct G (by walk_at "om") (O.deep (by decide)) r0 l1 (by decide) (by decide) (by decide) trivial (by decide) ?_
      intro t h' n' tk' hn r1
      refine Qb ?_ (k _ _ _ _ (by walk_at "om") (r1.pop.weak (by walk_at "le")))
      unfold nextB
      rw [ea, hv']
      rfl
noncomputable def firstB (version : Int) (cid label : List UInt8) : List UInt8 := expandB 32 (extractB 32 (saltB (isV2 version)) cid) label 32
theorem extractB_length {size : Nat} {salt ikm : List UInt8} (h : size ≤ 66) : (extractB size salt ikm).length = size := by
  unfold extractB hashN
  rw [List.length_drop, toBE_length]; walk_at "om"
theorem salt_len (b : Bool) : (saltB b).length ≤ 100 := by cases b <;> decide
theorem first_ct {version : Int} {cid label : List UInt8} {t1 t2 t3 : Tok}
    (G : Gd (KK w.params) H0) (hz : H0.objs.size ≤ n) (O : Ok A 3) (R : RC w.params H0 fs H n h)
    (l1 : cid.length ≤ 100) (l2 : label.length ≤ 100)
    (k : ∀ t h' n' tk', n ≤ n' → RC w.params H0 fs H n' h' → Q (.bytes (firstB version cid label).toArray t) ⟨h', g, d, tk', os⟩) :
    wpAny (model prog w) A (call (.ref 443) [.int version t1, .bytes cid.toArray t2, .bytes label.toArray t3]) Q E ⟨h, g, d, tk, os⟩ := by
  refine' r_def (binds := [("version", .int version t1), ("cid", .bytes cid.toArray t2), ("label", .bytes label.toArray t3)]) R ?G hz O.room ?ho ?hcd ?hbind ?hloc ?_ ?hco ?hgen ?hk ?hcell
  walk_at "def"
  intro L' h₁ tk₁ hl R'
  walk_at "13"
  split
  · rename_i hv'
    have hv' : isV2 version = true := hv'
    walk_at "3"
    rename RC _ _ _ _ _ _ => r0
    refine' r_fh (c := true) r0 ?he ?_
    case he => walk_at "lk"
    intro u8 tk8
    walk_at "20"
    rename RC _ _ _ _ _ _ => r0
    refine' extract_ct G (by walk_at "om") (O.deep (by decide)) r0 (salt_len _) l1 (by decide) (by decide) ?_
    intro t h' n' tk' hn r1
    clear r0
    walk_at "8"
    rename RC _ _ _ _ _ _ => r0
    refine' expand_ct G (by walk_at "om") (O.deep (by decide)) r0 (by rw [extractB_length (by decide)]; decide) l2 (by decide) (by decide) trivial (by decide) ?_
    intro t h' n' tk' hn r1
    refine Qb ?_ (k _ _ _ _ (by walk_at "om") (r1.pop.weak (by walk_at "le")))
    unfold firstB
    rw [hv']
    rfl
  · rename_i hv'
    have hv' : isV2 version = false := Bool.eq_false_iff.mpr hv'
    walk_at "3"
    rename RC _ _ _ _ _ _ => r0
    refine' r_fh (c := false) r0 ?he ?_
    case he => walk_at "lk"
    intro u8 tk8
    walk_at "20"
    rename RC _ _ _ _ _ _ => r0
    refine' extract_ct G (by walk_at "om") (O.deep (by decide)) r0 (salt_len _) l1 (by decide) (by decide) ?_
    intro t h' n' tk' hn r1
    clear r0
    walk_at "8"
    rename RC _ _ _ _ _ _ => r0
    refine' expand_ct G (by walk_at "om") (O.deep (by decide)) r0 (by rw [extractB_length (by decide)]; decide) l2 (by decide) (by decide) trivial (by decide) ?_
    intro t h' n' tk' hn r1
    refine Qb ?_ (k _ _ _ _ (by walk_at "om") (r1.pop.weak (by walk_at "le")))
    unfold firstB
    rw [hv']
    rfl
end
section
variable {prog : Program} {w : World} {A : Around} {H0 h : Heap} {fs : List (Nat × Map)} {H : PH} {n : Nat} {L : Nat} {m : Map} {g : Array GenState} {d : Drawn} {tk : Nat} {os : OsState} {bb : Nat}
  {E : Value → Shared → Prop} {Q : Value → Shared → Prop}
noncomputable def clL : List UInt8 := [99, 108, 105, 101, 110, 116, 32, 105, 110]
noncomputable def svL : List UInt8 := [115, 101, 114, 118, 101, 114, 32, 105, 110]
noncomputable def inB (version : Int) (cid : List UInt8) (client : Bool) : List UInt8 := firstB version cid (if client then clL else svL)
theorem CtxV.kp {H H' : PH} {c cd : Nat} {av sv hv kv secv vv : Value} (h : CtxV H c cd av sv hv kv secv vv) (o : Only [cd] H H') : KeepI H H' := KeepI.only (KeepI.refl _) o (fun b hb z e => by
  rw [List.mem_singleton.mp hb, h.2] at e
  cases e; exact nimm_ctx)
theorem CtxV.only {S : List Nat} {H H' : PH} {c cd : Nat} {av sv hv kv secv vv : Value} (h : CtxV H c cd av sv hv kv secv vv) (o : Only S H H') (k : KeepI H H') (h2 : cd ∉ S) : CtxV H' c cd av sv hv kv secv vv :=
  ⟨k _ _ trivial h.1, o _ _ h2 h.2⟩
theorem CtxV.le {H H' : PH} {c cd : Nat} {av sv hv kv secv vv : Value} (h : CtxV H c cd av sv hv kv secv vv) (o : H.le H') : CtxV H' c cd av sv hv kv secv vv := ⟨o _ _ h.1, o _ _ h.2⟩
theorem PairV.neV {H : PH} {p pd rc sc c cd : Nat} {ask : Bool} {av sv hv kv secv vv : Value} (h : PairV H p pd rc sc ask) (h' : CtxV H c cd av sv hv kv secv vv) : pd ≠ cd := by
  obtain ⟨t, e1, e2⟩ := h
  refine ne_of e2 h'.2 (fun q => ?_)
  injection q with q
  injection q with q1 q2
  exact absurd (show Str.ofString "aead_tag_size" = Str.ofString "aead" from congrArg Prod.fst q1) (by decide)
theorem firstB_length (version : Int) (cid label : List UInt8) : (firstB version cid label).length = 32 := expandB_length (by decide)
theorem inB_ok (version : Int) (cid : List UInt8) (c : Bool) : SecOk 1 (inB version cid c) := by show (firstB _ _ _).length ≤ 100; rw [firstB_length]; decide
theorem setup_initial_ct {p pd rc rcd sc scd : Nat} {client : Bool} {version : Int} {cid : List UInt8} {u1 u2 t1 t2 : Tok}
    (G : Gd (KK w.params) H0) (hz : H0.objs.size ≤ n) (O : Ok A 9) (R : RC w.params H0 fs H n h) (hp : PairV H p pd rc sc false) (hr : CtxV H rc rcd .none .none .none (.int 0 u1) .none .none) (hsd : CtxV H sc scd .none .none .none (.int 0 u2) .none .none) (hne : rcd ≠ scd)
    (l1 : cid.length ≤ 100)
    (k : ∀ H' h' n' tk', n ≤ n' → Only [rcd, scd] H H' → KeepI H H' → PairV H' p pd rc sc false → CtxAt H' rc rcd 4865 version 0 (inB version cid (!client)) (hpB 4865 version (inB version cid (!client))) →
      CtxAt H' sc scd 4865 version 0 (inB version cid client) (hpB 4865 version (inB version cid client)) → RC w.params H0 fs H' n' h' → Q .none ⟨h', g, d, tk', os⟩) :
    wpAny (model prog w) A (call (.ref 318) [.ref p, .bytes cid.toArray t1, .bool client, .int version t2]) Q E ⟨h, g, d, tk, os⟩ := by
  refine' PairV.el hp ?_
  intro t0 e1 e2
  refine' r_def (binds := [("self", .ref p), ("cid", .bytes cid.toArray t1), ("is_client", .bool client), ("version", .int version t2)]) R ?G hz O.room ?ho ?hcd ?hbind ?hloc ?_ ?hco ?hgen ?hk ?hcell
  walk_at "def"
  intro L' h₁ tk₁ hl R'
  have bn0 := R.bnd
  have lp := R.lt e1
  have lpd := R.lt e2
  obtain ⟨a1, a2⟩ := id hr
  obtain ⟨a3, a4⟩ := id hsd
  have la1 := R.lt a1
  have la2 := R.lt a2
  have la3 := R.lt a3
  have la4 := R.lt a4
  cases client with
  | true =>
    walk_at "33"
    split
    · rename_i hv'
      have hv' : isV2 version = true := hv'
      walk_at "14"
      rename RC _ _ _ _ _ _ => r0
      refine' suitehash_ct G (by walk_at "om") (O.deep (by decide)) r0 ?_
      intro t h' n' tk' hn r1
      clear r0
      walk_at "18"
      rename RC _ _ _ _ _ _ => r0
      refine' hkdf_extract_ct (salt := saltB true) G (by walk_at "om") (O.deep (by decide)) r0 (salt_len _) l1 ?h5 ?h7 ?_
      case h5 => decide
      case h7 => decide
      intro t h' n' tk' hn r1
      clear r0
      walk_at "31"
      rename RC _ _ _ _ _ _ => r0
      refine' hkdf_ct (label := svL) G (by walk_at "om") (O.deep (by decide)) r0 ?g1 ?g2 ?g3 ?g4 trivial ?g7 ?_
      case g1 => rw [extractB_length (by decide)]; decide
      case g2 => decide
      case g3 => decide
      case g4 => decide
      case g7 => decide
      intro t h' n' tk' hn r1
      clear r0
      have eR : expandB (Int.toNat (if (4865 : Int) = 4866 then 48 else 32)) (extractB (Int.toNat (if (4865 : Int) = 4866 then 48 else 32)) (saltB true) cid) svL (Int.toNat (if (4865 : Int) = 4866 then 48 else 32)) = inB version cid false := by unfold inB firstB; rw [hv']; rfl
      have eS : expandB (Int.toNat (if (4865 : Int) = 4866 then 48 else 32)) (extractB (Int.toNat (if (4865 : Int) = 4866 then 48 else 32)) (saltB true) cid) clL (Int.toNat (if (4865 : Int) = 4866 then 48 else 32)) = inB version cid true := by unfold inB firstB; rw [hv']; rfl
      walk_at "4"
      rename RC _ _ _ _ _ _ => r0
      rw [eR]
      refine' ctx_setup_ct (bb := 0) G (by walk_at "om") (O.deep (by decide)) r0 (hr.le ?lle) (.inl rfl) (inB_ok _ _ _) ?_
      case lle => walk_at "le"
      intro H1 h' n' tk' hn1 o1 hC1 r1
      clear r0
      have bn1 := r1.bnd
      have o1' : Only [rcd] H H1 := fun b z nb e => o1 b z nb (by have := bn0.lt e; walk_at "lk")
      have k1 := hr.kp o1'
      have pV1 := hp.keep o1' k1 (by simpa using hp.neV hr)
      have hS1 := hsd.only o1' k1 (by simpa using Ne.symm hne)
      refine' PairV.el pV1 ?_
      intro t1' pe1 pe2
      have hS1' := id hS1
      obtain ⟨ce1, ce2⟩ := hS1'
      have lb1 := r1.lt pe1
      have lb2 := r1.lt pe2
      have lb3 := r1.lt ce1
      have lb4 := r1.lt ce2
      walk_at "30"
      rename RC _ _ _ _ _ _ => r0
      refine' hkdf_ct (label := clL) G (by walk_at "om") (O.deep (by decide)) r0 ?g1 ?g2 ?g3 ?g4 trivial ?g7 ?_
      case g1 => rw [extractB_length (by decide)]; decide
      case g2 => decide
      case g3 => decide
      case g4 => decide
      case g7 => decide
      intro t h' n' tk' hn r1
      clear r0
      walk_at "4"
      rename RC _ _ _ _ _ _ => r0
      rw [eS]
      refine' ctx_setup_ct (bb := 0) G (by walk_at "om") (O.deep (by decide)) r0 (hS1.le ?lle) (.inl rfl) (inB_ok _ _ _) ?_
      case lle => walk_at "le"
      intro H2 h' n' tk' hn2 o2 hC2 r1
      clear r0
      have o2' : Only [scd] H1 H2 := fun b z nb e => o2 b z nb (by have := bn1.lt e; walk_at "lk")
      have k2 := hS1.kp o2'
      have pV2 := pV1.keep o2' k2 (by simpa using pV1.neV hS1)
      have hC1' := hC1.only o2' k2 (by simpa using hne)
      walk_at "1"
      rename RC _ _ _ _ _ _ => r0
      refine k _ _ _ _ (by walk_at "om") ?_ (k1.trans k2) pV2 hC1' hC2 r0.pop
      intro b z nb e
      simp only [List.mem_cons, List.not_mem_nil, or_false, not_or] at nb
      exact o2' b z (by simpa using nb.2) (o1' b z (by simpa using nb.1) e)
    · rename_i hv'
      have hv' : isV2 version = false := Bool.eq_false_iff.mpr hv'
      walk_at "14"
      rename RC _ _ _ _ _ _ => r0
      refine' suitehash_ct G (by walk_at "om") (O.deep (by decide)) r0 ?_
      intro t h' n' tk' hn r1
      clear r0
      walk_at "18"
      rename RC _ _ _ _ _ _ => r0
      refine' hkdf_extract_ct (salt := saltB false) G (by walk_at "om") (O.deep (by decide)) r0 (salt_len _) l1 ?h5 ?h7 ?_
      case h5 => decide
      case h7 => decide
      intro t h' n' tk' hn r1
      clear r0
      walk_at "31"
      rename RC _ _ _ _ _ _ => r0
      refine' hkdf_ct (label := svL) G (by walk_at "om") (O.deep (by decide)) r0 ?g1 ?g2 ?g3 ?g4 trivial ?g7 ?_
      case g1 => rw [extractB_length (by decide)]; decide
      case g2 => decide
      case g3 => decide
      case g4 => decide
      case g7 => decide
      intro t h' n' tk' hn r1
      clear r0
      have eR : expandB (Int.toNat (if (4865 : Int) = 4866 then 48 else 32)) (extractB (Int.toNat (if (4865 : Int) = 4866 then 48 else 32)) (saltB false) cid) svL (Int.toNat (if (4865 : Int) = 4866 then 48 else 32)) = inB version cid false := by unfold inB firstB; rw [hv']; rfl
      have eS : expandB (Int.toNat (if (4865 : Int) = 4866 then 48 else 32)) (extractB (Int.toNat (if (4865 : Int) = 4866 then 48 else 32)) (saltB false) cid) clL (Int.toNat (if (4865 : Int) = 4866 then 48 else 32)) = inB version cid true := by unfold inB firstB; rw [hv']; rfl
      walk_at "4"
      rename RC _ _ _ _ _ _ => r0
      rw [eR]
      refine' ctx_setup_ct (bb := 0) G (by walk_at "om") (O.deep (by decide)) r0 (hr.le ?lle) (.inl rfl) (inB_ok _ _ _) ?_
      case lle => walk_at "le"
      intro H1 h' n' tk' hn1 o1 hC1 r1
      clear r0
      have bn1 := r1.bnd
      have o1' : Only [rcd] H H1 := fun b z nb e => o1 b z nb (by have := bn0.lt e; walk_at "lk")
      have k1 := hr.kp o1'
      have pV1 := hp.keep o1' k1 (by simpa using hp.neV hr)
      have hS1 := hsd.only o1' k1 (by simpa using Ne.symm hne)
      refine' PairV.el pV1 ?_
      intro t1' pe1 pe2
      have hS1' := id hS1
      obtain ⟨ce1, ce2⟩ := hS1'
      have lb1 := r1.lt pe1
      have lb2 := r1.lt pe2
      have lb3 := r1.lt ce1
      have lb4 := r1.lt ce2
      walk_at "30"
      rename RC _ _ _ _ _ _ => r0
      refine' hkdf_ct (label := clL) G (by walk_at "om") (O.deep (by decide)) r0 ?g1 ?g2 ?g3 ?g4 trivial ?g7 ?_
      case g1 => rw [extractB_length (by decide)]; decide
      case g2 => decide
      case g3 => decide
      case g4 => decide
      case g7 => decide
      intro t h' n' tk' hn r1
      clear r0
      walk_at "4"
      rename RC _ _ _ _ _ _ => r0
      rw [eS]
      refine' ctx_setup_ct (bb := 0) G (by walk_at "om") (O.deep (by decide)) r0 (hS1.le ?lle) (.inl rfl) (inB_ok _ _ _) ?_
      case lle => walk_at "le"
      intro H2 h' n' tk' hn2 o2 hC2 r1
      clear r0
      have o2' : Only [scd] H1 H2 := fun b z nb e => o2 b z nb (by have := bn1.lt e; walk_at "lk")
      have k2 := hS1.kp o2'
      have pV2 := pV1.keep o2' k2 (by simpa using pV1.neV hS1)
      have hC1' := hC1.only o2' k2 (by simpa using hne)
      walk_at "1"
      rename RC _ _ _ _ _ _ => r0
      refine k _ _ _ _ (by walk_at "om") ?_ (k1.trans k2) pV2 hC1' hC2 r0.pop
      intro b z nb e
      simp only [List.mem_cons, List.not_mem_nil, or_false, not_or] at nb
      exact o2' b z (by simpa using nb.2) (o1' b z (by simpa using nb.1) e)
  | false =>
    walk_at "33"
    split
    · rename_i hv'
      have hv' : isV2 version = true := hv'
      walk_at "14"
      rename RC _ _ _ _ _ _ => r0
      refine' suitehash_ct G (by walk_at "om") (O.deep (by decide)) r0 ?_
      intro t h' n' tk' hn r1
      clear r0
      walk_at "18"
      rename RC _ _ _ _ _ _ => r0
      refine' hkdf_extract_ct (salt := saltB true) G (by walk_at "om") (O.deep (by decide)) r0 (salt_len _) l1 ?h5 ?h7 ?_
      case h5 => decide
      case h7 => decide
      intro t h' n' tk' hn r1
      clear r0
      walk_at "31"
      rename RC _ _ _ _ _ _ => r0
      refine' hkdf_ct (label := clL) G (by walk_at "om") (O.deep (by decide)) r0 ?g1 ?g2 ?g3 ?g4 trivial ?g7 ?_
      case g1 => rw [extractB_length (by decide)]; decide
      case g2 => decide
      case g3 => decide
      case g4 => decide
      case g7 => decide
      intro t h' n' tk' hn r1
      clear r0
      have eR : expandB (Int.toNat (if (4865 : Int) = 4866 then 48 else 32)) (extractB (Int.toNat (if (4865 : Int) = 4866 then 48 else 32)) (saltB true) cid) clL (Int.toNat (if (4865 : Int) = 4866 then 48 else 32)) = inB version cid true := by unfold inB firstB; rw [hv']; rfl
      have eS : expandB (Int.toNat (if (4865 : Int) = 4866 then 48 else 32)) (extractB (Int.toNat (if (4865 : Int) = 4866 then 48 else 32)) (saltB true) cid) svL (Int.toNat (if (4865 : Int) = 4866 then 48 else 32)) = inB version cid false := by unfold inB firstB; rw [hv']; rfl
      walk_at "4"
      rename RC _ _ _ _ _ _ => r0
      rw [eR]
      refine' ctx_setup_ct (bb := 0) G (by walk_at "om") (O.deep (by decide)) r0 (hr.le ?lle) (.inl rfl) (inB_ok _ _ _) ?_
      case lle => walk_at "le"
      intro H1 h' n' tk' hn1 o1 hC1 r1
      clear r0
      have bn1 := r1.bnd
      have o1' : Only [rcd] H H1 := fun b z nb e => o1 b z nb (by have := bn0.lt e; walk_at "lk")
      have k1 := hr.kp o1'
      have pV1 := hp.keep o1' k1 (by simpa using hp.neV hr)
      have hS1 := hsd.only o1' k1 (by simpa using Ne.symm hne)
      refine' PairV.el pV1 ?_
      intro t1' pe1 pe2
      have hS1' := id hS1
      obtain ⟨ce1, ce2⟩ := hS1'
      have lb1 := r1.lt pe1
      have lb2 := r1.lt pe2
      have lb3 := r1.lt ce1
      have lb4 := r1.lt ce2
      walk_at "30"
      rename RC _ _ _ _ _ _ => r0
      refine' hkdf_ct (label := svL) G (by walk_at "om") (O.deep (by decide)) r0 ?g1 ?g2 ?g3 ?g4 trivial ?g7 ?_
      case g1 => rw [extractB_length (by decide)]; decide
      case g2 => decide
      case g3 => decide
      case g4 => decide
      case g7 => decide
      intro t h' n' tk' hn r1
      clear r0
      walk_at "4"
      rename RC _ _ _ _ _ _ => r0
      rw [eS]
      refine' ctx_setup_ct (bb := 0) G (by walk_at "om") (O.deep (by decide)) r0 (hS1.le ?lle) (.inl rfl) (inB_ok _ _ _) ?_
      case lle => walk_at "le"
      intro H2 h' n' tk' hn2 o2 hC2 r1
      clear r0
      have o2' : Only [scd] H1 H2 := fun b z nb e => o2 b z nb (by have := bn1.lt e; walk_at "lk")
      have k2 := hS1.kp o2'
      have pV2 := pV1.keep o2' k2 (by simpa using pV1.neV hS1)
      have hC1' := hC1.only o2' k2 (by simpa using hne)
      walk_at "1"
      rename RC _ _ _ _ _ _ => r0
      refine k _ _ _ _ (by walk_at "om") ?_ (k1.trans k2) pV2 hC1' hC2 r0.pop
      intro b z nb e
      simp only [List.mem_cons, List.not_mem_nil, or_false, not_or] at nb
      exact o2' b z (by simpa using nb.2) (o1' b z (by simpa using nb.1) e)
    · rename_i hv'
      have hv' : isV2 version = false := Bool.eq_false_iff.mpr hv'
      walk_at "14"
      rename RC _ _ _ _ _ _ => r0
      refine' suitehash_ct G (by walk_at "om") (O.deep (by decide)) r0 ?_
      intro t h' n' tk' hn r1
      clear r0
      walk_at "18"
      rename RC _ _ _ _ _ _ => r0
      refine' hkdf_extract_ct (salt := saltB false) G (by walk_at "om") (O.deep (by decide)) r0 (salt_len _) l1 ?h5 ?h7 ?_
      case h5 => decide
      case h7 => decide
      intro t h' n' tk' hn r1
      clear r0
      walk_at "31"
      rename RC _ _ _ _ _ _ => r0
      refine' hkdf_ct (label := clL) G (by walk_at "om") (O.deep (by decide)) r0 ?g1 ?g2 ?g3 ?g4 trivial ?g7 ?_
      case g1 => rw [extractB_length (by decide)]; decide
      case g2 => decide
      case g3 => decide
      case g4 => decide
      case g7 => decide
      intro t h' n' tk' hn r1
      clear r0
      have eR : expandB (Int.toNat (if (4865 : Int) = 4866 then 48 else 32)) (extractB (Int.toNat (if (4865 : Int) = 4866 then 48 else 32)) (saltB false) cid) clL (Int.toNat (if (4865 : Int) = 4866 then 48 else 32)) = inB version cid true := by unfold inB firstB; rw [hv']; rfl
      have eS : expandB (Int.toNat (if (4865 : Int) = 4866 then 48 else 32)) (extractB (Int.toNat (if (4865 : Int) = 4866 then 48 else 32)) (saltB false) cid) svL (Int.toNat (if (4865 : Int) = 4866 then 48 else 32)) = inB version cid false := by unfold inB firstB; rw [hv']; rfl
      walk_at "4"
      rename RC _ _ _ _ _ _ => r0
      rw [eR]
      refine' ctx_setup_ct (bb := 0) G (by walk_at "om") (O.deep (by decide)) r0 (hr.le ?lle) (.inl rfl) (inB_ok _ _ _) ?_
      case lle => walk_at "le"
      intro H1 h' n' tk' hn1 o1 hC1 r1
      clear r0
      have bn1 := r1.bnd
      have o1' : Only [rcd] H H1 := fun b z nb e => o1 b z nb (by have := bn0.lt e; walk_at "lk")
      have k1 := hr.kp o1'
      have pV1 := hp.keep o1' k1 (by simpa using hp.neV hr)
      have hS1 := hsd.only o1' k1 (by simpa using Ne.symm hne)
      refine' PairV.el pV1 ?_
      intro t1' pe1 pe2
      have hS1' := id hS1
      obtain ⟨ce1, ce2⟩ := hS1'
      have lb1 := r1.lt pe1
      have lb2 := r1.lt pe2
      have lb3 := r1.lt ce1
      have lb4 := r1.lt ce2
      walk_at "30"
      rename RC _ _ _ _ _ _ => r0
      refine' hkdf_ct (label := svL) G (by walk_at "om") (O.deep (by decide)) r0 ?g1 ?g2 ?g3 ?g4 trivial ?g7 ?_
      case g1 => rw [extractB_length (by decide)]; decide
      case g2 => decide
      case g3 => decide
      case g4 => decide
      case g7 => decide
      intro t h' n' tk' hn r1
      clear r0
      walk_at "4"
      rename RC _ _ _ _ _ _ => r0
      rw [eS]
      refine' ctx_setup_ct (bb := 0) G (by walk_at "om") (O.deep (by decide)) r0 (hS1.le ?lle) (.inl rfl) (inB_ok _ _ _) ?_
      case lle => walk_at "le"
      intro H2 h' n' tk' hn2 o2 hC2 r1
      clear r0
      have o2' : Only [scd] H1 H2 := fun b z nb e => o2 b z nb (by have := bn1.lt e; walk_at "lk")
      have k2 := hS1.kp o2'
      have pV2 := pV1.keep o2' k2 (by simpa using pV1.neV hS1)
      have hC1' := hC1.only o2' k2 (by simpa using hne)
      walk_at "1"
      rename RC _ _ _ _ _ _ => r0
      refine k _ _ _ _ (by walk_at "om") ?_ (k1.trans k2) pV2 hC1' hC2 r0.pop
      intro b z nb e
      simp only [List.mem_cons, List.not_mem_nil, or_false, not_or] at nb
      exact o2' b z (by simpa using nb.2) (o1' b z (by simpa using nb.1) e)
end
section
variable {prog : Program} {w : World} {A : Around} {H0 h : Heap} {fs : List (Nat × Map)} {H : PH} {n : Nat} {L : Nat} {m : Map} {g : Array GenState} {d : Drawn} {tk : Nat} {os : OsState} {bb : Nat}
  {E : Value → Shared → Prop} {Q : Value → Shared → Prop}
theorem if_int {c : Prop} [Decidable c] {i j : Int} {k1 k2 : Nat} {p1 p2 : Pos} {env : Env} (q : ∀ t tk', Q (.int (if c then i else j) t) ⟨h, g, d, tk', os⟩) :
    if c then wpAny (model prog w) A (eval (.Constant (.int i) k1 p1) env) Q E ⟨h, g, d, tk, os⟩ else wpAny (model prog w) A (eval (.Constant (.int j) k2 p2) env) Q E ⟨h, g, d, tk, os⟩ := by
  by_cases z : c
  · simp only [if_pos z] at q ⊢; exact r_int q
  · simp only [if_neg z] at q ⊢; exact r_int q
theorem if_bytes {c : Prop} [Decidable c] {i j : List UInt8} {k1 k2 : Nat} {p1 p2 : Pos} {env : Env} (q : ∀ t tk', Q (.bytes (if c then i else j).toArray t) ⟨h, g, d, tk', os⟩) :
    if c then wpAny (model prog w) A (eval (.Constant (.bytes i) k1 p1) env) Q E ⟨h, g, d, tk, os⟩ else wpAny (model prog w) A (eval (.Constant (.bytes j) k2 p2) env) Q E ⟨h, g, d, tk, os⟩ := by
  by_cases z : c
  · simp only [if_pos z] at q ⊢; exact r_bytes q
  · simp only [if_neg z] at q ⊢; exact r_bytes q
noncomputable def wordB : Bool → List UInt8
  | true => [113, 117, 105, 99, 118, 50, 32]
  | false => [113, 117, 105, 99, 32]
theorem algI_if (suite : Int) : (if decide (suite = 4866) = true then 48 else 32 : Int) = algI suite := by unfold algI; simp only [decide_eq_true_eq]
theorem key_if {suite : Int} (h : Suite suite) : (if decide (suite = 4865) = true then 16 else 32 : Int) = keySize suite := by rcases h with rfl | rfl | rfl <;> decide
theorem word_if (version : Int) : (if decide (version = 1798521807) = true then [113, 117, 105, 99, 118, 50, 32] else [113, 117, 105, 99, 32] : List UInt8) = wordB (isV2 version) := by
  unfold isV2
  cases decide (version = 1798521807) <;> rfl
theorem word_key (b : Bool) : wordB b ++ [107, 101, 121] = keyL b := by cases b <;> rfl
theorem word_iv (b : Bool) : wordB b ++ [105, 118] = ivL b := by cases b <;> rfl
theorem word_hp (b : Bool) : wordB b ++ [104, 112] = hpL b := by cases b <;> rfl
theorem word_len (b : Bool) : (wordB b).length ≤ 10 := by cases b <;> decide
theorem r_names {md a1 a2 a3 : Nat} {suite : Int} {u1 u2 u3 u4 u5 u6 u : Tok} {value slice : Expr} (hs : Suite suite) (R : RC w.params H0 fs H n h)
    (e : H md = some (ID prog w [((4865 : Int), .ref a1), (4866, .ref a2), (4867, .ref a3)]))
    (e1 : H a1 = some (.tup [.bytes (List.toArray [97, 101, 115, 45, 49, 50, 56, 45, 103, 99, 109]) u1, .bytes (List.toArray [97, 101, 115, 45, 49, 50, 56, 45, 101, 99, 98]) u2]))
    (e2 : H a2 = some (.tup [.bytes (List.toArray [97, 101, 115, 45, 50, 53, 54, 45, 103, 99, 109]) u3, .bytes (List.toArray [97, 101, 115, 45, 50, 53, 54, 45, 101, 99, 98]) u4]))
    (e3 : H a3 = some (.tup [.bytes (List.toArray [99, 104, 97, 99, 104, 97, 50, 48, 45, 112, 111, 108, 121, 49, 51, 48, 53]) u5, .bytes (List.toArray [99, 104, 97, 99, 104, 97, 50, 48]) u6]))
    (q : ∀ tp v1 v2 tk', H tp = some (.tup [.bytes (aname suite).toArray v1, .bytes (hname suite).toArray v2]) → Q (.ref tp) ⟨h, g, d, tk', os⟩)
    (hsub : subscripted slice false (.ref md) (.int suite u) = operate [.ref md, .int suite u] (getItem (.ref md) (.int suite u)) := by with_unfolding_all rfl) :
    wpAny (model prog w) A (subscriptTail value slice (.ref md) (.int suite u)) Q E ⟨h, g, d, tk, os⟩ := by
  rcases hs with rfl | rfl | rfl
  · exact r_item_id R e rfl (fun tk' => q _ _ _ tk' e1) hsub
  · exact r_item_id R e rfl (fun tk' => q _ _ _ tk' e2) hsub
  · exact r_item_id R e rfl (fun tk' => q _ _ _ tk' e3) hsub
theorem due_name {X : Prop} {L rl tp n' : Nat} {fs' : List (Nat × Map)} {H' : PH} {h' : Heap} {vs ws : List Value} {v1 v2 v3 v4 v5 : Option Value} (R : RC w.params H0 fs' H' n' h')
    (f1 : H' (L + 1) = some (CE v1)) (f2 : H' (L + 2) = some (CE v2)) (f3 : H' (L + 3) = some (CE v3)) (f4 : H' (L + 4) = some (CE v4)) (f5 : H' (L + 5) = some (CE v5)) (f6 : H' rl = some (.lst vs)) (f7 : H' tp = some (.tup ws)) (f8 : H.le H') (f9 : L + 6 ≤ n')
    (k : ∀ H' n', H' (L + 1) = some (CE v1) → H' (L + 2) = some (CE v2) → H' (L + 3) = some (CE v3) → H' (L + 4) = some (CE v4) → H' (L + 5) = some (CE v5) → H' rl = some (.lst vs) → H' tp = some (.tup ws) → H.le H' → L + 6 ≤ n' → RC w.params H0 fs' H' n' h' → X) : X := k _ _ f1 f2 f3 f4 f5 f6 f7 f8 f9 R
theorem r_fdivP {a j : Nat} {t u : Tok} (hj : j ≤ 12) (q : ∀ t' tk', Q (.int ((a / 256 ^ j : Nat) : Int) t') ⟨h, g, d, tk', os⟩) :
    wpAny (model prog w) A (binaryOp .FloorDiv (.int (a : Nat) t) (.int ((256 : Int) ^ j) u)) Q E ⟨h, g, d, tk, os⟩ := by
  rw [castPow]
  have h1 : (256 : Nat) ^ j ≤ 256 ^ 12 := Nat.pow_le_pow_right (by decide) hj
  have h2 : 0 < (256 : Nat) ^ j := Nat.pow_pos (by decide)
  refine PyProof.Rows.floordiv_int (by have := h2; omega) ?_ (.inl (PyProof.noPylong_of_log2 ?_))
  · have e : ((a : Nat) : Int).fdiv ((256 ^ j : Nat) : Int) = ((a / 256 ^ j : Nat) : Int) := by rw [Int.fdiv_eq_ediv_of_nonneg _ (Int.natCast_nonneg _), Int.natCast_ediv]
    rw [e]; exact q _ _
  · rw [Int.natAbs_natCast]
    have : (256 ^ j).log2 < 97 := (Nat.log2_lt (by omega)).mpr (Nat.lt_of_le_of_lt h1 (by decide))
    omega
theorem fm4 (x : Nat) : ((x : Nat) : Int).fmod 4 = ((x % 4 : Nat) : Int) := fmodC x 4
theorem fm256 (x : Nat) : ((x : Nat) : Int).fmod 256 = ((x % 256 : Nat) : Int) := fmodC x 256
noncomputable def dnF (iv : List UInt8) (number : Nat) (i : Nat) : Int := (((iv.getD i 0).toNat ^^^ (number / 256 ^ (11 - i) % 256) : Nat) : Int)
theorem dnF_eq (iv : List UInt8) (number i : Nat) (hi : i < 12) : Builtin.bitXor (((iv.getD ((i : Nat) : Int).toNat 0).toNat : Nat) : Int) (((number / 256 ^ (11 - ((i : Nat) : Int)).toNat : Nat) : Int).fmod 256) = dnF iv number i := by
  unfold dnF
  rw [fm256, bitXor_nat, Int.toNat_natCast, show (11 - ((i : Nat) : Int)).toNat = 11 - i by omega]
noncomputable def dueNonce (iv : List UInt8) (number : Nat) : List UInt8 := ((List.range 12).map (dnF iv number)).map fun k => k.toNat.toUInt8
theorem dn_list (iv : List UInt8) (number : Nat) : (((List.range 12).map (dnF iv number)).map fun k => k.toNat.toUInt8) = dueNonce iv number := rfl
theorem dueNonce_length (iv : List UInt8) (number : Nat) : (dueNonce iv number).length = 12 := by unfold dueNonce; rw [List.length_map, List.length_map, List.length_range]
theorem dn_in (iv : List UInt8) (number N : Nat) : ∀ k ∈ (List.range N).map (dnF iv number), 0 ≤ k ∧ k < 256 := by
  intro z hz
  obtain ⟨i, _, rfl⟩ := List.mem_map.mp hz
  unfold dnF
  have h1 := (iv.getD i 0).toNat_lt
  have h2 : number / 256 ^ (11 - i) % 256 < 256 := Nat.mod_lt _ (by decide)
  have h3 := Nat.xor_lt_two_pow (n := 8) h1 h2
  omega
theorem u8_and15 (x : UInt8) : (x &&& 15).toNat = x.toNat % 16 := by
  rw [UInt8.toNat_and]; exact Nat.and_two_pow_sub_one_eq_mod x.toNat 4
theorem u8_and31 (x : UInt8) : (x &&& 31).toNat = x.toNat % 32 := by
  rw [UInt8.toNat_and]; exact Nat.and_two_pow_sub_one_eq_mod x.toNat 5
noncomputable def m16 (x : UInt8) : Nat := if 128 ≤ x.toNat then 16 else 32
theorem m16_eq (x : UInt8) : (if decide (((x.toNat : Nat) : Int) ≥ 128) = true then 16 else 32 : Int) = ((m16 x : Nat) : Int) := by
  unfold m16
  by_cases q : 128 ≤ x.toNat
  · rw [if_pos q, if_pos (decide_eq_true (by omega))]; rfl
  · rw [if_neg q, if_neg (by simp; omega)]; rfl
theorem m16_pos (x : UInt8) : (0 : Int) < ((m16 x : Nat) : Int) := by unfold m16; split <;> decide
noncomputable def dueFirst (header M : List UInt8) : UInt8 := header.getD 0 0 ^^^ (M.getD 0 0 &&& (if 128 ≤ (header.getD 0 0).toNat then 15 else 31))
theorem dueFirst_eq (header M : List UInt8) : Builtin.bitXor (((header.getD 0 0).toNat : Nat) : Int) ((((M.getD 0 0).toNat : Nat) : Int).fmod ((m16 (header.getD 0 0) : Nat) : Int)) = (((dueFirst header M).toNat : Nat) : Int) := by
  rw [fmodC, bitXor_nat]
  unfold dueFirst m16
  rw [UInt8.toNat_xor]
  split
  · rw [u8_and15]
  · rw [u8_and31]
noncomputable def dueF (header M : List UInt8) (pl i : Nat) : Int := (((header.getD (pl + i) 0 ^^^ M.getD (1 + i) 0).toNat : Nat) : Int)
theorem dueF_eq (header M : List UInt8) (pl i : Nat) : (((header.getD (((pl : Nat) : Int) + ((i : Nat) : Int)).toNat 0 ^^^ M.getD ((1 : Int) + ((i : Nat) : Int)).toNat 0).toNat : Nat) : Int) = dueF header M pl i := by
  unfold dueF
  rw [show (((pl : Nat) : Int) + ((i : Nat) : Int)).toNat = pl + i by omega, show ((1 : Int) + ((i : Nat) : Int)).toNat = 1 + i by omega]
theorem dueF_in (header M : List UInt8) (pl N : Nat) : ∀ k ∈ (List.range N).map (dueF header M pl), 0 ≤ k ∧ k < 256 := by
  intro z hz
  obtain ⟨i, _, rfl⟩ := List.mem_map.mp hz
  unfold dueF
  have h1 := (header.getD (pl + i) 0 ^^^ M.getD (1 + i) 0).toNat_lt
  omega
noncomputable def dueTurned (header M : List UInt8) (pl N : Nat) : List UInt8 := ((List.range N).map (dueF header M pl)).map fun k => k.toNat.toUInt8
theorem dueF_list (header M : List UInt8) (pl N : Nat) : (((List.range N).map (dueF header M pl)).map fun k => k.toNat.toUInt8) = dueTurned header M pl N := rfl
theorem dueTurned_length (header M : List UInt8) (pl N : Nat) : (dueTurned header M pl N).length = N := by unfold dueTurned; rw [List.length_map, List.length_map, List.length_range]
noncomputable def dueOut (header M : List UInt8) (pl NN : Nat) (S : List UInt8) : List UInt8 := [dueFirst header M] ++ (header.take pl).drop 1 ++ dueTurned header M pl NN ++ S
noncomputable def dueAt (suite version : Int) (secF header S : List UInt8) (pl NN : Nat) : List UInt8 := dueOut header (maskB (hname suite) (hpB suite version secF) (((header ++ S).take (pl + 20)).drop (pl + 4))) pl NN S
noncomputable def dueB (suite version : Int) (secF secL header text : List UInt8) (number : Nat) : List UInt8 :=
  dueAt suite version secF header (sealB (aname suite) (keyB suite version secL) (dueNonce (ivB suite version secL) number) text header) (header.length - ((header.getD 0 0).toNat % 4 + 1)) ((header.getD 0 0).toNat % 4 + 1)
abbrev DuL (L : Nat) : List (Str × Addr) := [("mask", L + 5), ("place", L + 4), ("iv", L + 3), ("number", L + 2), ("header", L + 1)]
theorem szA {pl hl : Nat} (h : hl < 256) : 0 + 1 + (min ((pl : Nat) : Int).toNat hl - Int.toNat 1) ≤ 257 := by omega
theorem szS {s t : Nat} (h : s = t + 16) (ht : t < 256) : s ≤ 271 := by omega
theorem due_ct {suite version : Int} {rl number : Nat} {secF secL header text : List UInt8} {vs : List Value} {t1 t2 t3 t4 t5 t6 t7 : Tok}
    (G : Gd (KK w.params) H0) (hz : H0.objs.size ≤ n) (O : Ok A 3) (R : RC w.params H0 fs H n h) (hs : Suite suite)
    (e : H rl = some (.lst vs)) (e0 : vs[0]? = some (.bytes secF.toArray t1)) (eL : vs[vs.length - 1]? = some (.bytes secL.toArray t2)) (hvs : vs.length < 1000)
    (l1 : secF.length ≤ 100) (l2 : secL.length ≤ 100) (l3 : 0 < header.length) (l4 : header.length < 256) (l5 : text.length < 256) (l6 : (header.getD 0 0).toNat % 4 + 1 ≤ header.length) (l7 : number < 2 ^ 62)
    (k : ∀ t h' n' tk', n ≤ n' → RC w.params H0 fs H n' h' → Q (.bytes (dueB suite version secF secL header text number).toArray t) ⟨h', g, d, tk', os⟩) :
    wpAny (model prog w) A (call (.ref 429) [.int version t3, .int suite t4, .ref rl, .bytes header.toArray t5, .bytes text.toArray t6, .int (number : Nat) t7]) Q E ⟨h, g, d, tk, os⟩ := by
  have bn0 := R.bnd
  have lrl := R.lt e
  have hlen : 0 < vs.length := by
    rcases Nat.eq_zero_or_pos vs.length with q | q
    · rw [List.length_eq_zero_iff.mp q] at e0; exact nomatch e0
    · exact q
  refine' r_defC (binds := [("version", .int version t3), ("suite", .int suite t4), ("secrets", .ref rl), ("header", .bytes header.toArray t5), ("text", .bytes text.toArray t6), ("number", .int (number : Nat) t7)]) R G hz O.room ?ho ?hcd ?hbind ?hkind DuL ?hcl ?_ ?hco ?hgen ?hk
  case ho => k_is
  case hcd => k_is
  case hbind => exact BindsTo.of_eq rfl
  case hkind => intro kk; exact ⟨.inl rfl, .inl rfl, .inl rfl, .inr ⟨rfl, rfl⟩, .inl rfl, .inr ⟨rfl, rfl⟩, trivial⟩
  case hcl => intro _; exact rfl
  case hco => exact rfl
  case hgen => exact rfl
  case hk => exact rfl
  intro L' h₁ tk₁ hl hcells R'
  obtain ⟨c1, g1, d1⟩ := hcells "header" (L' + 1) rfl
  obtain ⟨c2, g2, d2⟩ := hcells "number" (L' + 2) rfl
  obtain ⟨c3, g3, d3⟩ := hcells "iv" (L' + 3) rfl
  obtain ⟨c4, g4, d4⟩ := hcells "place" (L' + 4) rfl
  obtain ⟨c5, g5, d5⟩ := hcells "mask" (L' + 5) rfl
  have hzL : H0.objs.size ≤ L' + 1 := by walk_at "om"
  have R1 := R'.know (a := L' + 1) (y := CE (some (.bytes header.toArray t5))) (by walk_at "om") hzL g1 d1
  have R2 := R1.know (a := L' + 2) (y := CE (some (.int (number : Nat) t7))) (by walk_at "om") (by walk_at "om") g2 d2
  have R3 := R2.know (a := L' + 3) (y := CE none) (by walk_at "om") (by walk_at "om") g3 d3
  have R4 := R3.know (a := L' + 4) (y := CE none) (by walk_at "om") (by walk_at "om") g4 d4
  have R5 := R4.know (a := L' + 5) (y := CE none) (by walk_at "om") (by walk_at "om") g5 d5
  clear R' R1 R2 R3 R4 hcells
  walk_at "10"
  refine if_int ?_
  intro u8 tk8
  rw [algI_if]
  walk_at "11"
  refine if_int ?_
  intro u9 tk9
  rw [key_if hs]
  walk_at "9"
  refine if_bytes ?_
  intro u10 tk10
  rw [word_if]
  walk_at "s"
  walk_at "s"
  walk_at "s"
  walk_at "s"
  try dsimp only
  rename RC _ _ _ _ _ _ => r0
  have hz2 : H0.objs.size ≤ L' + 5 + 1 := by walk_at "om"
  with_reducible refine' r_dictI r0 hz2 ?_ ?hall ?hl ?h0 ?hlen
  case hall => exact rfl
  case hl => exact rfl
  case h0 => exact List.cons_ne_nil _ _
  case hlen => exact (Nat.le_of_ble_eq_true rfl)
  intro md h' hmd r1
  clear r0
  with_reducible refine' pairTrees_cons_walk ?_
  walk_at "33"
  rename RC _ _ _ _ _ _ => r0
  refine' r_dictI_done r0 ?e ?hk ?hn ?_
  case e => walk_at "lk"
  case hk => exact rfl
  case hn =>
    show List.Nodup [(4865 : Int), 4866, 4867]
    decide
  intro h' tk' r1
  clear r0
  walk_at "1"
  rename RC _ _ _ _ _ _ => r0
  refine' r_names hs r0 ?e ?e1 ?e2 ?e3 ?_ (by with_unfolding_all exact rfl)
  case e => exact PH.set_self _ _ _
  case e1 => walk_at "lk"
  case e2 => walk_at "lk"
  case e3 => walk_at "lk"
  intro tp v1 v2 tk' etp
  have lrl2 : rl < L' := Nat.lt_of_lt_of_le lrl hl
  rename RC _ _ _ _ _ _ => r0
  refine' due_name (L := L') (rl := rl) (tp := tp) r0 ?f1 ?f2 ?f3 ?f4 ?f5 ?f6 etp ?f8 ?f9 ?_
  case f1 => walk_at "lk"
  case f2 => walk_at "lk"
  case f3 => walk_at "lk"
  case f4 => walk_at "lk"
  case f5 => walk_at "lk"
  case f6 => walk_at "lk"
  case f8 => walk_at "le"
  case f9 => walk_at "om"
  intro H2 n2 f1 f2 f3 f4 f5 f6 f7 f8 f9 r1
  clear r0 etp
  have ltp := r1.lt f7
  have ne3 : NE tp (L' + 3) := ne_of f7 f3 (fun q => nomatch (show AO.tup _ = AO.prp _ from q))
  have ne4 : NE tp (L' + 4) := ne_of f7 f4 (fun q => nomatch (show AO.tup _ = AO.prp _ from q))
  have ne5 : NE tp (L' + 5) := ne_of f7 f5 (fun q => nomatch (show AO.tup _ = AO.prp _ from q))
  have hw := word_len (isV2 version)
  have hks := keySize_in suite
  have hal := algI_in suite
  walk_at "14"
  have eL' : vs[(((-1 : Int)) + (vs.length : Int)).toNat]? = some (.bytes secL.toArray t2) := by
    rw [show (((-1 : Int)) + (vs.length : Int)).toNat = vs.length - 1 by walk_at "om"]; exact eL
  rename RC _ _ _ _ _ _ => r0
  refine' r_item_neg r0 ?e6 (by decide) (by walk_at "om") (by walk_at "om") eL' ?_ (by with_unfolding_all exact rfl)
  case e6 => walk_at "lk"
  walk_at "11"
  rename RC _ _ _ _ _ _ => r0
  refine' expand_ct (size := algI suite) (length := keySize suite) (label := wordB (isV2 version) ++ [107, 101, 121]) G (by walk_at "om") (O.deep (by decide)) r0 l2 (by rw [word_key]; cases isV2 version <;> decide) (by walk_at "om") (by walk_at "om") trivial (by walk_at "om") ?_
  have eK : expandB (algI suite).toNat secL (wordB (isV2 version) ++ [107, 101, 121]) (Int.toNat (keySize suite)) = keyB suite version secL := by rw [word_key]; rfl
  rw [eK]
  clear eK
  intro uK h' nK tk' hnK r1
  clear r0
  walk_at "14"
  rename RC _ _ _ _ _ _ => r0
  refine' r_item_neg r0 ?e6 (by decide) (by walk_at "om") (by walk_at "om") eL' ?_ (by with_unfolding_all exact rfl)
  case e6 => walk_at "lk"
  walk_at "11"
  rename RC _ _ _ _ _ _ => r0
  refine' expand_ct (size := algI suite) (length := 12) (label := wordB (isV2 version) ++ [105, 118]) G (by walk_at "om") (O.deep (by decide)) r0 l2 (by rw [word_iv]; cases isV2 version <;> decide) (by walk_at "om") (by walk_at "om") trivial (by walk_at "om") ?_
  have eK : expandB (algI suite).toNat secL (wordB (isV2 version) ++ [105, 118]) (Int.toNat (12)) = ivB suite version secL := by rw [word_iv]; rfl
  rw [eK]
  clear eK
  intro uK h' nK tk' hnK r1
  clear r0
  walk_at "7"
  have liv : (ivB suite version secL).length = 12 := ivB_length (b := 0) l2
  refine' r_comp (cl := [("number", L' + 2), ("iv", L' + 3)]) ?hc ?hk ?hn ?_
  case hc => exact rfl
  case hk => exact rfl
  case hn => decide
  walk_at "8"
  rename RC _ _ _ _ _ _ => r0
  refine' komp_range (N := 12) (F := dnF (ivB suite version secL) number) r0 ?hz2 ?hh ?e ?hrel ?hcell ?hkind ?hx ?turn ?hN ?fin
  case hz2 => walk_at "om"
  case hh => exact O.hd
  case e => exact PH.set_self _ _ _
  case hrel => exact rfl
  case hcell => decide
  case hkind => exact rfl
  case hx => exact rfl
  case hN => decide
  case turn =>
    intro C i H' mm n' h' tk' t hi hC hn' oo r1
    clear r0
    have q2 := oo (L' + 2) _ (by walk_at "nin") (by walk_at "lk")
    have q3 := oo (L' + 3) _ (by walk_at "nin") (by walk_at "lk")
    walk_at "15"
    refine' r_fdivP (j := (11 - (i : Int)).toNat) (by walk_at "om") ?_
    intro u13 tk13
    walk_at "3"
    rename RC _ _ _ _ _ _ => r0
    refine ⟨_, _, _, _, congrArg (fun z => Value.int z _) (dnF_eq _ _ _ hi), rfl, ?_, r0⟩
    walk_at "om"
  case fin =>
    intro D ws H3 n3 h' tk' hD hn3 hints oo hDv r1
    clear r0
    have q1 := oo (L' + 1) _ (by walk_at "nin") (by walk_at "lk")
    have q4 := oo (L' + 4) _ (by walk_at "nin") (by walk_at "lk")
    have q5 := oo (L' + 5) _ (by walk_at "nin") (by walk_at "lk")
    have q6 := oo rl _ (by walk_at "nin") (by walk_at "lk")
    have q7 := oo tp _ (by walk_at "nin") (by walk_at "lk")
    have oH := fun (a : Nat) (x : AO) (q : H a = some x) => oo a x (by have := bn0.lt q; walk_at "nin") (by have := f8 a x q; have := bn0.lt q; walk_at "lk")
    clear oo f1 f2 f3 f4 f5 f6 f7 eL
    walk_at "s"
    rename RC _ _ _ _ _ _ => r0
    refine' r_bytes_ints r0 O.hd hDv hints (dn_in _ _ _) ?hs ?_
    case hs => rw [List.length_map, List.length_range]; decide
    rw [dn_list]
    have ldn := dueNonce_length (ivB suite version secL) number
    intro h' t14 tk' r1
    clear r0
    walk_at "21"
    rename RC _ _ _ _ _ _ => r0
    have lky := keyB_length (b := 0) (suite := suite) (version := version) l2
    refine' seal_ct G (by walk_at "om") (O.deep (by decide)) r0 hs.anl (by walk_at "om") (by walk_at "om") (by walk_at "om") l4 ?_
    have lS := sealB_length (aname suite) (keyB suite version secL) (dueNonce (ivB suite version secL) number) text header
    generalize hS : sealB (aname suite) (keyB suite version secL) (dueNonce (ivB suite version secL) number) text header = S at lS ⊢
    intro t15 h' n4 tk' hn4 r1
    clear r0
    have e0' : vs[Int.toNat 0]? = some (.bytes secF.toArray t1) := e0
    walk_at "62"
    rename RC _ _ _ _ _ _ => r0
    have ePl : ((header.length : Nat) : Int) - (((header.getD (Int.toNat 0) 0).toNat : Nat) : Int).fmod 4 - 1 = ((header.length - ((header.getD 0 0).toNat % 4 + 1) : Nat) : Int) := by
      rw [fm4]
      show ((header.length : Nat) : Int) - (((header.getD 0 0).toNat % 4 : Nat) : Int) - 1 = _
      omega
    rw [ePl] at r0
    clear ePl
    have hpl : (header.length - ((header.getD 0 0).toNat % 4 + 1)) + ((header.getD 0 0).toNat % 4 + 1) = header.length := by omega
    generalize hPL : header.length - ((header.getD 0 0).toNat % 4 + 1) = pl at r0 hpl ⊢
    refine' expand_ct (size := algI suite) (length := keySize suite) (label := wordB (isV2 version) ++ [104, 112]) G (by walk_at "om") (O.deep (by decide)) r0 l1 (by rw [word_hp]; cases isV2 version <;> decide) (by walk_at "om") (by walk_at "om") trivial (by walk_at "om") ?_
    have eK : expandB (algI suite).toNat secF (wordB (isV2 version) ++ [104, 112]) (Int.toNat (keySize suite)) = hpB suite version secF := by rw [word_hp]; rfl
    rw [eK]
    clear eK
    intro t16 h' n5 tk' hn5 r1
    clear r0
    have lhp := hpB_length (b := 0) (suite := suite) (version := version) (secret := secF) l1
    walk_at "18"
    rename RC _ _ _ _ _ _ => r0
    have eSm : ((header ++ S).take (((pl : Nat) : Int) + 20).toNat).drop (((pl : Nat) : Int) + 4).toNat = ((header ++ S).take (pl + 20)).drop (pl + 4) := by
      rw [show (((pl : Nat) : Int) + 20).toNat = pl + 20 by omega, show (((pl : Nat) : Int) + 4).toNat = pl + 4 by omega]
    rw [eSm]
    clear eSm
    have lsm : (((header ++ S).take (pl + 20)).drop (pl + 4)).length < 256 := by
      rw [List.length_drop, List.length_take]; omega
    refine' mask_ct G (by walk_at "om") (O.deep (by decide)) r0 hs.hnl (by walk_at "om") (by walk_at "om") lsm ?_
    have lM := maskB_length (hname suite) (hpB suite version secF) (((header ++ S).take (pl + 20)).drop (pl + 4))
    generalize hMM : maskB (hname suite) (hpB suite version secF) (((header ++ S).take (pl + 20)).drop (pl + 4)) = M5 at lM ⊢
    clear lsm
    intro t17 h' n6 tk' hn6 r1
    clear r0
    walk_at "22"
    refine if_int ?_
    intro u18 tk18
    rw [m16_eq]
    have hmp := m16_pos (header.getD 0 0)
    walk_at "9"
    rename RC _ _ _ _ _ _ => r0
    have eF : Builtin.bitXor (((header.getD (Int.toNat 0) 0).toNat : Nat) : Int) ((((M5.getD (Int.toNat 0) 0).toNat : Nat) : Int).fmod ((m16 (header.getD (Int.toNat 0) 0) : Nat) : Int)) = (((dueFirst header M5).toNat : Nat) : Int) := dueFirst_eq header M5
    rw [eF] at r0
    clear eF
    have e2 : m16 (header.getD 0 0) = m16 (header.getD 0 0) := rfl
    clear e2 q5 q4 q7 ne3 ne4 ne5
    have hne : header.length - pl = (header.getD 0 0).toNat % 4 + 1 := by omega
    have hN4 : (header.getD 0 0).toNat % 4 + 1 ≤ 4 := by omega
    generalize hNN : (header.getD 0 0).toNat % 4 + 1 = NN at hne hN4 hpl
    refine' r_comp (cl := [("place", L' + 4), ("mask", L' + 5), ("header", L' + 1)]) ?hc ?hk ?hn ?_
    case hc => exact rfl
    case hk => exact rfl
    case hn => decide
    walk_at "17"
    rename RC _ _ _ _ _ _ => r0
    refine' komp_range (N := NN) (F := dueF header M5 pl) r0 ?hz2 ?hh ?e ?hrel ?hcell ?hkind ?hx ?turn ?hN ?fin
    case hz2 => walk_at "om"
    case hh => exact O.hd
    case e =>
      rw [PH.set_self]
      have eN : ((header.length : Nat) : Int) - ((pl : Nat) : Int) = ((NN : Nat) : Int) := by omega
      rw [eN]
    case hrel => exact rfl
    case hcell => decide
    case hkind => exact rfl
    case hx => exact rfl
    case hN => omega
    case turn =>
      intro C i H' mm n' h' tk' t hi hC hn' oo r1
      clear r0
      have p1 := oo (L' + 1) _ (by walk_at "nin") (by walk_at "lk")
      have p4 := oo (L' + 4) _ (by walk_at "nin") (by walk_at "lk")
      have p5 := oo (L' + 5) _ (by walk_at "nin") (by walk_at "lk")
      clear oo
      have b1 : ((pl : Nat) : Int) + ((i : Nat) : Int) < header.length := by omega
      have b2 : (1 : Int) + ((i : Nat) : Int) < M5.length := by omega
      walk_at "16"
      rename RC _ _ _ _ _ _ => r0
      refine ⟨_, _, _, _, congrArg (fun z => Value.int z _) (dueF_eq header M5 pl i), rfl, ?_, r0⟩
      walk_at "om"
    case fin =>
      intro D2 ws2 H4 n7 h' tk' hD2 hn7 hints2 oo hDv2 r1
      clear r0
      have p1 := oo (L' + 1) _ (by walk_at "nin") (by walk_at "lk")
      have p4 := oo (L' + 4) _ (by walk_at "nin") (by walk_at "lk")
      have oH4 := fun (a : Nat) (x : AO) (q : H a = some x) => oo a x (by have := bn0.lt q; walk_at "nin") (by have := oH a x q; have := bn0.lt q; walk_at "lk")
      clear oo
      have ufl := (dueFirst header M5).toNat_lt
      walk_at "s"
      rename RC _ _ _ _ _ _ => r0
      refine' r_bytes_ints r0 O.hd hDv2 hints2 (dueF_in _ _ _ _) ?hs ?_
      case hs => rw [List.length_map, List.length_range]; omega
      rw [dueF_list]
      have ldt := dueTurned_length header M5 pl NN
      have z1 := szA (pl := pl) l4
      have z2 := Nat.add_le_add z1 (Nat.le_trans (Nat.le_of_eq ldt) hN4)
      have z3 := Nat.add_le_add z2 (szS lS l5)
      replace z1 := Nat.le_trans z1 (show 257 ≤ 16777216 by decide)
      replace z2 := Nat.le_trans z2 (show 257 + 4 ≤ 16777216 by decide)
      replace z3 := Nat.le_trans z3 (show 257 + 4 + 271 ≤ 16777216 by decide)
      intro h' t19 tk' r1
      clear r0
      walk_at "31"
      rename RC _ _ _ _ _ _ => r0
      refine Qb ?_ (k _ _ _ _ (by walk_at "om") (r0.pop.weak ?wk))
      case wk => intro a x q; exact PH.set_at (by have := bn0.lt q; walk_at "om") (oH4 a x q)
      unfold dueB
      rw [hS, hPL, hNN]
      unfold dueAt
      rw [hMM]
      simp only [List.map_cons, List.map_nil, u8nat]
      simp only [Int.toNat_natCast]
      rfl
end
namespace Pl
theorem u8_128 (f m : UInt8) (h : m.toNat < 128) : (128 ≤ (f ^^^ m).toNat) ↔ (128 ≤ f.toNat) := by
  have t : ∀ n : Nat, n < 256 → (128 ≤ n ↔ n.testBit 7 = true) := by
    intro n hn
    rw [Nat.testBit_eq_decide_div_mod_eq, decide_eq_true_iff]
    walk_at "om"
  rw [t _ (UInt8.toNat_lt _), t _ (UInt8.toNat_lt _), UInt8.toNat_xor, Nat.testBit_xor]
  have : m.toNat.testBit 7 = false := Nat.testBit_lt_two_pow h
  rw [this, Bool.xor_false]
noncomputable def mk (M : List UInt8) (f : UInt8) : UInt8 := f ^^^ (M.getD 0 0 &&& (if 128 ≤ f.toNat then 15 else 31))
theorem and_lt (a b : UInt8) (h : b.toNat < 128) : (a &&& b).toNat < 128 := by
  rw [UInt8.toNat_and]; exact Nat.lt_of_le_of_lt Nat.and_le_right h
theorem mk_128 (M : List UInt8) (f : UInt8) : (128 ≤ (mk M f).toNat) ↔ (128 ≤ f.toNat) := by
  unfold mk
  refine u8_128 _ _ (and_lt _ _ ?_)
  split <;> decide
theorem mk_mk (M : List UInt8) (f : UInt8) : mk M (mk M f) = f := by
  have h := mk_128 M f
  by_cases c : 128 ≤ f.toNat
  · have c' := h.mpr c
    unfold mk at c' ⊢
    rw [if_pos c] at c' ⊢
    rw [if_pos c', UInt8.xor_assoc, UInt8.xor_self, UInt8.xor_zero]
  · have c' : ¬ 128 ≤ (mk M f).toNat := fun q => c (h.mp q)
    unfold mk at c' ⊢
    rw [if_neg c] at c' ⊢
    rw [if_neg c', UInt8.xor_assoc, UInt8.xor_self, UInt8.xor_zero]
theorem xx (a b : UInt8) : a ^^^ b ^^^ b = a := by rw [UInt8.xor_assoc, UInt8.xor_self, UInt8.xor_zero]
theorem getD_eq (l : List UInt8) (j : Nat) (h : j < l.length) : l[j]? = some (l.getD j 0) := by
  rw [List.getElem?_eq_getElem h, List.getD_eq_getElem?_getD, List.getElem?_eq_getElem h]; rfl
theorem maskFirst_get (b M : List UInt8) (j : Nat) (hb : 0 < b.length) : (maskFirst b M)[j]? = if j = 0 then some (mk M (b.getD 0 0)) else b[j]? := by
  unfold maskFirst mk
  rw [List.getElem?_set]
  by_cases q : j = 0
  · subst q; simp [hb]
  · rw [if_neg (Ne.symm q), if_neg q]
theorem maskRun_get (b : List UInt8) (off : Nat) (M : List UInt8) : ∀ (k j : Nat), off + k ≤ b.length → (maskRun b off M k)[j]? = if off ≤ j ∧ j < off + k then some (b.getD j 0 ^^^ M.getD (1 + (j - off)) 0) else b[j]?
  | 0, j, _ => by rw [maskRun, if_neg (by walk_at "om")]
  | k + 1, j, h => by
    rw [maskRun, List.getElem?_set, maskRun_length]
    have ih := fun j => maskRun_get b off M k j (by walk_at "om")
    by_cases q : off + k = j
    · subst q
      have : (maskRun b off M k).getD (off + k) 0 = b.getD (off + k) 0 := by
        rw [List.getD_eq_getElem?_getD, ih, if_neg (by walk_at "om"), ← List.getD_eq_getElem?_getD]
      rw [if_pos rfl, if_pos (by walk_at "om"), if_pos (by walk_at "om"), this]
      simp
    · rw [if_neg q, ih]
      by_cases c : off ≤ j ∧ j < off + k
      · rw [if_pos c, if_pos (by walk_at "om")]
      · rw [if_neg c, if_neg (by walk_at "om")]
noncomputable def both (M b : List UInt8) (off k : Nat) : List UInt8 := maskRun (maskFirst b M) off M k
theorem both_length (M b : List UInt8) (off k : Nat) : (both M b off k).length = b.length := by rw [both, maskRun_length, maskFirst_length]
theorem both_get (M b : List UInt8) (off k j : Nat) (h1 : 1 ≤ off) (h2 : off + k ≤ b.length) :
    (both M b off k)[j]? = if j = 0 then some (mk M (b.getD 0 0)) else if off ≤ j ∧ j < off + k then some (b.getD j 0 ^^^ M.getD (1 + (j - off)) 0) else b[j]? := by
  unfold both
  rw [maskRun_get _ _ _ _ _ (by rw [maskFirst_length]; exact h2)]
  by_cases q : j = 0
  · rw [if_neg (by walk_at "om"), if_pos q, maskFirst_get _ _ _ (by walk_at "om"), if_pos q]
  · rw [if_neg q]
    have e : (maskFirst b M)[j]? = b[j]? := by rw [maskFirst_get _ _ _ (by walk_at "om"), if_neg q]
    by_cases c : off ≤ j ∧ j < off + k
    · rw [if_pos c, if_pos c, List.getD_eq_getElem?_getD, e, ← List.getD_eq_getElem?_getD]
    · rw [if_neg c, if_neg c, e]
theorem both_both (M b : List UInt8) (off k : Nat) (h1 : 1 ≤ off) (h2 : off + k ≤ b.length) : both M (both M b off k) off k = b := by
  refine List.ext_getElem? fun j => ?_
  have hl := both_length M b off k
  rw [both_get _ _ _ _ _ h1 (by rw [hl]; exact h2)]
  have g0 : (both M b off k).getD 0 0 = mk M (b.getD 0 0) := by rw [List.getD_eq_getElem?_getD, both_get _ _ _ _ _ h1 h2, if_pos rfl]; rfl
  by_cases q : j = 0
  · subst q; rw [if_pos rfl, g0, mk_mk, getD_eq _ _ (by walk_at "om")]
  · rw [if_neg q]
    by_cases c : off ≤ j ∧ j < off + k
    · rw [if_pos c, getD_eq b j (by walk_at "om")]
      have : (both M b off k).getD j 0 = b.getD j 0 ^^^ M.getD (1 + (j - off)) 0 := by rw [List.getD_eq_getElem?_getD, both_get _ _ _ _ _ h1 h2, if_neg q, if_pos c]; rfl
      rw [this, xx]
    · rw [if_neg c, both_get _ _ _ _ _ h1 h2, if_neg q, if_neg c]
theorem truncRun_eq (b : List UInt8) (off : Nat) (M : List UInt8) : ∀ k, off + k ≤ b.length → truncRun b off M k = beI (((maskRun b off M k).drop off).take k)
  | 0, _ => rfl
  | k + 1, h => by
    have ih := truncRun_eq b off M k (by walk_at "om")
    have e : ((maskRun b off M (k + 1)).drop off).take (k + 1) = ((maskRun b off M k).drop off).take k ++ [(maskRun b off M (k + 1)).getD (off + k) 0] := by
      rw [List.take_add_one]
      congr 1
      · refine List.ext_getElem? fun j => ?_
        by_cases hj : j < k
        · rw [List.getElem?_take_of_lt hj, List.getElem?_take_of_lt hj, List.getElem?_drop, List.getElem?_drop, maskRun_get _ _ _ _ _ h, maskRun_get _ _ _ _ _ (by walk_at "om"), if_pos (by walk_at "om"), if_pos (by walk_at "om")]
        · rw [List.getElem?_eq_none (by rw [List.length_take]; walk_at "om"), List.getElem?_eq_none (by rw [List.length_take]; walk_at "om")]
      · rw [List.getElem?_drop, getD_eq _ _ (by rw [maskRun_length]; walk_at "om")]; rfl
    rw [truncRun, ih, e, beI_app]
    simp only [List.length_cons, List.length_nil, Nat.zero_add, Nat.pow_one]
    congr 1
    show _ = 0 * 256 + _
    walk_at "om"
theorem snoc_ind {p : List UInt8 → Prop} (h0 : p []) (h1 : ∀ l x, p l → p (l ++ [x])) : ∀ l, p l := by
  intro l
  rw [← List.reverse_reverse l]
  generalize l.reverse = r
  induction r with
  | nil => exact h0
  | cons x r ih => rw [List.reverse_cons]; exact h1 _ _ ih
theorem toBE_beI : ∀ (l : List UInt8), toBE l.length (beI l) = l := by
  refine snoc_ind rfl fun l x ih => ?_
  · skip
    rw [List.length_append, beI_app]
    show toBE (l.length + 1) (beI l * 256 ^ 1 + beI [x]) = _
    have e : beI [x] = x.toNat := by show 0 * 256 + x.toNat = _; lia
    have hx := x.toNat_lt
    rw [toBE, e, show (beI l * 256 ^ 1 + x.toNat) / 256 = beI l by omega, show (beI l * 256 ^ 1 + x.toNat) % 256 = x.toNat by omega, ih]
    congr 2
    exact UInt8.ofNat_toNat
theorem beI_lt : ∀ (l : List UInt8), beI l < 256 ^ l.length := by
  refine snoc_ind (by decide) fun l x ih => ?_
  · skip
    rw [List.length_append, beI_app]
    have e : beI [x] = x.toNat := by show 0 * 256 + x.toNat = _; lia
    have hx := x.toNat_lt
    rw [e, show [x].length = 1 from rfl, Nat.pow_add]
    omega
theorem nonce_eq (iv : List UInt8) (pn : Nat) : nonceB iv (pn : Int) = toBE 12 (beI iv ^^^ pn) := by
  unfold nonceB; rw [bitXor_nat, Int.toNat_natCast]
theorem nonce_ok {iv : List UInt8} (hl : iv.length = 12) {pn : Nat} (h : pn < 2 ^ 96) : NonceOk iv (pn : Int) := by
  unfold NonceOk
  rw [bitXor_nat, Int.toNat_natCast]
  refine ⟨by lia, ?_⟩
  have h1 := beI_lt iv
  rw [hl] at h1
  have e : (256 : Nat) ^ 12 = 2 ^ 96 := by decide
  rw [e] at h1 ⊢
  exact Nat.xor_lt_two_pow h1 h
theorem flip_mod (c : Nat) : flipI ((c % 2 : Nat) : Int) = (((c + 1) % 2 : Nat) : Int) := by
  unfold flipI
  rcases Nat.mod_two_eq_zero_or_one c with h | h
  · rw [h, show (c + 1) % 2 = 1 by omega]; rfl
  · rw [h, show (c + 1) % 2 = 0 by omega]; rfl
theorem and0k (b T k : Nat) (hb : b < 2 ^ k) : (T * 2 ^ k) &&& b = 0 := by
  apply Nat.eq_of_testBit_eq
  intro i
  rw [Nat.testBit_and, Nat.zero_testBit]
  by_cases hi : i < k
  · have : (T * 2 ^ k).testBit i = false := by
      rw [Nat.mul_comm, Nat.testBit_two_pow_mul]
      simp; omega
    rw [this, Bool.false_and]
  · have : b.testBit i = false := Nat.testBit_lt_two_pow (Nat.lt_of_lt_of_le hb (Nat.pow_le_pow_right (n := 2) (by decide) (Nat.le_of_not_lt hi)))
    rw [this, Bool.and_false]
theorem decC_nat (t e k : Nat) (ht : t < 2 ^ k) : decC (t : Int) ((k : Nat) : Int) (e : Int) = ((e / 2 ^ k * 2 ^ k + t : Nat) : Int) := by
  have hp : 0 < 2 ^ k := Nat.pow_pos (by decide)
  unfold decC
  rw [Int.toNat_natCast]
  have e1 : (1 * 2 ^ k - 1 : Int) = ((2 ^ k - 1 : Nat) : Int) := by
    rw [Int.one_mul, Int.natCast_sub hp, Int.natCast_pow]; rfl
  have e2 : Builtin.bitAnd (e : Int) (Builtin.bitNot (1 * 2 ^ k - 1)) = ((e / 2 ^ k * 2 ^ k : Nat) : Int) := by
    rw [e1]
    unfold Builtin.bitAnd
    rw [decide_eq_true (show (0 : Int) ≤ e by lia), decide_eq_false (show ¬ (0 : Int) ≤ Builtin.bitNot ((2 ^ k - 1 : Nat) : Int) by unfold Builtin.bitNot; omega)]
    show (e : Int) - (((e : Int).toNat &&& (Builtin.bitNot (Builtin.bitNot ((2 ^ k - 1 : Nat) : Int))).toNat : Nat) : Int) = _
    have e3 : Builtin.bitNot (Builtin.bitNot ((2 ^ k - 1 : Nat) : Int)) = ((2 ^ k - 1 : Nat) : Int) := by unfold Builtin.bitNot; lia
    rw [e3, Int.toNat_natCast, Int.toNat_natCast, Nat.and_two_pow_sub_one_eq_mod]
    have := Nat.div_add_mod e (2 ^ k)
    rw [Nat.mul_comm] at this
    omega
  rw [e2, bitOr_and, bitAnd_nat, and0k _ _ _ ht]
  omega
theorem pow8 (size : Nat) : (256 : Nat) ^ size = 2 ^ (size * 8) := by rw [Nat.mul_comm, Nat.pow_mul]
theorem dgA {A t r h num e : Nat} (a1 : A + t = num) (a2 : A + r = e) (h1 : t < 2 * h) (hh : 128 ≤ h) (ha : e ≤ num + 2) (hb : num ≤ e + 2) :
    ¬ ((((A + t : Nat) : Int) ≤ (e : Int) - (h : Int) ∧ ((A + t : Nat) : Int) < 1 * 2 ^ Int.toNat 62 - ((2 * h : Nat) : Int))) ∧ ¬ ((e : Int) + (h : Int) < ((A + t : Nat) : Int) ∧ ((2 * h : Nat) : Int) ≤ ((A + t : Nat) : Int)) := by
  rw [show (1 * 2 ^ Int.toNat 62 : Int) = 2 ^ 62 from rfl]; omega
theorem dgB {A t r h num e : Nat} (a1 : A + 2 * h + t = num) (a2 : A + r = e) (h1 : r < 2 * h) (hh : 128 ≤ h) (hn : num < 2 ^ 62) (ha : e ≤ num + 2) (hb : num ≤ e + 2) :
    (((A + t : Nat) : Int) ≤ (e : Int) - (h : Int) ∧ ((A + t : Nat) : Int) < 1 * 2 ^ Int.toNat 62 - ((2 * h : Nat) : Int)) ∧ ((A + t : Nat) : Int) + ((2 * h : Nat) : Int) = num := by
  rw [show (1 * 2 ^ Int.toNat 62 : Int) = 2 ^ 62 from rfl]; omega
theorem dgC {A t r h num e : Nat} (a1 : A + t = num) (a2 : A + 2 * h + r = e) (h1 : t < 2 * h) (hh : 128 ≤ h) (ha : e ≤ num + 2) (hb : num ≤ e + 2) :
    ¬ (((A + 2 * h + t : Nat) : Int) ≤ (e : Int) - (h : Int) ∧ ((A + 2 * h + t : Nat) : Int) < 1 * 2 ^ Int.toNat 62 - ((2 * h : Nat) : Int)) ∧ ((e : Int) + (h : Int) < ((A + 2 * h + t : Nat) : Int) ∧ ((2 * h : Nat) : Int) ≤ ((A + 2 * h + t : Nat) : Int)) ∧ ((A + 2 * h + t : Nat) : Int) - ((2 * h : Nat) : Int) = num := by
  rw [show (1 * 2 ^ Int.toNat 62 : Int) = 2 ^ 62 from rfl]; omega
theorem decode_gen {k h num e : Nat} (hk : 2 ^ k = 2 * h) (hh : 128 ≤ h) (hn : num < 2 ^ 62) (ha : e ≤ num + 2) (hb : num ≤ e + 2) : decodeI ((num % 2 ^ k : Nat) : Int) ((k : Nat) : Int) (e : Int) = num := by
  have hW : 0 < 2 * h := Nat.lt_of_lt_of_le (by decide) (Nat.le_trans hh (Nat.le_mul_of_pos_left h (by decide)))
  unfold decodeI
  rw [decC_nat _ _ _ (Nat.mod_lt _ (by rw [hk]; exact hW)), Int.toNat_natCast, show (1 * 2 ^ k : Int) = ((2 * h : Nat) : Int) by rw [Int.one_mul, ← hk, Int.natCast_pow]; rfl, hk,
    show ((2 * h : Nat) : Int).fdiv 2 = (h : Int) by rw [Int.natCast_mul]; exact Int.mul_fdiv_cancel_left _ (by decide)]
  have x1 : e / (2 * h) ≤ num / (2 * h) + 1 := by
    rw [← Nat.add_div_right _ hW]; exact Nat.div_le_div_right (Nat.le_trans ha (Nat.add_le_add_left (by omega) _))
  have x2 : num / (2 * h) ≤ e / (2 * h) + 1 := by
    rw [← Nat.add_div_right _ hW]; exact Nat.div_le_div_right (Nat.le_trans hb (Nat.add_le_add_left (by omega) _))
  have d1 := Nat.div_add_mod num (2 * h)
  have d2 := Nat.div_add_mod e (2 * h)
  have m1 := Nat.mod_lt num hW
  have m2 := Nat.mod_lt e hW
  generalize num % (2 * h) = t at *
  generalize e % (2 * h) = r at *
  generalize num / (2 * h) = q at *
  generalize e / (2 * h) = q' at *
  have tri : q' = q ∨ q = q' + 1 ∨ q' = q + 1 := by omega
  rw [Nat.mul_comm q' (2 * h)]
  rcases tri with rfl | rfl | rfl
  · obtain ⟨n1, n2⟩ := dgA d1 d2 m1 hh ha hb
    rw [if_neg n1, if_neg n2, d1]
  · rw [Nat.mul_succ] at d1
    obtain ⟨n1, n2⟩ := dgB d1 d2 m2 hh hn ha hb
    rw [if_pos n1, n2]
  · rw [Nat.mul_succ] at d2 ⊢
    obtain ⟨n1, n2, n3⟩ := dgC d1 d2 m1 hh ha hb
    rw [if_neg n1, if_pos n2, n3]
theorem decode_row {num size e : Nat} (h1 : 1 ≤ size) (_ : size ≤ 4) (hn : num < 2 ^ 62) (ha : e ≤ num + 2) (hb : num ≤ e + 2) :
    decodeI ((num % 256 ^ size : Nat) : Int) ((size * 8 : Nat) : Int) (e : Int) = num := by
  obtain ⟨s, rfl⟩ : ∃ s, size = s + 1 := ⟨size - 1, (Nat.sub_add_cancel h1).symm⟩
  rw [pow8]
  refine decode_gen (h := 2 ^ (s * 8) * 128) ?_ (Nat.le_mul_of_pos_left 128 (Nat.pow_pos (by decide))) hn ha hb
  rw [Nat.succ_mul, Nat.pow_add, Nat.mul_comm 2, Nat.mul_assoc]
section
variable {name key ph pp : List UInt8}
noncomputable def szOf (ph : List UInt8) : Nat := (ph.getD 0 0).toNat % 4 + 1
theorem szOf_in (h : List UInt8) : 1 ≤ szOf h ∧ szOf h ≤ 4 := by unfold szOf; omega
noncomputable def Msk (name key ph pp : List UInt8) : List UInt8 := maskB name key ((pp.take (4 - szOf ph + 16)).drop (4 - szOf ph))
theorem apply_eq : applyB name key ph pp = both (Msk name key ph pp) (ph ++ pp) (ph.length - szOf ph) (szOf ph) := rfl
theorem apply_length : (applyB name key ph pp).length = ph.length + pp.length := by rw [apply_eq, both_length, List.length_append]
theorem apply_drop (h1 : szOf ph < ph.length) : (applyB name key ph pp).drop ph.length = pp := by
  refine List.ext_getElem? fun j => ?_
  have hz := szOf_in ph
  rw [List.getElem?_drop, apply_eq, both_get _ _ _ _ _ (by omega) (by rw [List.length_append]; omega), if_neg (by omega), if_neg (by omega), List.getElem?_append_right (by omega), Nat.add_sub_cancel_left]
theorem smp (l : List UInt8) (a b : Nat) : (l.take (a + b)).drop a = (l.drop a).take b := by rw [List.drop_take, Nat.add_sub_cancel_left]
theorem mask_same (h1 : szOf ph < ph.length) : unMask name key (applyB name key ph pp) (ph.length - szOf ph) = Msk name key ph pp := by
  have hz := szOf_in ph
  unfold unMask Msk
  rw [show ph.length - szOf ph + 4 + 16 = (ph.length - szOf ph + 4) + 16 from rfl, smp, smp]
  have e : (applyB name key ph pp).drop (ph.length - szOf ph + 4) = pp.drop (4 - szOf ph) := by
    rw [show ph.length - szOf ph + 4 = ph.length + (4 - szOf ph) by omega, ← List.drop_drop, apply_drop h1]
  rw [e]
theorem len_same (h1 : szOf ph < ph.length) : unLen name key (applyB name key ph pp) (ph.length - szOf ph) = szOf ph := by
  have hz := szOf_in ph
  have hl := apply_length (name := name) (key := key) (ph := ph) (pp := pp)
  unfold unLen
  show ((maskFirst (applyB name key ph pp) (unMask name key (applyB name key ph pp) (ph.length - szOf ph))).getD 0 0).toNat % 4 + 1 = _
  rw [mask_same h1, List.getD_eq_getElem?_getD, maskFirst_get _ _ _ (by omega), if_pos rfl]
  have f0 : (applyB name key ph pp).getD 0 0 = mk (Msk name key ph pp) (ph.getD 0 0) := by
    rw [List.getD_eq_getElem?_getD, apply_eq, both_get _ _ _ _ _ (by omega) (by rw [List.length_append]; omega), if_pos rfl]
    show mk _ ((ph ++ pp).getD 0 0) = _
    rw [List.getD_eq_getElem?_getD, List.getElem?_append_left (by omega), ← List.getD_eq_getElem?_getD]
  rw [f0]
  show (mk _ (mk _ _)).toNat % 4 + 1 = _
  rw [mk_mk]; rfl
theorem hdr_same (h1 : szOf ph < ph.length) : unHdr name key (applyB name key ph pp) (ph.length - szOf ph) = ph := by
  have hz := szOf_in ph
  unfold unHdr
  rw [len_same h1]
  show (both (unMask name key (applyB name key ph pp) (ph.length - szOf ph)) (applyB name key ph pp) (ph.length - szOf ph) (szOf ph)).take _ = _
  rw [mask_same h1, apply_eq, both_both _ _ _ _ (by omega) (by rw [List.length_append]; omega), show ph.length - szOf ph + szOf ph = ph.length by omega]
  exact List.take_left' rfl
theorem trunc_same (h1 : szOf ph < ph.length) : unTrunc name key (applyB name key ph pp) (ph.length - szOf ph) = beI (ph.drop (ph.length - szOf ph)) := by
  have hz := szOf_in ph
  have hl := apply_length (name := name) (key := key) (ph := ph) (pp := pp)
  unfold unTrunc
  rw [len_same h1, truncRun_eq _ _ _ _ (by unfold unFirst; rw [maskFirst_length]; omega)]
  have e := hdr_same (name := name) (key := key) (pp := pp) h1
  unfold unHdr at e
  rw [len_same h1, show ph.length - szOf ph + szOf ph = (ph.length - szOf ph) + szOf ph from rfl] at e
  congr 1
  rw [← smp, e]
end
theorem toBE_get : ∀ (n x j : Nat), j < n → (toBE n x)[j]? = some (UInt8.ofNat (x / 256 ^ (n - 1 - j) % 256))
  | 0, _, _, h => absurd h (Nat.not_lt_zero _)
  | n + 1, x, j, h => by
    rw [toBE]
    by_cases q : j < n
    · rw [List.getElem?_append_left (by rw [toBE_length]; exact q), toBE_get n _ j q, Nat.div_div_eq_div_mul, show n + 1 - 1 - j = (n - 1 - j) + 1 by omega, Nat.pow_succ, Nat.mul_comm 256]
    · have : j = n := by omega
      subst this
      rw [List.getElem?_append_right (by rw [toBE_length]; omega), toBE_length, Nat.sub_self, show j + 1 - 1 - j = 0 by omega, Nat.pow_zero, Nat.div_one]; rfl
theorem xor_digit (a b j : Nat) : (a ^^^ b) / 256 ^ j % 256 = (a / 256 ^ j % 256) ^^^ (b / 256 ^ j % 256) := by
  have e : (256 : Nat) ^ j = 2 ^ (8 * j) := by rw [Nat.pow_mul]
  have e2 : (256 : Nat) = 2 ^ 8 := rfl
  rw [e, ← Nat.shiftRight_eq_div_pow, ← Nat.shiftRight_eq_div_pow, ← Nat.shiftRight_eq_div_pow, Nat.shiftRight_xor_distrib, e2]
  exact Nat.xor_mod_two_pow
theorem due_nonce {iv : List UInt8} (hl : iv.length = 12) (pn : Nat) : dueNonce iv pn = nonceB iv (pn : Int) := by
  rw [nonce_eq]
  refine List.ext_getElem? fun j => ?_
  by_cases q : j < 12
  · rw [toBE_get 12 _ j q]
    unfold dueNonce
    rw [List.getElem?_map, List.getElem?_map, List.getElem?_range q]
    show some (dnF iv pn j).toNat.toUInt8 = _
    have g : iv[j]? = some (UInt8.ofNat (beI iv / 256 ^ (11 - j) % 256)) := by
      have := toBE_get 12 (beI iv) j q
      rw [← hl, toBE_beI, hl] at this
      exact this
    have d : (iv.getD j 0).toNat = beI iv / 256 ^ (11 - j) % 256 := by
      rw [List.getD_eq_getElem?_getD, g]
      show (UInt8.ofNat _).toNat = _
      rw [UInt8.toNat_ofNat']
      exact Nat.mod_eq_of_lt (Nat.mod_lt _ (by decide))
    unfold dnF
    rw [d, xor_digit, Int.toNat_natCast]
  · rw [List.getElem?_eq_none (by rw [dueNonce_length]; omega), List.getElem?_eq_none (by rw [toBE_length]; omega)]
theorem due_bothG {M ph S : List UInt8} {p Z : Nat} (hL : p + 1 + Z = ph.length) : dueOut ph M (p + 1) Z S = both M (ph ++ S) (p + 1) Z := by
  refine List.ext_getElem? fun j => ?_
  rw [both_get _ _ _ _ _ (Nat.le_add_left _ _) (by rw [List.length_append, hL]; exact Nat.le_add_right _ _)]
  unfold dueOut
  have l1 : ((ph.take (p + 1)).drop 1).length = p := by rw [List.length_drop, List.length_take, Nat.min_eq_left (by rw [← hL]; exact Nat.le_add_right _ _)]; rfl
  have l2 := dueTurned_length ph M (p + 1) Z
  have gS : ∀ i, i < ph.length → (ph ++ S).getD i 0 = ph.getD i 0 := fun i h => by rw [List.getD_eq_getElem?_getD, List.getElem?_append_left h, ← List.getD_eq_getElem?_getD]
  cases j with
  | zero => rw [if_pos rfl, gS 0 (by rw [← hL]; omega)]; rfl
  | succ i =>
    rw [if_neg (Nat.succ_ne_zero _), List.append_assoc, List.append_assoc]
    show ((ph.take (p + 1)).drop 1 ++ (dueTurned ph M (p + 1) Z ++ S))[i]? = _
    by_cases c : i < p
    · rw [if_neg (fun q => absurd q.1 (by omega)), List.getElem?_append_left (by rw [l1]; exact c), List.getElem?_drop, List.getElem?_take_of_lt (by omega), Nat.add_comm 1 i, List.getElem?_append_left (by omega)]
    · obtain ⟨t, rfl⟩ := Nat.exists_eq_add_of_le (Nat.le_of_not_lt c)
      rw [List.getElem?_append_right (by rw [l1]; exact Nat.le_add_right _ _), l1, Nat.add_sub_cancel_left]
      by_cases c2 : t < Z
      · rw [if_pos ⟨by omega, by omega⟩, List.getElem?_append_left (by rw [l2]; exact c2)]
        unfold dueTurned
        rw [List.getElem?_map, List.getElem?_map, List.getElem?_range c2]
        show some (dueF ph M (p + 1) t).toNat.toUInt8 = _
        unfold dueF
        rw [u8nat, gS _ (by omega), show p + t + 1 = p + 1 + t by omega, Nat.add_sub_cancel_left]
      · obtain ⟨r, rfl⟩ := Nat.exists_eq_add_of_le (Nat.le_of_not_lt c2)
        rw [if_neg (fun q => absurd q.2 (by omega)), List.getElem?_append_right (by rw [l2]; exact Nat.le_add_right _ _), l2, Nat.add_sub_cancel_left, List.getElem?_append_right (by omega), show p + (Z + r) + 1 - ph.length = r by omega]
theorem due_both {M ph S : List UInt8} (h1 : szOf ph < ph.length) : dueOut ph M (ph.length - szOf ph) (szOf ph) S = both M (ph ++ S) (ph.length - szOf ph) (szOf ph) := by
  obtain ⟨p, hp⟩ : ∃ p, ph.length - szOf ph = p + 1 := ⟨ph.length - szOf ph - 1, (Nat.sub_add_cancel (Nat.sub_pos_of_lt h1)).symm⟩
  rw [hp]
  exact due_bothG (by rw [← hp]; exact Nat.sub_add_cancel (Nat.le_of_lt h1))
theorem due_enc {suite version : Int} {secF secL ph text : List UInt8} {pn : Nat} (h1 : szOf ph < ph.length) :
    dueB suite version secF secL ph text pn = applyB (hname suite) (hpB suite version secF) ph (sealB (aname suite) (keyB suite version secL) (nonceB (ivB suite version secL) (pn : Int)) text ph) := by
  have hz := szOf_in ph
  unfold dueB
  rw [due_nonce (iv := ivB suite version secL) (expandB_length (by decide))]
  generalize sealB (aname suite) (keyB suite version secL) (nonceB (ivB suite version secL) (pn : Int)) text ph = S
  show dueAt suite version secF ph S (ph.length - szOf ph) (szOf ph) = _
  unfold dueAt
  rw [due_both h1, apply_eq]
  congr 1
  unfold Msk
  rw [show ph.length - szOf ph + 20 = (ph.length - szOf ph + 4) + 16 by omega, smp, smp, show ph.length - szOf ph + 4 = ph.length + (4 - szOf ph) by omega, ← List.drop_drop, List.drop_left' rfl]
theorem turn_turn (text : List UInt8) (k : Nat) : turnB (turnB text k) k = text := by
  unfold turnB
  rw [toBE_length, beI_toBE _ _ (turn_lt text k), Nat.xor_assoc, Nat.xor_self, Nat.xor_zero, toBE_beI]
theorem open_self (name key nonce data assoc : List UInt8) : openB name key nonce (sealB name key nonce data assoc) assoc = some data := by
  have hl := sealB_length name key nonce data assoc
  have hc : cutB key nonce (sealB name key nonce data assoc) = data := by
    unfold cutB
    rw [hl, Nat.add_sub_cancel]
    unfold sealB
    rw [List.take_left' (turnB_length _ _), turn_turn]
  unfold openB
  rw [if_neg (by omega), hc, if_pos rfl]
end Pl
section
variable {prog : Program} {w : World} {A : Around} {H0 h : Heap} {fs : List (Nat × Map)} {H : PH} {n : Nat} {L : Nat} {m : Map} {g : Array GenState} {d : Drawn} {tk : Nat} {os : OsState} {bb : Nat}
  {E : Value → Shared → Prop} {Q : Value → Shared → Prop}
inductive CS where
  | none
  | on (suite version kp : Int) (sec hpk : List UInt8)
noncomputable def CtxS (H : PH) (c cd : Nat) : CS → Prop
  | .none => ∃ u, CtxV H c cd .none .none .none (.int 0 u) .none .none
  | .on suite version kp sec hpk => CtxAt H c cd suite version kp sec hpk
theorem CtxAt.cv {H : PH} {c cd : Nat} {suite version kp : Int} {sec hpk : List UInt8} (h : CtxAt H c cd suite version kp sec hpk) : ∃ av sv hv u secv vv, CtxV H c cd av sv hv (.int kp u) secv vv := by
  obtain ⟨a, hp, t1, t2, t3, t4, h1, _⟩ := h.ex
  exact ⟨_, _, _, _, _, _, h1⟩
theorem CtxS.cv {H : PH} {c cd : Nat} {s : CS} (h : CtxS H c cd s) : ∃ av sv hv kp u secv vv, CtxV H c cd av sv hv (.int kp u) secv vv := by
  cases s with
  | none => obtain ⟨u, h⟩ := h; exact ⟨_, _, _, _, _, _, _, h⟩
  | on a b c d e => obtain ⟨_, _, _, _, _, _, h⟩ := CtxAt.cv h; exact ⟨_, _, _, _, _, _, _, h⟩
theorem CtxS.isdic {H : PH} {c cd : Nat} {s : CS} (h : CtxS H c cd s) : ∃ l, H cd = some (.dic l) := by
  obtain ⟨_, _, _, _, _, _, _, h⟩ := h.cv; exact ⟨_, h.2⟩
theorem CtxS.only {S : List Nat} {H H' : PH} {c cd : Nat} {s : CS} (h : CtxS H c cd s) (o : Only S H H') (k : KeepI H H') (h2 : cd ∉ S) : CtxS H' c cd s := by
  cases s with
  | none => obtain ⟨u, h⟩ := h; exact ⟨u, h.only o k h2⟩
  | on _ _ _ _ _ => exact CtxAt.only h o k h2
structure Side (H : PH) (p pd rc rcd sc scd : Nat) (ask : Bool) (R S : CS) : Prop where
  pv : PairV H p pd rc sc ask
  r : CtxS H rc rcd R
  s : CtxS H sc scd S
  ne : rcd ≠ scd
section
variable {H' H'' : PH} {p pd rc rcd sc scd : Nat} {ask : Bool} {RR SS : CS}
theorem Side.keep {S : List Nat} (h : Side H' p pd rc rcd sc scd ask RR SS) (o : Only S H' H'') (k : KeepI H' H'') (h1 : pd ∉ S) (h2 : rcd ∉ S) (h3 : scd ∉ S) : Side H'' p pd rc rcd sc scd ask RR SS :=
  ⟨h.pv.keep o k h1, h.r.only o k h2, h.s.only o k h3, h.ne⟩
theorem Side.le (h : Side H' p pd rc rcd sc scd ask RR SS) (o : H'.le H'') : Side H'' p pd rc rcd sc scd ask RR SS :=
  h.keep (S := []) (fun a x _ e => o a x e) (fun a x _ e => o a x e) List.not_mem_nil List.not_mem_nil List.not_mem_nil
noncomputable def IsDic (H : PH) (S : List Nat) : Prop := ∀ b ∈ S, ∃ l, H b = some (.dic l)
theorem only_lst {S : List Nat} (o : Only S H' H'') (d : IsDic H' S) {a : Nat} {vs : List Value} (e : H' a = some (.lst vs)) : H'' a = some (.lst vs) :=
  o a _ (fun m => by obtain ⟨l, q⟩ := d a m; rw [e] at q; cases q) e
theorem StC.only {S : List Nat} {st cl : Nat} {b : Int} (h : StC H' st cl b) (o : Only S H' H'') (d : IsDic H' S) : StC H'' st cl b := by
  obtain ⟨at_, t0, vs, cells, hs, hc, r⟩ := h
  exact ⟨at_, t0, vs, cells, only_lst o d hs, only_lst o d hc, r⟩
theorem PairV.isdic {rc sc : Nat} (h : PairV H' p pd rc sc ask) : ∃ l, H' pd = some (.dic l) := let ⟨_, _, e⟩ := h; ⟨_, e⟩
theorem Side.isdic (h : Side H' p pd rc rcd sc scd ask RR SS) : IsDic H' [pd, rcd, scd] := by
  intro b hb
  simp only [List.mem_cons, List.not_mem_nil, or_false] at hb
  rcases hb with rfl | rfl | rfl
  · exact h.pv.isdic
  · exact h.r.isdic
  · exact h.s.isdic
theorem Side.lst_ne (h : Side H' p pd rc rcd sc scd ask RR SS) {a : Nat} {x : AO} (e : H' a = some x) (hx : ∀ l, x ≠ .dic l) : pd ≠ a ∧ rcd ≠ a ∧ scd ≠ a := by
  obtain ⟨l1, e1⟩ := h.pv.isdic
  obtain ⟨l2, e2⟩ := h.r.isdic
  obtain ⟨l3, e3⟩ := h.s.isdic
  exact ⟨ne_of e1 e (fun q => hx _ q.symm), ne_of e2 e (fun q => hx _ q.symm), ne_of e3 e (fun q => hx _ q.symm)⟩
theorem Side.setl (h : Side H' p pd rc rcd sc scd ask RR SS) {a : Nat} {vs : List Value} {x : AO} (e : H' a = some (.lst vs)) : Side (H'.set a x) p pd rc rcd sc scd ask RR SS := by
  obtain ⟨n1, n2, n3⟩ := h.lst_ne e (fun _ q => nomatch q)
  exact h.keep (S := [a]) (Only.set _ (Only.refl _ _) (List.mem_singleton.mpr rfl)) (KeepI.set (KeepI.refl _) e nimm_lst) (by simpa using n1) (by simpa using n2) (by simpa using n3)
theorem raw_keep {it : Nat} {o : Obj} (oo : Only [it] H' H'') (ho : H' it = some (.raw o)) : KeepI H' H'' := KeepI.only (KeepI.refl _) oo (fun b hb z e => by
  rw [List.mem_singleton.mp hb, ho] at e
  cases e; exact nimm_raw)
theorem raw_lst {it : Nat} {o : Obj} (oo : Only [it] H' H'') (ho : H' it = some (.raw o)) {a : Nat} {vs : List Value} (e : H' a = some (.lst vs)) : H'' a = some (.lst vs) := oo a _ (by simpa using ne_of e ho (fun q => nomatch q)) e
theorem Side.raw {it : Nat} {o : Obj} (h : Side H' p pd rc rcd sc scd ask RR SS) (oo : Only [it] H' H'') (ho : H' it = some (.raw o)) : Side H'' p pd rc rcd sc scd ask RR SS := by
  obtain ⟨n1, n2, n3⟩ := h.lst_ne ho (fun _ q => nomatch q)
  exact h.keep oo (raw_keep oo ho) (by simpa using n1) (by simpa using n2) (by simpa using n3)
theorem StC.raw {it : Nat} {o : Obj} {st cl : Nat} {b : Int} (h : StC H' st cl b) (oo : Only [it] H' H'') (ho : H' it = some (.raw o)) : StC H'' st cl b := by
  obtain ⟨at_, t0, vs, cells, hs, hc, r⟩ := h
  exact ⟨at_, t0, vs, cells, raw_lst oo ho hs, raw_lst oo ho hc, r⟩
end
structure Ad where
  (st cl sd p pd rc rcd sc scd p' pd' rc' rcd' sc' scd' : Nat)
  (ls : List Value)
noncomputable def Ad.S (a : Ad) : List Nat := [a.st, a.pd, a.rcd, a.scd, a.pd', a.rcd', a.scd']
structure ES (Hb H : PH) (a : Ad) (b : Int) (q0 q1 : Bool) (R0 S0 R1 S1 : CS) : Prop where
  st : StC H a.st a.cl b
  sd : H a.sd = some (.lst a.ls)
  s0 : Side H a.p a.pd a.rc a.rcd a.sc a.scd q0 R0 S0
  s1 : Side H a.p' a.pd' a.rc' a.rcd' a.sc' a.scd' q1 R1 S1
  f1 : NE a.cl a.st
  f2 : NE a.sd a.st
  j : ∀ q ∈ [a.pd, a.rcd, a.scd], q ∉ [a.pd', a.rcd', a.scd']
  o : Only a.S Hb H
  k : KeepI Hb H
  nb : ∀ q ∈ a.S, ∀ z, Hb q = some z → ¬ Imm z
section
variable {Hb H' H'' : PH} {a : Ad} {b b' : Int} {q0 q1 q' : Bool} {R0 S0 R1 S1 R' S' : CS} {z : AO}
theorem ES.le (h : ES Hb H' a b q0 q1 R0 S0 R1 S1) (l : H'.le H'') : ES Hb H'' a b q0 q1 R0 S0 R1 S1 :=
  ⟨h.st.le l, l _ _ h.sd, h.s0.le l, h.s1.le l, h.f1, h.f2, h.j, Only.le _ h.o l, h.k.le l, h.nb⟩
theorem KeepI.setB {Hb H : PH} {q : Nat} {x : AO} (k : KeepI Hb H) (h : ∀ z, Hb q = some z → ¬ Imm z) : KeepI Hb (H.set q x) := fun b z i e => by
  by_cases q' : b = q
  · subst q'; exact absurd i (h z e)
  · rw [PH.set_ne q']; exact k b z i e
theorem ES.take (h : ES Hb H' a b q0 q1 R0 S0 R1 S1) (hs : StC (H'.set a.st z) a.st a.cl b') : ES Hb (H'.set a.st z) a b' q0 q1 R0 S0 R1 S1 := by
  obtain ⟨_, _, _, _, es, _⟩ := id h.st
  have hm : a.st ∈ a.S := List.mem_cons_self
  exact ⟨hs, PH.set_at h.f2 h.sd, h.s0.setl es, h.s1.setl es, h.f1, h.f2, h.j, Only.set _ h.o hm, h.k.setB (h.nb _ hm), h.nb⟩
theorem ES.side0 (h : ES Hb H' a b q0 q1 R0 S0 R1 S1) (o : Only [a.pd, a.rcd, a.scd] H' H'') (k : KeepI H' H'') (s : Side H'' a.p a.pd a.rc a.rcd a.sc a.scd q' R' S') : ES Hb H'' a b q' q1 R' S' R1 S1 := by
  have d := h.s0.isdic
  have j' : ∀ q ∈ [a.pd', a.rcd', a.scd'], q ∉ [a.pd, a.rcd, a.scd] := fun q m m' => h.j q m' m
  exact ⟨h.st.only o d, only_lst o d h.sd, s, h.s1.keep o k (j' _ (by simp)) (j' _ (by simp)) (j' _ (by simp)), h.f1, h.f2, h.j, Only.trans h.o (o.mono (by intro q hq; simp only [List.mem_cons, List.not_mem_nil, or_false] at hq; rcases hq with rfl | rfl | rfl <;> simp [Ad.S])), h.k.trans k, h.nb⟩
theorem ES.side1 (h : ES Hb H' a b q0 q1 R0 S0 R1 S1) (o : Only [a.pd', a.rcd', a.scd'] H' H'') (k : KeepI H' H'') (s : Side H'' a.p' a.pd' a.rc' a.rcd' a.sc' a.scd' q' R' S') : ES Hb H'' a b q0 q' R0 S0 R' S' := by
  have d := h.s1.isdic
  exact ⟨h.st.only o d, only_lst o d h.sd, h.s0.keep o k (h.j _ (by simp)) (h.j _ (by simp)) (h.j _ (by simp)), s, h.f1, h.f2, h.j, Only.trans h.o (o.mono (by intro q hq; simp only [List.mem_cons, List.not_mem_nil, or_false] at hq; rcases hq with rfl | rfl | rfl <;> simp [Ad.S])), h.k.trans k, h.nb⟩
theorem ES.raw {it : Nat} {o : Obj} (h : ES Hb H' a b q0 q1 R0 S0 R1 S1) (oo : Only [it] H' H'') (ho : H' it = some (.raw o)) (nb : Hb it = none) : ES Hb H'' a b q0 q1 R0 S0 R1 S1 :=
  ⟨h.st.raw oo ho, raw_lst oo ho h.sd, h.s0.raw oo ho, h.s1.raw oo ho, h.f1, h.f2, h.j, fun x z nx e => oo x z (by intro m; rw [List.mem_singleton.mp m, nb] at e; exact nomatch e) (h.o x z nx e), h.k.trans (raw_keep oo ho), h.nb⟩
end
end
section
variable {prog : Program} {w : World} {A : Around} {H0 h : Heap} {fs : List (Nat × Map)} {H : PH} {n : Nat} {L : Nat} {m : Map} {g : Array GenState} {d : Drawn} {tk : Nat} {os : OsState} {bb : Nat}
  {E : Value → Shared → Prop} {Q : Value → Shared → Prop}
theorem CtxAt.cs {c cd : Nat} {suite version kp : Int} {sec hpk : List UInt8} (h : CtxAt H c cd suite version kp sec hpk) : CtxS H c cd (.on suite version kp sec hpk) := h
theorem esl_of {H' : PH} {q : Nat} {l l' : List Value} (e : l = l') (h : H' q = some (.lst l')) : H' q = some (.lst l) := e ▸ h
theorem ES.mono {Hb H' : PH} {a : Ad} {b b' : Int} {q0 q1 : Bool} {R0 S0 R1 S1 : CS} (h : ES Hb H' a b q0 q1 R0 S0 R1 S1) (l : b ≤ b') : ES Hb H' a b' q0 q1 R0 S0 R1 S1 := { h with st := h.st.mono l }
theorem RC.new3 {X : Prop} {H2 : PH} {q q' q3 n2 : Nat} {x y z : AO} (b : Bnd H2 n2) (R : RC w.params H0 fs (((H2.set q x).set q' y).set q3 z) n h) (hq : n2 ≤ q) (hq' : q < q') (hq3 : q' < q3) (k : ∀ H', H2.le H' → H' q = some x → H' q3 = some z → RC w.params H0 fs H' n h → X) : X :=
  k _ (PH.le_new (PH.le_new (PH.le_new (PH.le_refl _) (b q hq)) (b q' (by omega))) (b q3 (by omega))) (PH.set_at (by omega) (PH.set_at (Nat.ne_of_lt hq') (PH.set_self _ _ _))) (PH.set_self _ _ _) R
noncomputable def csI (i j : Nat) (suite suite' version : Int) (sec sec' : List UInt8) : CS := if j < i then .on suite version 0 sec (hpB suite version sec) else .on suite' version 0 sec' (hpB suite' version sec')
theorem csI_hi {i j : Nat} {suite suite' version : Int} {sec sec' : List UInt8} (h : j < i) : csI i j suite suite' version sec sec' = .on suite version 0 sec (hpB suite version sec) := if_pos h
theorem csI_lo {i j : Nat} {suite suite' version : Int} {sec sec' : List UInt8} (h : ¬ j < i) : csI i j suite suite' version sec sec' = .on suite' version 0 sec' (hpB suite' version sec') := if_neg h
noncomputable def BInv (Hb : PH) (a : Ad) (b : Int) (suite version : Int) (s0 s1 i0 i1 : List UInt8) (sl : Nat) (v0 v1 : Tok) (i : Nat) (H' : PH) (m' : Map) : Prop :=
  ES Hb H' a b false false (csI i 0 suite 4865 version s1 i1) (csI i 0 suite 4865 version s0 i0) (csI i 1 suite 4865 version s0 i0) (csI i 1 suite 4865 version s1 i1) ∧
  H' sl = some (.lst [.bytes s0.toArray v0, .bytes s1.toArray v1]) ∧ m' "sides" = some (.ref a.sd) ∧ m' "secrets" = some (.ref sl) ∧ (∃ t, m' "suite" = some (.int suite t)) ∧ (∃ t, m' "version" = some (.int version t))
theorem dic1 {H' : PH} {q : Nat} {l : List (Str × Value)} (e : H' q = some (.dic l)) : IsDic H' [q] := fun b hb => by rw [List.mem_singleton.mp hb]; exact ⟨_, e⟩
theorem sd_ex {H4 : PH} {q : Nat} {x : AO} (e : H4 q = some x) : ∃ q', q' = q ∧ H4 q' = some x := ⟨q, rfl, e⟩
theorem RC.drop1 {X : Prop} {H1 Hx : PH} (r : RC w.params H0 fs Hx n h) (l : H1.le Hx) (k : RC w.params H0 fs H1 n h → X) : X := k (r.weak l)
theorem RC.nameS {X : Prop} {H1 Hx : PH} {st cl : Nat} {b : Int} (r : RC w.params H0 fs Hx n h) (s : StC Hx st cl b) (l : H1.le Hx) (k : ∀ Hx, H1.le Hx → StC Hx st cl b → RC w.params H0 fs Hx n h → X) : X := k Hx l s r
theorem RC.new2 {X : Prop} {H2 : PH} {q q' n2 : Nat} {x y : AO} (b : Bnd H2 n2) (R : RC w.params H0 fs ((H2.set q x).set q' y) n h) (hq : n2 ≤ q) (hq' : q < q') (k : ∀ H', H2.le H' → H' q = some x → H' q' = some y → RC w.params H0 fs H' n h → X) : X :=
  k _ (PH.le_new (PH.le_new (PH.le_refl _) (b q hq)) (b q' (by omega))) (PH.set_at (Nat.ne_of_lt hq') (PH.set_self _ _ _)) (PH.set_self _ _ _) R
theorem ES.mk0 {H3 : PH} {st cl sd p pd rc rcd sc scd p' pd' rc' rcd' sc' scd' n2 : Nat} {b : Int} {z : AO} (hs : StC H st cl b) (b0 : Bnd H n) (l1 : (H.set st z).le H3) (hs1 : StC H3 st cl b)
    (esd : H3 sd = some (.lst [.ref p, .ref p'])) (s0 : Side H3 p pd rc rcd sc scd false .none .none) (s1 : Side H3 p' pd' rc' rcd' sc' scd' false .none .none)
    (h1 : n ≤ pd) (h2 : n ≤ rcd) (h3 : n ≤ scd) (g1 : n2 ≤ pd') (g2 : n2 ≤ rcd') (g3 : n2 ≤ scd') (hn : n ≤ n2) (k1 : pd < n2) (k2 : rcd < n2) (k3 : scd < n2) (hsd : n ≤ sd) :
    ES H H3 ⟨st, cl, sd, p, pd, rc, rcd, sc, scd, p', pd', rc', rcd', sc', scd', [.ref p, .ref p']⟩ b false false .none .none .none .none := by
  obtain ⟨at_, t0, vs, cells, s1', s2', _, hne, _⟩ := id hs
  have lst := b0.lt s1'
  refine ⟨hs1, esd, s0, s1, hne, Nat.ne_of_gt (Nat.lt_of_lt_of_le lst hsd), ?_, ?_, ?_, ?_⟩
  · intro q hq hq'
    simp only [List.mem_cons, List.not_mem_nil, or_false] at hq hq'
    omega
  · intro q x nq e
    exact l1 q x (by rw [PH.set_ne (fun m => nq (by rw [m]; exact List.mem_cons_self))]; exact e)
  · exact (KeepI.set (KeepI.refl _) s1' nimm_lst).le l1
  · intro q hq z e
    simp only [Ad.S, List.mem_cons, List.not_mem_nil, or_false] at hq
    have lq := b0.lt e
    rcases hq with rfl | hq
    · rw [s1'] at e; cases e; exact nimm_lst
    · omega
theorem begun_ct {st cl : Nat} {b : Int}
    (G : Gd (KK w.params) H0) (hz : H0.objs.size ≤ n) (O : Ok A 14) (R : RC w.params H0 fs H n h) (hs : StC H st cl b) (hb : b < 2 ^ 20)
    (k : ∀ (tp sl : Nat) (a : Ad) (version suite : Int) (s0 s1 : List UInt8) (u1 u2 u3 u4 : Tok) H' h' n' tk', a.st = st → a.cl = cl → Suite suite → s0.length ≤ 100 → s1.length ≤ 100 → n ≤ n' → n ≤ a.sd → n ≤ sl → (∀ q ∈ a.S, q = a.st ∨ n ≤ q) → [.ref a.p, .ref a.p'] = a.ls →
      H' tp = some (.tup [.int version u1, .int suite u2, .ref a.sd, .ref sl]) → H' sl = some (.lst [.bytes s0.toArray u3, .bytes s1.toArray u4]) →
      ES H H' a (b + 6) false false (.on suite version 0 s1 (hpB suite version s1)) (.on suite version 0 s0 (hpB suite version s0)) (.on suite version 0 s0 (hpB suite version s0)) (.on suite version 0 s1 (hpB suite version s1)) →
      RC w.params H0 fs H' n' h' → Q (.ref tp) ⟨h', g, d, tk', os⟩) :
    wpAny (model prog w) A (call (.ref 450) [.ref st]) Q E ⟨h, g, d, tk, os⟩ := by
  obtain ⟨at_, t0, vs, cells, s1, s2, _⟩ := id hs
  have bst := R.lt s1
  have bcl := R.lt s2
  have bn0 := R.bnd
  have hs' : StC H st cl (b + 1) := hs.mono (by omega)
  refine' r_def (binds := [("state", .ref st)]) R ?G hz O.room ?ho ?hcd ?hbind ?hloc ?_ ?hco ?hgen ?hk ?hcell
  walk_at "def"
  intro L' h₁ tk₁ hl R'
  walk_at "21"
  rename RC _ _ _ _ _ _ => r0
  refine' take_ct G (by walk_at "om") (O.deep (by decide)) r0 (hs.le ?lle) (by decide) (by walk_at "om") ?_
  case lle => walk_at "le"
  intro v t x1 h' n' tk' v0 v1 hn hs1 r1
  clear r0
  walk_at "0"
  rename RC _ _ _ _ _ _ => r0
  refine' r_item_ints (ns := [1, 1798521807, 4278190109]) r0 ?e ?hi v0 (by walk_at "om") (by simp only [List.length_cons, List.length_nil]; walk_at "om") ?_
  case e => walk_at "lk"
  case hi => walk_at "intsare"
  intro tv
  generalize ([1, 1798521807, 4278190109] : List Int).getD v.toNat 0 = version
  walk_at "12"
  rename RC _ _ _ _ _ _ => r0
  refine' RC.nameS (H1 := H.set st x1) r0 hs1 ?lle ?_
  case lle => walk_at "le"
  clear r0 hs1
  intro H1 le1 hs1 r0
  have bn1 := r0.bnd
  refine' pair_new_ct G (by walk_at "om") (O.deep (by decide)) r0 ?_
  intro p pd rc rcd sc scd H2 h' n2 tk' u1 u2 hp1 hp2 hp3 hp4 hp5 hp6 hp7 hn2 le2 hPV hR hS r1
  clear r0
  have bn2 := r1.bnd
  walk_at "8"
  rename RC _ _ _ _ _ _ => r0
  refine' pair_new_ct G (by walk_at "om") (O.deep (by decide)) r0 ?_
  intro p' pd' rc' rcd' sc' scd' H3 h' n3 tk' u3 u4 hq1 hq2 hq3 hq4 hq5 hq6 hq7 hn3 le3 hPV' hR' hS' r1
  clear r0
  have bn3 := r1.bnd
  have z1 := bn2.lt hPV.choose_spec.2
  have z2 := bn2.lt hR.2
  have z3 := bn2.lt hS.2
  walk_at "30"
  rename RC _ _ _ _ _ _ => r0
  refine' RC.new2 bn3 r0 (by walk_at "om") (by walk_at "om") ?_
  clear r0
  intro H4 le4 esd ecs r0
  obtain ⟨sd, rfl, esd⟩ := sd_ex esd
  have L4 := PH.le_trans le2 (PH.le_trans le3 le4)
  have B := ES.mk0 (st := st) (cl := cl) (b := b + 1) hs' bn0 (PH.le_trans le1 L4) (hs1.le L4) esd
    (Side.le ⟨hPV, ⟨_, hR⟩, ⟨_, hS⟩, hp7⟩ (PH.le_trans le3 le4)) (Side.le ⟨hPV', ⟨_, hR'⟩, ⟨_, hS'⟩, hq7⟩ le4) (by walk_at "om") (by walk_at "om") (by walk_at "om") hq2 hq4 hq6 (by walk_at "om") z1 z2 z3 (by walk_at "om")
  clear hs' hs1 hPV hR hS hPV' hR' hS' le1 le2 le3 le4 L4 bn1 bn2 bn3
  obtain ⟨a, ha⟩ : ∃ a : Ad, a = ⟨st, cl, sd, p, pd, rc, rcd, sc, scd, p', pd', rc', rcd', sc', scd', [.ref p, .ref p']⟩ := ⟨_, rfl⟩
  rw [← ha] at B
  have hls : [Value.ref a.p, .ref a.p'] = a.ls := by rw [ha]
  have f1 : st = a.st := by rw [ha]
  have f2 : cl = a.cl := by rw [ha]
  have f3 : sd = a.sd := by rw [ha]
  have nsd : n ≤ a.sd := by rw [← f3]; walk_at "om"
  have hnew : ∀ q ∈ a.S, q = a.st ∨ n ≤ q := by
    rw [ha]
    intro q hq
    simp only [Ad.S, List.mem_cons, List.not_mem_nil, or_false] at hq
    rcases hq with rfl | rfl | rfl | rfl | rfl | rfl | rfl
    · exact .inl rfl
    · exact .inr (by walk_at "om")
    · exact .inr (by walk_at "om")
    · exact .inr (by walk_at "om")
    · exact .inr (by walk_at "om")
    · exact .inr (by walk_at "om")
    · exact .inr (by walk_at "om")
  rw [f1, f3] at r0
  rw [f1] at bst ⊢
  clear ha z1 z2 z3
  refine' take_ct G (by walk_at "om") (O.deep (by decide)) r0 B.st (by decide) (by walk_at "om") ?_
  intro v2 t2 x2 h' n4 tk' v20 v21 hn4 hs4 r1
  clear r0
  have B5 := B.take hs4
  have ecs5 := PH.set_at (x := x2) (a := a.st) (by walk_at "om") ecs
  generalize PH.set H4 a.st x2 = H5 at r1 B5 ecs5 hs4
  walk_at "0"
  rename RC _ _ _ _ _ _ => r0
  refine' r_item_ints (ns := [8, 0, 20]) r0 ecs5 ?hi v20 (by walk_at "om") (by simp only [List.length_cons, List.length_nil]; walk_at "om") ?_
  case hi => walk_at "intsare"
  have hcz : 0 ≤ ([8, 0, 20] : List Int).getD v2.toNat 0 ∧ ([8, 0, 20] : List Int).getD v2.toNat 0 ≤ 20 := by
    obtain rfl | rfl | rfl : v2 = 0 ∨ v2 = 1 ∨ v2 = 2 := by walk_at "om"
    all_goals decide
  generalize ([8, 0, 20] : List Int).getD v2.toNat 0 = csz at hcz ⊢
  obtain ⟨hcz0, hcz1⟩ := hcz
  intro tc
  walk_at "2"
  rename RC _ _ _ _ _ _ => r0
  refine' octets_ct G (by walk_at "om") (O.deep (by decide)) r0 B5.st hcz0 (by walk_at "om") (by walk_at "om") ?_
  intro cid tcid x3 h' n6 tk' hcid hn6 hs6 r1
  clear r0
  have B6 := B5.take hs6
  clear ecs5 ecs
  generalize PH.set H5 a.st x3 = H6 at r1 B6 hs6
  have hcl : cid.length ≤ 100 := by walk_at "om"
  have esd6 := esl_of hls B6.sd
  have P0 := B6.s0
  have P1 := B6.s1
  refine' PairV.el P0.pv ?_
  intro tq1 pe1 pe2
  refine' PairV.el P1.pv ?_
  intro tq2 pe3 pe4
  walk_at "18"
  rename RC _ _ _ _ _ _ => r0
  obtain ⟨ur, cr⟩ := P0.r
  obtain ⟨us, cs⟩ := P0.s
  refine' setup_initial_ct (client := true) G (by walk_at "om") (O.deep (by decide)) r0 P0.pv cr cs P0.ne hcl ?_
  intro H7 h' n7 tk' hn7 o7 k7 pv7 cr7 cs7 r1
  clear r0
  have B7 := B6.side0 (o7.mono (fun _ m => .tail _ m)) k7 ⟨pv7, cr7.cs, cs7.cs, P0.ne⟩
  have esd7 := esl_of hls B7.sd
  have P2 := B7.s1
  refine' PairV.el P2.pv ?_
  intro tq3 pe5 pe6
  clear pe1 pe2 pe3 pe4 P1 P0 B6 B5 esd esd6
  walk_at "17"
  rename RC _ _ _ _ _ _ => r0
  obtain ⟨ur', cr'⟩ := P2.r
  obtain ⟨us', cs'⟩ := P2.s
  refine' setup_initial_ct (client := false) G (by walk_at "om") (O.deep (by decide)) r0 P2.pv cr' cs' P2.ne hcl ?_
  intro H8 h' n8 tk' hn8 o8 k8 pv8 cr8 cs8 r1
  clear r0
  have B8 := B7.side1 (o8.mono (fun _ m => .tail _ m)) k8 ⟨pv8, cr8.cs, cs8.cs, P2.ne⟩
  have esd8 := esl_of hls B8.sd
  clear pe5 pe6 P2 B7 esd7 pv7 cr7 cs7 pv8 cr8 cs8 cr cs cr' cs' o7 k7 o8 k8
  have bn8 := r1.bnd
  walk_at "21"
  rename RC _ _ _ _ _ _ => r0
  refine' first_ct (label := clL) G (by walk_at "om") (O.deep (by decide)) r0 hcl (by decide) ?_
  intro tf1 h' n9 tk' hn9 r1
  clear r0
  walk_at "12"
  rename RC _ _ _ _ _ _ => r0
  refine' first_ct (label := svL) G (by walk_at "om") (O.deep (by decide)) r0 hcl (by decide) ?_
  intro tf2 h' n10 tk' hn10 r1
  clear r0
  walk_at "4"
  rename RC _ _ _ _ _ _ => r0
  refine' RC.new2 bn8 r0 (by walk_at "om") (by walk_at "om") ?_
  clear r0
  intro H9 le9 esl etp r0
  obtain ⟨sl, rfl, esl⟩ := sd_ex esl
  have B9 := B8.le le9
  have nsl : n ≤ sl := by walk_at "om"
  clear B8 esd8 bn8 le9
  refine' r_unpackItems r0 O.hd ?e ?hj ?_
  case e => exact RC.tup (by with_reducible assumption) (by walk_at "lk")
  case hj => exact rfl
  intro h' r1
  clear r0
  refine' assignInOrder_cons ?_
  refine' r_bindName ?_
  walk_at "16"
  rename RC _ _ _ _ _ _ => r0
  refine' take_ct G (by walk_at "om") (O.deep (by decide)) r0 B9.st (by decide) (by walk_at "om") ?_
  intro kd tkd x4 h' n11 tk' kd0 kd1 hn11 hs11 r1
  clear r0
  have B10 := B9.take hs11
  have esl10 := PH.set_at (x := x4) (a := a.st) (by walk_at "om") esl
  clear B9 esl etp
  generalize PH.set H9 a.st x4 = H10 at r1 B10 esl10 hs11
  have bn10 := r1.bnd
  have esd10 := esl_of hls B10.sd
  walk_at "8"
  split
  · rename_i hc
    have hkd := of_decide_eq_true hc
    walk_at "19"
    rename RC _ _ _ _ _ _ => r0
    refine' r_item_ints (ns := [4865, 4866, 4867]) r0 ?e ?hi kd0 (by walk_at "om") (by simp only [List.length_cons, List.length_nil]; walk_at "om") ?_
    case e => walk_at "lk"
    case hi => walk_at "intsare"
    intro tsu
    have hsu : Suite (([4865, 4866, 4867] : List Int).getD kd.toNat 0) := by
      obtain rfl | rfl | rfl : kd = 0 ∨ kd = 1 ∨ kd = 2 := by walk_at "om"
      · exact .inl rfl
      · exact .inr (.inl rfl)
      · exact .inr (.inr rfl)
    generalize ([4865, 4866, 4867] : List Int).getD kd.toNat 0 = suite at hsu ⊢
    refine' RC.drop1 (H1 := H10) r0 ?lle ?_
    case lle => walk_at "le"
    clear r0
    intro r0
    walk_at "9"
    refine if_int ?_
    intro usz tksz
    have hsz : 0 ≤ (if decide (kd = 1) = true then 48 else 32 : Int) ∧ (if decide (kd = 1) = true then 48 else 32 : Int) ≤ 48 := by split <;> decide
    generalize (if decide (kd = 1) = true then 48 else 32 : Int) = ssz at hsz ⊢
    obtain ⟨hsz0, hsz1⟩ := hsz
    walk_at "14"
    rename RC _ _ _ _ _ _ => r0
    refine' octets_ct G (by walk_at "om") (O.deep (by decide)) r0 B10.st hsz0 (by walk_at "om") (by walk_at "om") ?_
    intro s0 ts0 x5 h' n12 tk' hsl0 hn12 hs12 r1
    clear r0
    have B11 := B10.take hs12
    generalize PH.set H10 a.st x5 = H11 at r1 B11 hs12
    walk_at "10"
    rename RC _ _ _ _ _ _ => r0
    refine' octets_ct G (by walk_at "om") (O.deep (by decide)) r0 B11.st hsz0 (by walk_at "om") (by walk_at "om") ?_
    intro s1 ts1 x6 h' n13 tk' hsl1 hn13 hs13 r1
    clear r0
    have B12 := B11.take hs13
    generalize PH.set H11 a.st x6 = H12 at r1 B12 hs13
    have bn12 := r1.bnd
    clear B10 B11 esl10 bn10 esd10 hs11 hs12
    walk_at "13"
    rename RC _ _ _ _ _ _ => r0
    refine' RC.new3 bn12 r0 (by walk_at "om") (by walk_at "om") (by walk_at "om") ?_
    clear r0
    intro H13 le13 esl hit r0
    obtain ⟨sl2, rfl, esl⟩ := sd_ex esl
    obtain ⟨it, rfl, hit⟩ := sd_ex hit
    have B13 := B12.le le13
    have okA : SecOk 1 s0 := by show s0.length ≤ 100; walk_at "om"
    have okB : SecOk 1 s1 := by show s1.length ≤ 100; walk_at "om"
    clear B12 bn12 le13
    have itn : H it = none := bn0 it (by walk_at "om")
    refine' range_turns2 (N := 2) ?hh r0 hit (BInv H a (b + 1 + 1 + 1 + 1 + 1 + 1) suite version s0 s1 (inB version cid true) (inB version cid false) sl2 ts0 ts1) ?i0 ?turn ?fin ?hinv ?hk ?hl
    case hk => exact rfl
    case hl => exact rfl
    case hh => exact O.hd
    case i0 => exact ⟨B13, esl, rfl, rfl, ⟨_, rfl⟩, ⟨_, rfl⟩⟩
    case hinv =>
      rintro i H' H'' m' oo ⟨o, ho⟩ ⟨i1, i2, i3⟩
      exact ⟨i1.raw oo ho itn, raw_lst oo ho i2, i3⟩
    case turn =>
      rintro i H' m' n' h' tk' tk'' hi ⟨I, esl, i3, i4, ⟨_, i5⟩, ⟨_, i6⟩⟩ hn hit r1
      refine' q_abs ?_
      intro TQ hTQ
      clear r0
      have hi' : i = 0 ∨ i = 1 := by walk_at "om"
      rcases hi' with rfl | rfl
      · have PS := I.s0
        rw [csI_lo (by decide), csI_lo (by decide)] at PS
        have okS := okA
        have okR := okB
        refine' PairV.el PS.pv ?_
        intro tq1 pe1 pe2
        obtain ⟨_, _, _, _, _, _, cvS⟩ := CtxAt.cv PS.s
        obtain ⟨_, _, _, _, _, _, cvR⟩ := CtxAt.cv PS.r
        obtain ⟨ce1, ce2⟩ := id cvS
        have esd := esl_of hls I.sd
        walk_at "22"
        rename RC _ _ _ _ _ _ => r0
        refine' ctx_setup_ct (bb := 0) G (by walk_at "om") (O.deep (by decide)) r0 cvS hsu okS ?_
        intro H3 h' n' tk' hn7 o3 hC3 r1
        clear r0 pe1 pe2
        have k3 := cvS.kp o3
        have pV3 := PS.pv.keep o3 k3 (by simpa using PS.pv.neV cvS)
        have cR3 := CtxS.only PS.r o3 k3 (by simpa using PS.ne)
        have E3 := ES.side0 I (o3.mono (fun x m => by rw [List.mem_singleton.mp m]; simp)) k3 ⟨pV3, cR3, hC3.cs, PS.ne⟩
        have esl3 := only_lst o3 (dic1 cvS.2) esl
        have hit3 := o3 _ _ (by simpa using ne_of hit cvS.2 (fun q => nomatch q)) hit
        clear esd ce1 ce2
        have esd := esl_of hls E3.sd
        refine' PairV.el pV3 ?_
        intro tq1 pe1 pe2
        obtain ⟨_, _, _, _, _, _, cvR3⟩ := CtxAt.cv cR3
        obtain ⟨ce1, ce2⟩ := id cvR3
        walk_at "25"
        rename RC _ _ _ _ _ _ => r0
        refine' ctx_setup_ct (bb := 0) G (by walk_at "om") (O.deep (by decide)) r0 cvR3 hsu okR ?_
        intro H4 h' n' tk' hn8 o4 hC4 r1
        clear r0 pe1 pe2
        have k4 := cvR3.kp o4
        have pV4 := pV3.keep o4 k4 (by simpa using pV3.neV cvR3)
        have cS4 := CtxS.only hC3.cs o4 k4 (by simpa using Ne.symm PS.ne)
        have E4 := ES.side0 E3 (o4.mono (fun x m => by rw [List.mem_singleton.mp m]; simp)) k4 ⟨pV4, hC4.cs, cS4, PS.ne⟩
        have esl4 := only_lst o4 (dic1 cvR3.2) esl3
        have hit4 := o4 _ _ (by simpa using ne_of hit3 cvR3.2 (fun q => nomatch q)) hit3
        walk_at "1"
        rename RC _ _ _ _ _ _ => r0
        refine hTQ _ _ (turn_next r0 (by walk_at "om") hit4 ⟨?_, esl4, i3, i4, ⟨_, i5⟩, ⟨_, i6⟩⟩)
        rw [csI_lo (by decide), csI_lo (by decide)] at E4
        rw [csI_hi (by decide), csI_hi (by decide), csI_lo (by decide), csI_lo (by decide)]
        exact E4
      · have PS := I.s1
        rw [csI_lo (by decide), csI_lo (by decide)] at PS
        have okS := okB
        have okR := okA
        refine' PairV.el PS.pv ?_
        intro tq1 pe1 pe2
        obtain ⟨_, _, _, _, _, _, cvS⟩ := CtxAt.cv PS.s
        obtain ⟨_, _, _, _, _, _, cvR⟩ := CtxAt.cv PS.r
        obtain ⟨ce1, ce2⟩ := id cvS
        have esd := esl_of hls I.sd
        walk_at "22"
        rename RC _ _ _ _ _ _ => r0
        refine' ctx_setup_ct (bb := 0) G (by walk_at "om") (O.deep (by decide)) r0 cvS hsu okS ?_
        intro H3 h' n' tk' hn7 o3 hC3 r1
        clear r0 pe1 pe2
        have k3 := cvS.kp o3
        have pV3 := PS.pv.keep o3 k3 (by simpa using PS.pv.neV cvS)
        have cR3 := CtxS.only PS.r o3 k3 (by simpa using PS.ne)
        have E3 := ES.side1 I (o3.mono (fun x m => by rw [List.mem_singleton.mp m]; simp)) k3 ⟨pV3, cR3, hC3.cs, PS.ne⟩
        have esl3 := only_lst o3 (dic1 cvS.2) esl
        have hit3 := o3 _ _ (by simpa using ne_of hit cvS.2 (fun q => nomatch q)) hit
        clear esd ce1 ce2
        have esd := esl_of hls E3.sd
        refine' PairV.el pV3 ?_
        intro tq1 pe1 pe2
        obtain ⟨_, _, _, _, _, _, cvR3⟩ := CtxAt.cv cR3
        obtain ⟨ce1, ce2⟩ := id cvR3
        walk_at "25"
        rename RC _ _ _ _ _ _ => r0
        refine' ctx_setup_ct (bb := 0) G (by walk_at "om") (O.deep (by decide)) r0 cvR3 hsu okR ?_
        intro H4 h' n' tk' hn8 o4 hC4 r1
        clear r0 pe1 pe2
        have k4 := cvR3.kp o4
        have pV4 := pV3.keep o4 k4 (by simpa using pV3.neV cvR3)
        have cS4 := CtxS.only hC3.cs o4 k4 (by simpa using Ne.symm PS.ne)
        have E4 := ES.side1 E3 (o4.mono (fun x m => by rw [List.mem_singleton.mp m]; simp)) k4 ⟨pV4, hC4.cs, cS4, PS.ne⟩
        have esl4 := only_lst o4 (dic1 cvR3.2) esl3
        have hit4 := o4 _ _ (by simpa using ne_of hit3 cvR3.2 (fun q => nomatch q)) hit3
        walk_at "1"
        rename RC _ _ _ _ _ _ => r0
        refine hTQ _ _ (turn_next r0 (by walk_at "om") hit4 ⟨?_, esl4, i3, i4, ⟨_, i5⟩, ⟨_, i6⟩⟩)
        rw [csI_hi (by decide), csI_hi (by decide)] at E4
        rw [csI_hi (by decide), csI_hi (by decide), csI_hi (by decide), csI_hi (by decide)]
        exact E4
    case fin =>
      rintro H' m' n' h' tk' ⟨i1, i2, i3, i4, ⟨_, i5⟩, ⟨_, i6⟩⟩ hn r1
      clear r0
      have bnf := r1.bnd
      rw [csI_hi (by decide), csI_hi (by decide), csI_hi (by decide), csI_hi (by decide)] at i1
      walk_at "14"
      rename RC _ _ _ _ _ _ => r0
      refine k _ sl2 a version suite s0 s1 _ _ _ _ _ _ _ _ f1.symm f2.symm hsu okA okB (by walk_at "om") nsd (by walk_at "om") hnew hls (PH.set_self _ _ _) (PH.set_at (by walk_at "om") i2) ?_ r0.pop
      have i1' := i1.mono (b' := b + 6) (by omega)
      exact i1'.le (by walk_at "le")
  · walk_at "14"
    rename RC _ _ _ _ _ _ => r0
    refine k _ sl a version 4865 (inB version cid true) (inB version cid false) _ _ _ _ _ _ _ _ f1.symm f2.symm (.inl rfl) (inB_ok _ _ _) (inB_ok _ _ _) (by walk_at "om") nsd nsl hnew hls (PH.set_self _ _ _) (PH.set_at (by walk_at "om") esl10) ?_ r0.pop
    exact (B10.le (by walk_at "le")).mono (by omega)
end
section
variable {prog : Program} {w : World} {A : Around} {H0 h : Heap} {fs : List (Nat × Map)} {H : PH} {n : Nat} {L : Nat} {m : Map} {g : Array GenState} {d : Drawn} {tk : Nat} {os : OsState} {bb : Nat}
  {E : Value → Shared → Prop} {Q : Value → Shared → Prop}
open Pl
theorem P_isTrue_Compare1 {M : Model} {env : Env} {s : Shared} {l r : Expr} {op : CmpOp} {pos : Pos} {whole : Sem Value} {Q : Bool → Shared → Prop}
    (q : wpP M A (eval l env) (fun a s₁ => wpAny M A (eval r env) (fun b s₂ => wpAny M A (compareOp op a b) (fun c s₃ => wpAny M A (truthy c) Q E s₃) E s₂) E s₁) E s)
    (hm : behindInMarks op r = false := by with_unfolding_all rfl) : wpP M A (isTrue (.Compare l [op] [r] pos) env whole) Q E s := fun Γ p hΓ hc => by
  simp only [isTrue_Compare1, markedBehindIn_of_false hm, Sem.wp_bind', Sem.wp_holding, Sem.wp_cmd_standAt, Sem.wp_operate]
  exact Sem.wp_mono M Γ _ (fun a p₁ s₁ h₁ => Sem.wp_mono M Γ _ (fun b _ s₂ h₂ => Sem.wp_mono M Γ _ (fun c p₃ s₃ h₃ => h₃ Γ p₃ hΓ)
    (fun _ _ _ h' => h') _ _ (h₂ Γ _ hΓ)) (fun _ _ _ h' => h') _ _ (h₁ Γ p₁ hΓ)) (fun _ _ _ h' => h') _ _ (q Γ p hΓ hc)
theorem range_turns2G {x : Str} {px : Pos} {body : List Stmt} {cn : Str} {cs : Scope} {cl : List (Str × Addr)} {fr f : Option Addr} {cdv : Value} {it N : Nat} {Q : Flow → Shared → Prop} (hh : A.handled = none)
    (R : RC w.params H0 ((L, m) :: fs) H n h) (e : H it = some (.rng 0 N)) (Inv : Nat → PH → Map → Prop) (i0 : Inv 0 H m)
    (turn : ∀ i H' m' n' h' tk' tk'', i < N → Inv i H' m' → n ≤ n' → H' it = some (.rng (i + 1 : Nat) (N - (i + 1 : Nat))) → RC w.params H0 ((L, upd m' x (.int (i : Nat) tk'')) :: fs) H' n' h' →
      wpP (model prog w) A (execs body (envG cn cs L cl fr f cdv)) (Turn w.params H0 fs L it N n g d os Inv Q i) (fun _ _ => False) ⟨h', g, d, tk', os⟩)
    (fin : ∀ H' m' n' h' tk', Inv N H' m' → n ≤ n' → RC w.params H0 ((L, m') :: fs) H' n' h' → Q .next ⟨h', g, d, tk', os⟩)
    (hinv : ∀ i H' H'' m', Only [it] H' H'' → (∃ o, H' it = some (.raw o)) → Inv i H' m' → Inv i H'' m')
    (hk : cs.kind = .function) (hl : (envG cn cs L cl fr f cdv).kindOf x = some .local) :
    codeP (model prog w) A (.forLoop (.Name x px) (.ref it) body [] (envG cn cs L cl fr f cdv)) (fun r s' => match r with | .ok f => Q f s' | .error e => False) ⟨h, g, d, tk, os⟩ := by
  refine codeP_forLoop (TInv w.params H0 fs L it N n g d os Inv) ?_ (N + 1)
    ⟨0, H, m, n, h, tk, rfl, Nat.zero_le _, rfl, Nat.le_refl _, by rw [e]; simp, i0, R⟩
  intro k s q
  refine TInv.el q ?_
  clear q
  intro i H' m' n' h' tk' hki hi hn hit hI R'
  obtain ⟨o, ho, rfl⟩ := R'.obj hit
  by_cases hlt : i < N
  · refine P_any (with_size (wpAny_pyNext_range_item (s := ⟨h', g, d, tk', os⟩) (x := (i : Nat)) (left := (N : Int) - (i : Nat)) (step := 1) ho (by omega) fun h1 ho1 hs1 hsz => ?_))
    have R1 : RC w.params H0 ((L, m') :: fs) (H'.set it (.rng (i + 1 : Nat) (N - (i + 1 : Nat)))) n' h1 := by
      refine R'.put hit ho1 ?_ (fun b o hb e => (hs1.2 b hb).trans e) hsz
      show rngObj _ _ = rngObj _ _
      congr 1; omega
    refine P_any (wpAny_assign_Name (r_storeG R1 (fun h2 tk2 R2 => ?_) hk hl))
    refine P_mono (turn i _ m' n' h2 _ _ hlt (hinv i H' _ m' (Only.set _ (Only.refl _ _) (List.mem_singleton.mpr rfl)) ⟨_, hit⟩ hI) hn (PH.set_self _ _ _) R2) (fun f s3 q => ?_) fun _ _ x => x.elim
    have hk1 : k - 1 < k := by omega
    cases f with
    | next => exact ⟨k - 1, hk1, Turn.mk q hki hlt⟩
    | cont => exact ⟨k - 1, hk1, Turn.mk q hki hlt⟩
    | brk => exact q
    | ret v => exact q
  · have : i = N := by omega
    subst this
    refine P_any (with_size (wpAny_pyNext_range_end (s := ⟨h', g, d, tk', os⟩) (x := (i : Nat)) (left := (i : Int) - (i : Nat)) (step := 1) hh ho (by omega) fun h1 hs1 hsz => ?_))
    refine P_any (wpAny_execs_nil ?_)
    exact fin (H'.del it) m' n' h1 _ (hinv i H' _ m' (PH.del_only _ _) ⟨_, hit⟩ hI) hn (R'.del hit hs1 hsz)
section
variable {Hb H' H'' H2 : PH} {a : Ad} {b b' : Int} {q0 q1 q' q0' q1' : Bool} {R0 S0 R1 S1 R0' S0' R1' S1' : CS} {z : AO}
theorem Side.nimm {p pd rc rcd sc scd : Nat} {ask : Bool} {RR SS : CS} (s : Side H' p pd rc rcd sc scd ask RR SS) : ∀ q ∈ [pd, rcd, scd], ∀ z, H' q = some z → ¬ Imm z := by
  obtain ⟨_, _, e1⟩ := s.pv
  obtain ⟨_, _, _, _, _, _, _, e2⟩ := s.r.cv
  obtain ⟨_, _, _, _, _, _, _, e3⟩ := s.s.cv
  intro q hq z e
  simp only [List.mem_cons, List.not_mem_nil, or_false] at hq
  rcases hq with rfl | rfl | rfl
  · rw [e1] at e; cases e; exact nimm_pair
  · rw [e2.2] at e; cases e; exact nimm_ctx
  · rw [e3.2] at e; cases e; exact nimm_ctx
theorem ES.rebase (B : ES Hb H' a b q0 q1 R0 S0 R1 S1) : ES H' H' a b q0 q1 R0 S0 R1 S1 := by
  refine { B with o := Only.refl _ _, k := KeepI.refl _, nb := ?_ }
  intro q hq z e
  simp only [Ad.S, List.mem_cons, List.not_mem_nil, or_false] at hq
  rcases hq with rfl | rfl | rfl | rfl | rfl | rfl | rfl
  · obtain ⟨v, ev⟩ := B.st.ex1
    rw [ev] at e; cases e; exact nimm_lst
  · exact B.s0.nimm _ (by simp) z e
  · exact B.s0.nimm _ (by simp) z e
  · exact B.s0.nimm _ (by simp) z e
  · exact B.s1.nimm _ (by simp) z e
  · exact B.s1.nimm _ (by simp) z e
  · exact B.s1.nimm _ (by simp) z e
theorem ES.kx (B0 : ES H' H' a b q0 q1 R0 S0 R1 S1) (B : ES H' H2 a b' q0' q1' R0' S0' R1' S1') {q : Nat} {x : AO} (e : H' q = some x) (hx : ∀ l, x ≠ .dic l) (hn : NE q a.st) : H2 q = some x := by
  obtain ⟨n1, n2, n3⟩ := B0.s0.lst_ne e hx
  obtain ⟨n4, n5, n6⟩ := B0.s1.lst_ne e hx
  refine B.o q x ?_ e
  simp only [Ad.S, List.mem_cons, List.not_mem_nil, or_false, not_or]
  exact ⟨hn, Ne.symm n1, Ne.symm n2, Ne.symm n3, Ne.symm n4, Ne.symm n5, Ne.symm n6⟩
theorem ES.kl (B0 : ES H' H' a b q0 q1 R0 S0 R1 S1) (B : ES H' H2 a b' q0' q1' R0' S0' R1' S1') {q : Nat} {vs : List Value} (e : H' q = some (.lst vs)) (hn : NE q a.st) : H2 q = some (.lst vs) := B0.kx B e (fun _ q => nomatch q) hn
theorem ES.kc (B0 : ES H' H' a b q0 q1 R0 S0 R1 S1) (B : ES H' H2 a b' q0' q1' R0' S0' R1' S1') {q : Nat} {v : Option Value} (e : H' q = some (CE v)) : H2 q = some (CE v) := by
  refine B0.kx B e (fun _ q => nomatch (show AO.prp _ = AO.dic _ from q)) ?_
  obtain ⟨v, ev⟩ := B0.st.ex1
  exact ne_of e ev (fun q => nomatch (show AO.prp _ = AO.lst _ from q))
theorem ES.draw {X : Prop} {H1 : PH} (B : ES Hb H1 a b q0 q1 R0 S0 R1 S1) (l : H1.le H2) (R : RC w.params H0 fs (H2.set a.st z) n h) (hs : StC (H2.set a.st z) a.st a.cl b')
    (k : ∀ H', (∀ q x, q ≠ a.st → H2 q = some x → H' q = some x) → ES Hb H' a b' q0 q1 R0 S0 R1 S1 → RC w.params H0 fs H' n h → X) : X :=
  k _ (fun q x hn e => PH.set_at hn e) ((B.le l).take hs) R
end
noncomputable def Ad.swap (a : Ad) : Ad := ⟨a.st, a.cl, a.sd, a.p', a.pd', a.rc', a.rcd', a.sc', a.scd', a.p, a.pd, a.rc, a.rcd, a.sc, a.scd, a.ls⟩
theorem ES.swap {Hb H' : PH} {a : Ad} {b : Int} {q0 q1 : Bool} {R0 S0 R1 S1 : CS} (B : ES Hb H' a b q0 q1 R0 S0 R1 S1) : ES Hb H' a.swap b q1 q0 R1 S1 R0 S0 := by
  have hS : ∀ q, q ∈ a.swap.S ↔ q ∈ a.S := by
    intro q
    simp only [Ad.S, Ad.swap, List.mem_cons, List.not_mem_nil, or_false]
    constructor <;> (rintro (h | h | h | h | h | h | h) <;> simp [h])
  exact { st := B.st, sd := B.sd, s0 := B.s1, s1 := B.s0, f1 := B.f1, f2 := B.f2, j := fun q m m' => B.j q m' m, o := B.o.mono (fun q m => (hS q).mpr m), k := B.k, nb := fun q m => B.nb q ((hS q).mp m) }
noncomputable def sel {α : Type} (v : Int) (x y : α) : α := if v = 0 then x else y
theorem sel_get {α : Type} {v : Int} (h0 : 0 ≤ v) (h1 : v < 2) (x y : α) : [x, y][v.toNat]? = some (sel v x y) ∧ [x, y][(1 - v).toNat]? = some (sel v y x) := by
  obtain rfl | rfl : v = 0 ∨ v = 1 := by omega
  · exact ⟨rfl, rfl⟩
  · exact ⟨rfl, rfl⟩
theorem ES.pick {Hb H' : PH} {a : Ad} {b : Int} {q0 q1 : Bool} {R0 S0 R1 S1 : CS} (v : Int) (B : ES Hb H' a b q0 q1 R0 S0 R1 S1) : ES Hb H' (sel v a a.swap) b (sel v q0 q1) (sel v q1 q0) (sel v R0 R1) (sel v S0 S1) (sel v R1 R0) (sel v S1 S0) := by
  unfold sel
  split
  · exact B
  · exact B.swap
theorem ES.back {Hb H' : PH} {a : Ad} {b : Int} {q0 q1 : Bool} {R0 S0 R1 S1 : CS} {v : Int} (B : ES Hb H' (sel v a a.swap) b (sel v q0 q1) (sel v q1 q0) (sel v R0 R1) (sel v S0 S1) (sel v R1 R0) (sel v S1 S0)) : ES Hb H' a b q0 q1 R0 S0 R1 S1 := by
  unfold sel at B
  split at B
  · exact B
  · exact B.swap
noncomputable def secN (suite version : Int) (s : List UInt8) : Nat → List UInt8
  | 0 => s
  | c + 1 => nextB suite version (secN suite version s c)
theorem secN_len {suite version : Int} {s : List UInt8} (h : s.length ≤ 100) : ∀ c, (secN suite version s c).length ≤ 100
  | 0 => h
  | c + 1 => by
    show (nextB _ _ _).length ≤ 100
    rw [nextB_length]
    have := algI_le suite
    omega
noncomputable def RowIs (H : PH) (suite version : Int) (q : Nat) (s : List UInt8) (c : Nat) : Prop :=
  ∃ vs t0 tc, H q = some (.lst vs) ∧ vs.length = c + 1 ∧ vs[0]? = some (.bytes s.toArray t0) ∧ vs[c]? = some (.bytes (secN suite version s c).toArray tc)
theorem RowIs.only {S : List Nat} {H' H'' : PH} {suite version : Int} {q c : Nat} {s : List UInt8} (w : RowIs H' suite version q s c) (o : Only S H' H'') (hn : q ∉ S) : RowIs H'' suite version q s c := by
  obtain ⟨vs, t0, tc, e, r⟩ := w
  exact ⟨vs, t0, tc, o _ _ hn e, r⟩
theorem RowIs.le {H' H'' : PH} {suite version : Int} {q c : Nat} {s : List UInt8} (w : RowIs H' suite version q s c) (l : H'.le H'') : RowIs H'' suite version q s c := w.only (S := []) (fun a x _ e => l a x e) List.not_mem_nil
theorem RowIs.next {H' : PH} {suite version : Int} {r c : Nat} {s : List UInt8} {vs : List Value} {t0 t : Tok} (hl : vs.length = c + 1) (h0 : vs[0]? = some (.bytes s.toArray t0)) (e : H' r = some (.lst (vs ++ [.bytes (nextB suite version (secN suite version s c)).toArray t]))) : RowIs H' suite version r s (c + 1) := by
  refine ⟨_, t0, t, e, by simp [hl], ?_, ?_⟩
  · rw [List.getElem?_append_left (by omega)]; exact h0
  · rw [List.getElem?_append_right (by omega), hl]; simp; rfl
noncomputable def RInv (suite version : Int) (s0 s1 : List UInt8) (c n0 : Nat) (D i : Nat) (vs : List Value) (H : PH) : Prop :=
  vs.length = i ∧ ∀ j, j < i → ∃ r, vs[j]? = some (.ref r) ∧ n0 ≤ r ∧ r ≠ D ∧ RowIs H suite version r (if j = 0 then s0 else s1) c
theorem RInv.stab {suite version : Int} {s0 s1 : List UInt8} {c n0 D i I : Nat} {vs : List Value} {H' H'' : PH} {p : Obj → Prop} (v : RInv suite version s0 s1 c n0 D i vs H') (o : Only [I, D] H' H'') (e : H' I = some (.prp p)) : RInv suite version s0 s1 c n0 D i vs H'' := by
  refine ⟨v.1, fun j hj => ?_⟩
  obtain ⟨r, h1, h2, h3, h4⟩ := v.2 j hj
  refine ⟨r, h1, h2, h3, h4.only o ?_⟩
  obtain ⟨ws, _, _, er, _⟩ := h4
  simp only [List.mem_cons, List.not_mem_nil, or_false, not_or]
  exact ⟨ne_of er e (fun q => nomatch q), h3⟩
theorem RInv.snoc {suite version : Int} {s0 s1 : List UInt8} {c n0 D i r : Nat} {vs : List Value} {H' H'' : PH} (v : RInv suite version s0 s1 c n0 D i vs H') (l : H'.le H'') (h1 : n0 ≤ r) (h2 : r ≠ D) (w : RowIs H'' suite version r (if i = 0 then s0 else s1) c) : RInv suite version s0 s1 c n0 D (i + 1) (vs ++ [.ref r]) H'' := by
  refine ⟨by simp [v.1], fun j hj => ?_⟩
  by_cases q : j < i
  · obtain ⟨r', a1, a2, a3, a4⟩ := v.2 j q
    exact ⟨r', by rw [List.getElem?_append_left (by rw [v.1]; exact q)]; exact a1, a2, a3, a4.le l⟩
  · have : j = i := by omega
    subst this
    exact ⟨r, by rw [List.getElem?_append_right (by rw [v.1]; omega), v.1]; simp, h1, h2, w⟩
theorem two_of {α : Type} : ∀ {l : List α}, l.length = 2 → ∃ x y, l = [x, y]
  | [x, y], _ => ⟨x, y, rfl⟩
theorem RInv.two {suite version : Int} {s0 s1 : List UInt8} {c n0 D : Nat} {vs : List Value} {H' : PH} (v : RInv suite version s0 s1 c n0 D 2 vs H') : ∃ r0 r1, vs = [.ref r0, .ref r1] ∧ n0 ≤ r0 ∧ n0 ≤ r1 ∧ RowIs H' suite version r0 s0 c ∧ RowIs H' suite version r1 s1 c := by
  obtain ⟨hl, hv⟩ := v
  obtain ⟨r0, a1, a2, a3, a4⟩ := hv 0 (by decide)
  obtain ⟨r1, b1, b2, b3, b4⟩ := hv 1 (by decide)
  obtain ⟨x, y, rfl⟩ := two_of hl
  cases a1
  cases b1
  exact ⟨r0, r1, rfl, a2, b2, a4, b4⟩
theorem sel_p (a : Ad) {v : Int} (h0 : 0 ≤ v) (h1 : v < 2) : [Value.ref a.p, .ref a.p'][v.toNat]? = some (.ref (sel v a a.swap).p) ∧ [Value.ref a.p, .ref a.p'][(1 - v).toNat]? = some (.ref (sel v a a.swap).p') ∧ (sel v a a.swap).st = a.st ∧ (sel v a a.swap).cl = a.cl ∧ (sel v a a.swap).sd = a.sd := by
  obtain rfl | rfl : v = 0 ∨ v = 1 := by omega
  · exact ⟨rfl, rfl, rfl, rfl, rfl⟩
  · exact ⟨rfl, rfl, rfl, rfl, rfl⟩
structure PkOk (ph text : List UInt8) (size num : Nat) (long : Bool) (c : Nat) : Prop where
  s1 : 1 ≤ size
  s4 : size ≤ 4
  hsz : szOf ph = size
  h1 : size < ph.length
  hl : ph.length < 256
  tl : text.length < 256
  t4 : 4 ≤ text.length + size
  nm : num < 2 ^ 62
  tr : beI (ph.drop (ph.length - size)) = num % 256 ^ size
  ph' : if long = true then 128 ≤ (ph.getD 0 0).toNat else ¬ 128 ≤ (ph.getD 0 0).toNat ∧ phaseI (ph.getD 0 0) = ((c % 2 : Nat) : Int)
noncomputable def pkB (suite version : Int) (secF secL ph text : List UInt8) (num : Nat) : List UInt8 :=
  applyB (hname suite) (hpB suite version secF) ph (sealB (aname suite) (keyB suite version secL) (nonceB (ivB suite version secL) (num : Int)) text ph)
section
variable {suite version : Int} {secF secL ph text : List UInt8} {size num c c' e : Nat} {long : Bool}
theorem pk_len (r : PkOk ph text size num long c) : (pkB suite version secF secL ph text num).length = ph.length + (text.length + 16) := by
  unfold pkB; rw [apply_length, sealB_length]
theorem pk_hdr (r : PkOk ph text size num long c) : dHdr suite (hpB suite version secF) (pkB suite version secF secL ph text num) (ph.length - size) = ph := by
  unfold dHdr pkB
  rw [← r.hsz]
  exact hdr_same (by rw [r.hsz]; exact r.h1)
theorem pk_fb (r : PkOk ph text size num long c) : dFb suite (hpB suite version secF) (pkB suite version secF secL ph text num) (ph.length - size) = ph.getD 0 0 := by
  unfold dFb; rw [pk_hdr r]; rfl
theorem pk_num (r : PkOk ph text size num long c) (ha : e ≤ num + 2) (hb : num ≤ e + 2) : dNum suite (hpB suite version secF) (pkB suite version secF secL ph text num) (ph.length - size) (e : Int) = num := by
  unfold dNum
  have ht : unTrunc (hname suite) (hpB suite version secF) (pkB suite version secF secL ph text num) (ph.length - size) = num % 256 ^ size := by
    rw [← r.tr]
    unfold pkB
    rw [← r.hsz]
    exact trunc_same (by rw [r.hsz]; exact r.h1)
  rw [ht, pk_fb r]
  have : ((((ph.getD 0 0).toNat % 4 : Nat) : Int) + 1) * 8 = ((size * 8 : Nat) : Int) := by have := r.hsz; unfold szOf at this; omega
  rw [this]
  exact decode_row r.s1 r.s4 r.nm ha hb
theorem pk_next (r : PkOk ph text size num long c) (hlong : long = true → c = c') : dNext suite (hpB suite version secF) (pkB suite version secF secL ph text num) (ph.length - size) ((c' % 2 : Nat) : Int) = decide (c % 2 ≠ c' % 2) := by
  unfold dNext
  rw [pk_fb r]
  have hp := r.ph'
  cases long with
  | true => rw [if_pos rfl] at hp; rw [decide_eq_true hp, hlong rfl]; simp
  | false =>
    rw [if_neg (by decide)] at hp
    rw [decide_eq_false hp.1, hp.2]
    show decide (((c % 2 : Nat) : Int) ≠ ((c' % 2 : Nat) : Int)) = decide (c % 2 ≠ c' % 2)
    by_cases q : c % 2 = c' % 2
    · rw [q]; simp
    · rw [decide_eq_true (by omega), decide_eq_true q]
end
theorem u8F {F : Nat} (h : F < 256) : (F.toUInt8).toNat = F := by
  show (UInt8.ofNat F).toNat = F
  rw [UInt8.toNat_ofNat']; exact Nat.mod_eq_of_lt h
theorem phase_F {F : Nat} (h : F < 256) : phaseI F.toUInt8 = ((F / 4 % 2 : Nat) : Int) := by
  have key : ∀ x : Fin 256, phaseI (x.val.toUInt8) = ((x.val / 4 % 2 : Nat) : Int) := by decide +kernel
  exact key ⟨F, h⟩
theorem pk_ok {F sz nu c : Nat} {mid text : List UInt8} {lg : Bool} (hF : F < 256) (h4 : F % 4 + 1 = sz) (hL : if lg = true then 128 ≤ F else ¬ 128 ≤ F ∧ F / 4 % 2 = c % 2) (hm : mid.length ≤ 20) (t1 : 4 ≤ text.length + sz) (t2 : text.length ≤ 40) (hn : nu < 2 ^ 62) :
    PkOk ([F.toUInt8] ++ mid ++ toBE sz (nu % 256 ^ sz)) text sz nu lg c := by
  have g0 : ([F.toUInt8] ++ mid ++ toBE sz (nu % 256 ^ sz)).getD 0 0 = F.toUInt8 := rfl
  have hl : ([F.toUInt8] ++ mid ++ toBE sz (nu % 256 ^ sz)).length = 1 + mid.length + sz := by simp only [List.length_append, toBE_length, List.length_cons, List.length_nil]
  refine ⟨by omega, by omega, ?_, by omega, by omega, by omega, t1, hn, ?_, ?_⟩
  · unfold szOf; rw [g0, u8F hF]; exact h4
  · rw [hl, show 1 + mid.length + sz - sz = ([F.toUInt8] ++ mid).length by (simp only [List.length_append, List.length_cons, List.length_nil]; omega), List.drop_left' rfl]
    exact beI_toBE _ _ (Nat.mod_lt _ (Nat.pow_pos (by decide)))
  · rw [g0, u8F hF, phase_F hF]
    cases lg with
    | true => exact hL
    | false => exact ⟨hL.1, by rw [hL.2]⟩
end
section
variable {prog : Program} {w : World} {A : Around} {H0 h : Heap} {fs : List (Nat × Map)} {H : PH} {n : Nat} {L : Nat} {m : Map} {g : Array GenState} {d : Drawn} {tk : Nat} {os : OsState} {bb : Nat}
  {E : Value → Shared → Prop} {Q : Value → Shared → Prop}
open Pl
noncomputable def CO (suite version : Int) (c : Nat) (s : List UInt8) : CS := .on suite version ((c % 2 : Nat) : Int) (secN suite version s c) (hpB suite version s)
theorem COat {H : PH} {c cd : Nat} {suite version : Int} {k : Nat} {s : List UInt8} (h : CtxS H c cd (CO suite version k s)) : CtxAt H c cd suite version ((k % 2 : Nat) : Int) (secN suite version s k) (hpB suite version s) := h
theorem updU_kp (c : Nat) (U : Bool) : (if U = true then flipI ((c % 2 : Nat) : Int) else ((c % 2 : Nat) : Int)) = (((c + U.toNat) % 2 : Nat) : Int) := by
  cases U with
  | true => rw [if_pos rfl, flip_mod]; rfl
  | false => rw [if_neg (by decide)]; rfl
theorem updU_sec {suite version : Int} {s : List UInt8} (c : Nat) (U : Bool) : (if U = true then nextB suite version (secN suite version s c) else secN suite version s c) = secN suite version s (c + U.toNat) := by
  cases U <;> rfl
theorem hp_in {suite version : Int} {s : List UInt8} (h : s.length ≤ 100) : 6 ≤ (hpB suite version s).length ∧ (hpB suite version s).length < 256 := by
  have e := hpB_length (b := 0) (suite := suite) (version := version) (secret := s) h
  have := keySize_in suite
  omega
theorem pk_noncA {suite version : Int} {s : List UInt8} {num : Nat} (h : num < 2 ^ 62) : NonceOk (ivB suite version s) (num : Int) :=
  nonce_ok (expandB_length (by decide)) (Nat.lt_of_lt_of_le h (by decide))
theorem pk_open {suite version : Int} {secF secL ph text : List UInt8} {size num c : Nat} {long : Bool} (r : PkOk ph text size num long c) :
    openB (aname suite) (keyB suite version secL) (nonceB (ivB suite version secL) (num : Int)) ((pkB suite version secF secL ph text num).drop ph.length) ph = some text := by
  unfold pkB
  rw [apply_drop (by rw [r.hsz]; exact r.h1)]
  exact open_self _ _ _ _ _
section
variable {p pd rc rcd sc scd c size num e : Nat} {U long : Bool} {suite version : Int} {sO sT ph text : List UInt8} {t1 t2 t3 : Tok}
theorem SideU {H : PH} (pv : PairV H p pd rc sc false) (hr : CtxAt H rc rcd suite version (if U = true then flipI ((c % 2 : Nat) : Int) else ((c % 2 : Nat) : Int)) (if U = true then nextB suite version (secN suite version sT c) else secN suite version sT c) (hpB suite version sT))
    (hs : CtxAt H sc scd suite version (if U = true then flipI ((c % 2 : Nat) : Int) else ((c % 2 : Nat) : Int)) (if U = true then nextB suite version (secN suite version sO c) else secN suite version sO c) (hpB suite version sO)) (hne : rcd ≠ scd) :
    Side H p pd rc rcd sc scd false (CO suite version (c + U.toNat) sT) (CO suite version (c + U.toNat) sO) := by
  rw [updU_kp, updU_sec] at hr hs
  exact ⟨pv, hr, hs, hne⟩
theorem enc_law_ct
    (G : Gd (KK w.params) H0) (hz : H0.objs.size ≤ n) (O : Ok A 13) (R : RC w.params H0 fs H n h) (S : Side H p pd rc rcd sc scd U (CO suite version c sT) (CO suite version c sO))
    (hs : Suite suite) (lO : sO.length ≤ 100) (lT : sT.length ≤ 100) (ok : PkOk ph text size num long (c + U.toNat))
    (k : ∀ t H' h' n' tk', n ≤ n' → Only [pd, rcd, scd] H H' → KeepI H H' → Side H' p pd rc rcd sc scd false (CO suite version (c + U.toNat) sT) (CO suite version (c + U.toNat) sO) → RC w.params H0 fs H' n' h' →
      Q (.bytes (pkB suite version sO (secN suite version sO (c + U.toNat)) ph text num).toArray t) ⟨h', g, d, tk', os⟩) :
    wpP (model prog w) A (call (.ref 311) [.ref p, .bytes ph.toArray t1, .bytes text.toArray t2, .int (num : Nat) t3]) Q E ⟨h, g, d, tk, os⟩ := by
  have l6 : (ph.getD 0 0).toNat % 4 + 1 ≤ ph.length := by
    have h1 := ok.hsz
    have h2 := ok.h1
    unfold szOf at h1
    omega
  refine' pair_enc_ct (bb := 0) G hz O R S.pv S.r S.s S.ne hs (secN_len lT c) (secN_len lO c) (hp_in lO).1 (hp_in lO).2 (fun s => pk_noncA ok.nm) ok.hl l6 ok.tl ?_
  intro t H' h' n' tk' hn oo kk pv hr hsd r
  have := k t H' h' n' tk' hn oo kk (SideU pv hr hsd S.ne) r
  rw [← updU_sec] at this
  exact this
theorem dec_law_ct
    (G : Gd (KK w.params) H0) (hz : H0.objs.size ≤ n) (O : Ok A 13) (R : RC w.params H0 fs H n h) (S : Side H p pd rc rcd sc scd false (CO suite version c sO) (CO suite version c sT))
    (hs : Suite suite) (lO : sO.length ≤ 100) (lT : sT.length ≤ 100) (ok : PkOk ph text size num long (c + U.toNat)) (hlong : long = true → c + U.toNat = 0) (ha : e ≤ num + 2) (hb : num ≤ e + 2)
    (k : ∀ (a : Nat) u1 u2 u3 H' h' n' tk', n ≤ n' → Only [pd, rcd, scd] H H' → KeepI H H' → Side H' p pd rc rcd sc scd false (CO suite version (c + U.toNat) sO) (CO suite version (c + U.toNat) sT) →
      H' a = some (.tup [.bytes ph.toArray u1, .bytes text.toArray u2, .int (num : Nat) u3]) → RC w.params H0 fs H' n' h' → Q (.ref a) ⟨h', g, d, tk', os⟩) :
    wpP (model prog w) A (call (.ref 304) [.ref p, .bytes (pkB suite version sO (secN suite version sO (c + U.toNat)) ph text num).toArray t1, .int ((ph.length - size : Nat) : Nat) t2, .int (e : Nat) t3]) Q E ⟨h, g, d, tk, os⟩ := by
  have hN : dNext suite (hpB suite version sO) (pkB suite version sO (secN suite version sO (c + U.toNat)) ph text num) (ph.length - size) ((c % 2 : Nat) : Int) = U := by
    rw [pk_next (c' := c) ok (fun q => by have := hlong q; omega)]
    cases U with
    | true => exact decide_eq_true (by show (c + 1) % 2 ≠ c % 2; omega)
    | false => exact decide_eq_false (fun q => q rfl)
  have eH := pk_hdr (suite := suite) (version := version) (secF := sO) (secL := secN suite version sO (c + U.toNat)) ok
  have eNm := pk_num (suite := suite) (version := version) (secF := sO) (secL := secN suite version sO (c + U.toNat)) ok ha hb
  have eL := pk_len (suite := suite) (version := version) (secF := sO) (secL := secN suite version sO (c + U.toNat)) ok
  have b1 := ok.h1
  have b2 := ok.hl
  have b3 := ok.tl
  have b4 := ok.t4
  have eS : dSec suite version (hpB suite version sO) (pkB suite version sO (secN suite version sO (c + U.toNat)) ph text num) (ph.length - size) ((c % 2 : Nat) : Int) (secN suite version sO c) = secN suite version sO (c + U.toNat) := by
    unfold dSec
    rw [hN, updU_sec]
  refine' pair_dec_ok_ct (bb := 0) (ask := false) (N := U) (y := text) G hz O R S.pv S.r S.s S.ne hs (secN_len lO c) (secN_len lT c) (hp_in lO).1 (hp_in lO).2 (by rw [eL]; omega) (by rw [eL]; omega) (by rw [eH]; exact b2) (fun s => by rw [eNm]; exact pk_noncA ok.nm) hN ?_ ?_
  · rw [eS, eNm, eH]; exact pk_open ok
  · intro a u1 u2 u3 H' h' n' tk' hn oo kk pv hr hsd ht r
    rw [eH, eNm] at ht
    rw [ite_self] at pv
    exact k a u1 u2 u3 H' h' n' tk' hn oo kk (SideU pv hr hsd S.ne) ht r
end
theorem sel_CO (v : Int) {suite version : Int} {c : Nat} {x y : List UInt8} : sel v (CO suite version c x) (CO suite version c y) = CO suite version c (sel v x y) := by unfold sel; split <;> rfl
theorem sel_ref (v : Int) {x y : Nat} : sel v (Value.ref x) (.ref y) = .ref (sel v x y) := by unfold sel; split <;> rfl
theorem RowIs.sel {H : PH} {suite version : Int} {q0 q1 c : Nat} {s0 s1 : List UInt8} (v : Int) (w0 : RowIs H suite version q0 s0 c) (w1 : RowIs H suite version q1 s1 c) : RowIs H suite version (sel v q0 q1) (sel v s0 s1) c := by unfold Mine.sel; split <;> assumption
theorem RowIs.el {X : Prop} {H : PH} {suite version : Int} {q c : Nat} {s : List UInt8} (w : RowIs H suite version q s c)
    (k : ∀ vs t0 tc, H q = some (.lst vs) → vs.length = c + 1 → vs[0]? = some (.bytes s.toArray t0) → vs[c]? = some (.bytes (secN suite version s c).toArray tc) → X) : X :=
  let ⟨_, _, _, e1, e2, e3, e4⟩ := w; k _ _ _ e1 e2 e3 e4
theorem NE.sel {x y z : Nat} (v : Int) (a : NE x z) (b : NE y z) : NE (sel v x y) z := by unfold Mine.sel; split <;> assumption
theorem len_sel {x y : List UInt8} {m : Nat} (v : Int) (a : x.length ≤ m) (b : y.length ≤ m) : (sel v x y).length ≤ m := by unfold sel; split <;> assumption
theorem eL_of {vs : List Value} {c : Nat} {x : Value} (hl : vs.length = c + 1) (e : vs[c]? = some x) : vs[vs.length - 1]? = some x := by rw [hl]; exact e
theorem ne_dec {α : Type} [DecidableEq α] (x : α) : decide (x ≠ x) = false := decide_eq_false (fun q => q rfl)
end
section
variable {prog : Program} {w : World} {A : Around} {H0 h : Heap} {fs : List (Nat × Map)} {H : PH} {n : Nat} {L : Nat} {m : Map} {g : Array GenState} {d : Drawn} {tk : Nat} {os : OsState} {bb : Nat}
  {E : Value → Shared → Prop} {Q : Value → Shared → Prop}
open Pl
theorem ES.cell {H' : PH} {a : Ad} {b : Int} {q0 q1 : Bool} {R0 S0 R1 S1 : CS} {q : Nat} {ov v : Option Value} (B : ES H' H' a b q0 q1 R0 S0 R1 S1) (e : H' q = some (CE ov)) : ES (H'.set q (CE v)) (H'.set q (CE v)) a b q0 q1 R0 S0 R1 S1 := by
  obtain ⟨at_, t0, vs, cells, es, ec, _⟩ := id B.st
  have n1 := ne_of e es (fun q => nomatch (show AO.prp _ = AO.lst _ from q))
  have n2 := ne_of e ec (fun q => nomatch (show AO.prp _ = AO.lst _ from q))
  have n3 := ne_of e B.sd (fun q => nomatch (show AO.prp _ = AO.lst _ from q))
  have kk : KeepI H' (H'.set q (CE v)) := KeepI.set (KeepI.refl _) e nimm_prp
  have oo : Only [q] H' (H'.set q (CE v)) := Only.set _ (Only.refl _ _) (List.mem_singleton.mpr rfl)
  obtain ⟨m1, m2, m3⟩ := B.s0.lst_ne e (fun _ q => nomatch (show AO.prp _ = AO.dic _ from q))
  obtain ⟨m4, m5, m6⟩ := B.s1.lst_ne e (fun _ q => nomatch (show AO.prp _ = AO.dic _ from q))
  have C : ES H' (H'.set q (CE v)) a b q0 q1 R0 S0 R1 S1 → ES (H'.set q (CE v)) (H'.set q (CE v)) a b q0 q1 R0 S0 R1 S1 := ES.rebase
  have S0' := B.s0.keep oo kk (by simpa using m1) (by simpa using m2) (by simpa using m3)
  have S1' := B.s1.keep oo kk (by simpa using m4) (by simpa using m5) (by simpa using m6)
  refine { st := B.st.set n1 n2, sd := PH.set_at (Ne.symm n3) B.sd, s0 := S0', s1 := S1', f1 := B.f1, f2 := B.f2, j := B.j, o := Only.refl _ _, k := KeepI.refl _, nb := ?_ }
  intro x hx z ez
  simp only [Ad.S, List.mem_cons, List.not_mem_nil, or_false] at hx
  rcases hx with rfl | hx
  · rw [PH.set_at (Ne.symm n1) es] at ez; cases ez; exact nimm_lst
  · rcases hx with rfl | rfl | rfl | rfl | rfl | rfl
    · exact S0'.nimm _ (by simp) z ez
    · exact S0'.nimm _ (by simp) z ez
    · exact S0'.nimm _ (by simp) z ez
    · exact S1'.nimm _ (by simp) z ez
    · exact S1'.nimm _ (by simp) z ez
    · exact S1'.nimm _ (by simp) z ez
theorem RC.rows3 {X : Prop} {H2 : PH} {q0 q1 rl n2 : Nat} {x y z : AO} (b : Bnd H2 n2) (R : RC w.params H0 fs (((H2.set q0 x).set q1 y).set rl z) n h) (h0 : n2 ≤ q0) (h1 : q0 < q1) (h2 : q1 < rl)
    (k : ∀ H', H2.le H' → H' q0 = some x → H' q1 = some y → H' rl = some z → RC w.params H0 fs H' n h → X) : X :=
  k _ (PH.le_new (PH.le_new (PH.le_new (PH.le_refl _) (b q0 h0)) (b q1 (by omega))) (b rl (by omega))) (PH.set_at (by omega) (PH.set_at (Nat.ne_of_lt h1) (PH.set_self _ _ _))) (PH.set_at (by omega) (PH.set_self _ _ _)) (PH.set_self _ _ _) R
noncomputable def LInv (L : Nat) (a : Ad) (suite version : Int) (s0 s1 : List UInt8) (i : Nat) (H' : PH) (m' : Map) : Prop :=
  ∃ (c nm rl q0 q1 : Nat) (tn tv ts : Tok), c ≤ i ∧ nm ≤ 2 ^ 62 - 20 + 3 * i ∧ ES H' H' a (10 + 12 * i) false false (CO suite version c s1) (CO suite version c s0) (CO suite version c s0) (CO suite version c s1) ∧
    H' rl = some (.lst [.ref q0, .ref q1]) ∧ RowIs H' suite version q0 s0 c ∧ RowIs H' suite version q1 s1 c ∧ H' (L + 1) = some (CE (some (.int version tv))) ∧ H' (L + 2) = some (CE (some (.int suite ts))) ∧
    m' "rows" = some (.ref rl) ∧ m' "number" = some (.int (nm : Nat) tn) ∧ m' "state" = some (.ref a.st) ∧ m' "sides" = some (.ref a.sd) ∧ NE rl a.st ∧ NE q0 a.st ∧ NE q1 a.st
theorem ES.raw2 {H' H'' : PH} {a : Ad} {b : Int} {q0 q1 : Bool} {R0 S0 R1 S1 : CS} {it : Nat} {o : Obj} (h : ES H' H' a b q0 q1 R0 S0 R1 S1) (oo : Only [it] H' H'') (ho : H' it = some (.raw o)) : ES H'' H'' a b q0 q1 R0 S0 R1 S1 := by
  have st' := h.st.raw oo ho
  have S0' := h.s0.raw oo ho
  have S1' := h.s1.raw oo ho
  refine { st := st', sd := raw_lst oo ho h.sd, s0 := S0', s1 := S1', f1 := h.f1, f2 := h.f2, j := h.j, o := Only.refl _ _, k := KeepI.refl _, nb := ?_ }
  intro q hq z e
  simp only [Ad.S, List.mem_cons, List.not_mem_nil, or_false] at hq
  rcases hq with rfl | rfl | rfl | rfl | rfl | rfl | rfl
  · obtain ⟨v, ev⟩ := st'.ex1
    rw [ev] at e; cases e; exact nimm_lst
  · exact S0'.nimm _ (by simp) z e
  · exact S0'.nimm _ (by simp) z e
  · exact S0'.nimm _ (by simp) z e
  · exact S1'.nimm _ (by simp) z e
  · exact S1'.nimm _ (by simp) z e
  · exact S1'.nimm _ (by simp) z e
theorem raw_ce {H' H'' : PH} {it q : Nat} {o : Obj} {v : Option Value} (oo : Only [it] H' H'') (ho : H' it = some (.raw o)) (e : H' q = some (CE v)) : H'' q = some (CE v) :=
  oo q _ (by simpa using ne_of e ho (fun q => nomatch (show AO.prp _ = AO.raw _ from q))) e
theorem nm0_of (v : Int) (h0 : 0 ≤ v) (h1 : v < 4) : ∃ nm : Nat, ([0, 255, (2 : Int) ^ (Int.toNat 31), (2 : Int) ^ (Int.toNat 62) - 20] : List Int).getD v.toNat 0 = (nm : Int) ∧ nm ≤ 2 ^ 62 - 20 := by
  obtain rfl | rfl | rfl | rfl : v = 0 ∨ v = 1 ∨ v = 2 ∨ v = 3 := by omega
  · exact ⟨0, by decide, by decide⟩
  · exact ⟨255, by decide, by decide⟩
  · exact ⟨2 ^ 31, by decide, by decide⟩
  · exact ⟨2 ^ 62 - 20, by decide, by decide⟩
theorem Ok.mark0 {A : Around} {k : Nat} (O : Ok A k) : Ok (A.mark none) k := ⟨O.hd, O.dp, O.un⟩
noncomputable def LG (w : World) (H0 : Heap) (fs : List (Nat × Map)) (g : Array GenState) (d : Drawn) (os : OsState) (L : Nat) (a : Ad) (suite version : Int) (s0 s1 : List UInt8) (vo : Int) (U : Bool) (c : Nat) (b : Int) (nd : Nat) (Hd : PH) (mm : Map) (v : Value) (s' : Shared) : Prop :=
  ∃ (lg : Bool) (He : PH) (n' : Nat) (h' : Heap) (tk' : Nat), v = .bool lg ∧ (lg = true → c + U.toNat = 0) ∧ s' = ⟨h', g, d, tk', os⟩ ∧ nd ≤ n' ∧
    ES Hd He a b (sel vo U false) (sel vo false U) (CO suite version c s1) (CO suite version c s0) (CO suite version c s0) (CO suite version c s1) ∧ RC w.params H0 ((L, mm) :: fs) He n' h'
noncomputable def FG (w : World) (H0 : Heap) (fs : List (Nat × Map)) (g : Array GenState) (d : Drawn) (os : OsState) (L : Nat) (a : Ad) (suite version : Int) (s0 s1 : List UInt8) (vo : Int) (U : Bool) (c sz : Nat) (lg : Bool) (b : Int) (nd : Nat) (Hd : PH) (mm : Map) (v : Value) (s' : Shared) : Prop :=
  ∃ (F : Nat) (t : Tok) (He : PH) (n' : Nat) (h' : Heap) (tk' : Nat), v = .int (F : Nat) t ∧ F < 256 ∧ F % 4 + 1 = sz ∧ (if lg = true then 128 ≤ F else ¬ 128 ≤ F ∧ F / 4 % 2 = (c + U.toNat) % 2) ∧ s' = ⟨h', g, d, tk', os⟩ ∧ nd ≤ n' ∧
    ES Hd He a b (sel vo U false) (sel vo false U) (CO suite version c s1) (CO suite version c s0) (CO suite version c s0) (CO suite version c s1) ∧ RC w.params H0 ((L, mm) :: fs) He n' h'
theorem RC.nameM {X : Prop} {L : Nat} {m : Map} (R : RC w.params H0 ((L, m) :: fs) H n h) (k : ∀ m2, m2 = m → RC w.params H0 ((L, m2) :: fs) H n h → X) : X := k _ rfl R
theorem fm2 (x : Nat) : ((x : Nat) : Int).fmod 2 = ((x % 2 : Nat) : Int) := fmodC x 2
theorem neg_last {ws : List Value} {c : Nat} {x : Value} (hl : ws.length = c + 1) (e : ws[c]? = some x) : ws[((-1 : Int) + (ws.length : Int)).toNat]? = some x := by
  rw [hl, show ((-1 : Int) + ((c + 1 : Nat) : Int)).toNat = c by omega]; exact e
theorem sel_sel {α : Type} (v : Int) (x y : α) : sel v (sel v x y) (sel v y x) = x := by unfold sel; split <;> rfl
structure TF (L it : Nat) (a : Ad) (suite version : Int) (s0 s1 : List UInt8) (vo : Int) (i c nm rl q0 q1 N : Nat) (Hc : PH) (mm : Map) : Prop where
  rl' : Hc rl = some (.lst [.ref q0, .ref q1])
  w0 : RowIs Hc suite version q0 s0 c
  w1 : RowIs Hc suite version q1 s1 c
  e1 : ∃ t, Hc (L + 1) = some (CE (some (.int version t)))
  e2 : ∃ t, Hc (L + 2) = some (CE (some (.int suite t)))
  hit : Hc it = some (.rng (i + 1 : Nat) (N - (i + 1 : Nat)))
  m1 : mm "rows" = some (.ref rl)
  m2 : ∃ t, mm "number" = some (.int (nm : Nat) t)
  m3 : mm "state" = some (.ref a.st)
  m4 : mm "sides" = some (.ref a.sd)
  m5 : ∃ t, mm "one" = some (.int vo t)
  n1 : NE rl a.st
  n2 : NE q0 a.st
  n3 : NE q1 a.st
noncomputable def JJ (w : World) (H0 : Heap) (fs : List (Nat × Map)) (g : Array GenState) (d : Drawn) (os : OsState) (L it : Nat) (a : Ad) (suite version : Int) (s0 s1 : List UInt8) (vo : Int) (i c nm N na : Nat) (b : Int) (s' : Shared) : Prop :=
  ∃ (U : Bool) (rl q0 q1 n'' tk'' : Nat) (Hc : PH) (mm : Map) (h'' : Heap), s' = ⟨h'', g, d, tk'', os⟩ ∧ na ≤ n'' ∧
    ES Hc Hc a b (sel vo U false) (sel vo false U) (CO suite version c s1) (CO suite version c s0) (CO suite version c s0) (CO suite version c s1) ∧
    TF L it a suite version s0 s1 vo i (c + U.toNat) nm rl q0 q1 N Hc mm ∧ RC w.params H0 ((L, mm) :: fs) Hc n'' h''
theorem sel_same {α : Type} (v : Int) (x : α) : sel v x x = x := by unfold sel; split <;> rfl
structure Hid (p : Prop) : Prop where
  out : p
noncomputable def loopAt : List Stmt → List Stmt
  | _ :: _ :: _ :: _ :: .For _ _ b _ _ :: _ => b
  | _ => []
theorem withLoop {M : Model} {stmts : List Stmt} {env : Env} {Q : Flow → Shared → Prop} {s : Shared} (T : List Stmt → Env → Prop) (ht : T (loopAt stmts) env) (k : Hid (T (loopAt stmts) env) → wpP M A (execs stmts env) Q E s) : wpP M A (execs stmts env) Q E s := k ⟨ht⟩
theorem LInv.el {X : Prop} {L i : Nat} {a : Ad} {suite version : Int} {s0 s1 : List UInt8} {H' : PH} {m' : Map} (I : LInv L a suite version s0 s1 i H' m')
    (k : ∀ c nm rl q0 q1 tn tv ts ws0 ua ub ws1 uc ud, c ≤ i → nm ≤ 2 ^ 62 - 20 + 3 * i → ES H' H' a (10 + 12 * i) false false (CO suite version c s1) (CO suite version c s0) (CO suite version c s0) (CO suite version c s1) →
      H' rl = some (.lst [.ref q0, .ref q1]) → H' q0 = some (.lst ws0) → ws0.length = c + 1 → ws0[0]? = some (.bytes s0.toArray ua) → ws0[c]? = some (.bytes (secN suite version s0 c).toArray ub) →
      H' q1 = some (.lst ws1) → ws1.length = c + 1 → ws1[0]? = some (.bytes s1.toArray uc) → ws1[c]? = some (.bytes (secN suite version s1 c).toArray ud) →
      H' (L + 1) = some (CE (some (.int version tv))) → H' (L + 2) = some (CE (some (.int suite ts))) →
      m' "rows" = some (.ref rl) → m' "number" = some (.int (nm : Nat) tn) → m' "state" = some (.ref a.st) → m' "sides" = some (.ref a.sd) → NE rl a.st → NE q0 a.st → NE q1 a.st → NE (L + 1) a.st → NE (L + 2) a.st → X) : X := by
  obtain ⟨c, nm, rl, q0, q1, tn, tv, ts, h1, h2, h3, h4, ⟨v0, a1, a2, h5, r5, r6, r7⟩, ⟨v1, a3, a4, h6, r8, r9, r10⟩, h7, h8, m1, m2, m3, m4, n1, n2, n3⟩ := I
  obtain ⟨v, ev⟩ := h3.st.ex1
  exact k c nm rl q0 q1 tn tv ts v0 a1 a2 v1 a3 a4 h1 h2 h3 h4 h5 r5 r6 r7 h6 r8 r9 r10 h7 h8 m1 m2 m3 m4 n1 n2 n3 (ne_of h7 ev (fun q => nomatch (show AO.prp _ = AO.lst _ from q))) (ne_of h8 ev (fun q => nomatch (show AO.prp _ = AO.lst _ from q)))
theorem LInv.raw {L : Nat} {a : Ad} {suite version : Int} {s0 s1 : List UInt8} {i : Nat} {H' H'' : PH} {m' : Map} {it : Nat} {o : Obj} (oo : Only [it] H' H'') (ho : H' it = some (.raw o)) (I : LInv L a suite version s0 s1 i H' m') : LInv L a suite version s0 s1 i H'' m' := by
  refine LInv.el I ?_
  intro c nm rl q0 q1 tn tv ts v0 a1 a2 v1 a3 a4 h1 h2 h3 h4 h5 r5 r6 r7 h6 r8 r9 r10 h7 h8 m1 m2 m3 m4 n1 n2 n3 _ _
  exact ⟨c, nm, rl, q0, q1, tn, tv, ts, h1, h2, h3.raw2 oo ho, raw_lst oo ho h4, ⟨v0, a1, a2, raw_lst oo ho h5, r5, r6, r7⟩, ⟨v1, a3, a4, raw_lst oo ho h6, r8, r9, r10⟩, raw_ce oo ho h7, raw_ce oo ho h8, m1, m2, m3, m4, n1, n2, n3⟩
theorem TF.el {X : Prop} {L it : Nat} {a : Ad} {suite version : Int} {s0 s1 : List UInt8} {vo : Int} {i c nm rl q0 q1 N : Nat} {Hc : PH} {mm : Map} (T : TF L it a suite version s0 s1 vo i c nm rl q0 q1 N Hc mm)
    (k : ∀ ws0 ua ub ws1 uc ud tv ts tn to, Hc rl = some (.lst [.ref q0, .ref q1]) → Hc q0 = some (.lst ws0) → ws0.length = c + 1 → ws0[0]? = some (.bytes s0.toArray ua) → ws0[c]? = some (.bytes (secN suite version s0 c).toArray ub) →
      Hc q1 = some (.lst ws1) → ws1.length = c + 1 → ws1[0]? = some (.bytes s1.toArray uc) → ws1[c]? = some (.bytes (secN suite version s1 c).toArray ud) →
      Hc (L + 1) = some (CE (some (.int version tv))) → Hc (L + 2) = some (CE (some (.int suite ts))) → Hc it = some (.rng (i + 1 : Nat) (N - (i + 1 : Nat))) →
      mm "rows" = some (.ref rl) → mm "number" = some (.int (nm : Nat) tn) → mm "state" = some (.ref a.st) → mm "sides" = some (.ref a.sd) → mm "one" = some (.int vo to) → NE rl a.st → NE q0 a.st → NE q1 a.st → X) : X := by
  obtain ⟨h4, ⟨v0, a1, a2, h5, r5, r6, r7⟩, ⟨v1, a3, a4, h6, r8, r9, r10⟩, ⟨tv, h7⟩, ⟨ts, h8⟩, hit, m1, ⟨tn, m2⟩, m3, m4, ⟨to, m5⟩, n1, n2, n3⟩ := T
  exact k v0 a1 a2 v1 a3 a4 tv ts tn to h4 h5 r5 r6 r7 h6 r8 r9 r10 h7 h8 hit m1 m2 m3 m4 m5 n1 n2 n3
section
variable {L it : Nat} {a : Ad} {suite version : Int} {s0 s1 : List UInt8} {vo : Int} {i c nm N na sz nd : Nat} {b : Int} {U lg : Bool} {Hd : PH} {mm : Map}
theorem JJ.el {G : Shared → Prop} {s' : Shared} (q : JJ w H0 fs g d os L it a suite version s0 s1 vo i c nm N na b s')
    (k : ∀ (U : Bool) (rl q0 q1 n'' tk'' : Nat) (Hc : PH) (mm : Map) (h'' : Heap), na ≤ n'' → ES Hc Hc a b (sel vo U false) (sel vo false U) (CO suite version c s1) (CO suite version c s0) (CO suite version c s0) (CO suite version c s1) →
      TF L it a suite version s0 s1 vo i (c + U.toNat) nm rl q0 q1 N Hc mm → RC w.params H0 ((L, mm) :: fs) Hc n'' h'' → G ⟨h'', g, d, tk'', os⟩) : G s' := by
  obtain ⟨U, rl, q0, q1, n2, tk2, Hc, mm, h2, rfl, h1, h3, h4, h5⟩ := q
  exact k U rl q0 q1 n2 tk2 Hc mm h2 h1 h3 h4 h5
theorem LG.el {G : Value → Shared → Prop} {v : Value} {s' : Shared} (q : LG w H0 fs g d os L a suite version s0 s1 vo U c b nd Hd mm v s')
    (k : ∀ (lg : Bool) (He : PH) (n' : Nat) (h' : Heap) (tk' : Nat), (lg = true → c + U.toNat = 0) → nd ≤ n' → ES Hd He a b (sel vo U false) (sel vo false U) (CO suite version c s1) (CO suite version c s0) (CO suite version c s0) (CO suite version c s1) →
      RC w.params H0 ((L, mm) :: fs) He n' h' → G (.bool lg) ⟨h', g, d, tk', os⟩) : G v s' := by
  obtain ⟨lg, He, n', h', tk', rfl, h1, rfl, h2, h3, h4⟩ := q
  exact k lg He n' h' tk' h1 h2 h3 h4
theorem FG.el {G : Value → Shared → Prop} {v : Value} {s' : Shared} (q : FG w H0 fs g d os L a suite version s0 s1 vo U c sz lg b nd Hd mm v s')
    (k : ∀ (F : Nat) (t : Tok) (He : PH) (n' : Nat) (h' : Heap) (tk' : Nat), F < 256 → F % 4 + 1 = sz → (if lg = true then 128 ≤ F else ¬ 128 ≤ F ∧ F / 4 % 2 = (c + U.toNat) % 2) → nd ≤ n' →
      ES Hd He a b (sel vo U false) (sel vo false U) (CO suite version c s1) (CO suite version c s0) (CO suite version c s0) (CO suite version c s1) → RC w.params H0 ((L, mm) :: fs) He n' h' → G (.int (F : Nat) t) ⟨h', g, d, tk', os⟩) : G v s' := by
  obtain ⟨F, t, He, n', h', tk', rfl, h1, h2, h3, rfl, h4, h5, h6⟩ := q
  exact k F t He n' h' tk' h1 h2 h3 h4 h5 h6
end
section
variable {X : Prop} {H' H2 : PH} {a : Ad} {b b' : Int} {q0 q1 q0' q1' : Bool} {R0 S0 R1 S1 R0' S0' R1' S1' : CS} {rl qa qb x1 x2 it : Nat} {l1 l2 l3 : List Value} {v1 v2 : Option Value} {ra rb : Int}
theorem ES.keep6 (B0 : ES H' H' a b q0 q1 R0 S0 R1 S1) (B : ES H' H2 a b' q0' q1' R0' S0' R1' S1') (nr : NE rl a.st) (na : NE qa a.st) (nb : NE qb a.st) (nit : NE it a.st)
    (erl : H' rl = some (.lst l1)) (ea : H' qa = some (.lst l2)) (eb : H' qb = some (.lst l3)) (e1 : H' x1 = some (CE v1)) (e2 : H' x2 = some (CE v2)) (hit : H' it = some (.rng ra rb))
    (k : H2 rl = some (.lst l1) → H2 qa = some (.lst l2) → H2 qb = some (.lst l3) → H2 x1 = some (CE v1) → H2 x2 = some (CE v2) → H2 it = some (.rng ra rb) → X) : X :=
  k (B0.kl B erl nr) (B0.kl B ea na) (B0.kl B eb nb) (B0.kc B e1) (B0.kc B e2) (B0.kx B hit (fun _ q => nomatch q) nit)
end
theorem F_long {v : Int} {sz : Nat} (h0 : 0 ≤ v) (hv : v < 4) (h1 : 1 ≤ sz) (h4 : sz ≤ 4) : 192 + 16 * v + (sz : Int) - 1 = ((192 + 16 * v.toNat + sz - 1 : Nat) : Int) ∧ 192 + 16 * v.toNat + sz - 1 < 256 ∧ (192 + 16 * v.toNat + sz - 1) % 4 + 1 = sz ∧ 128 ≤ 192 + 16 * v.toNat + sz - 1 := by
  have key : ∀ (v s : Fin 4), 192 + 16 * (v.val : Int) + ((s.val + 1 : Nat) : Int) - 1 = ((192 + 16 * v.val + (s.val + 1) - 1 : Nat) : Int) ∧ 192 + 16 * v.val + (s.val + 1) - 1 < 256 ∧ (192 + 16 * v.val + (s.val + 1) - 1) % 4 + 1 = s.val + 1 ∧ 128 ≤ 192 + 16 * v.val + (s.val + 1) - 1 := by decide +kernel
  obtain ⟨u, rfl⟩ : ∃ u : Nat, v = (u : Int) := ⟨v.toNat, (Int.toNat_of_nonneg h0).symm⟩
  obtain ⟨s, rfl⟩ : ∃ s, sz = s + 1 := ⟨sz - 1, (Nat.sub_add_cancel h1).symm⟩
  exact key ⟨u, Int.ofNat_lt.mp hv⟩ ⟨s, h4⟩
theorem F_short {v : Int} {p sz : Nat} (h0 : 0 ≤ v) (hv : v < 2) (hp : p < 2) (h1 : 1 ≤ sz) (h4 : sz ≤ 4) : 64 + 32 * v + 4 * (1 - (p : Int)) + (sz : Int) - 1 = ((64 + 32 * v.toNat + 4 * (1 - p) + sz - 1 : Nat) : Int) ∧ 64 + 32 * v.toNat + 4 * (1 - p) + sz - 1 < 256 ∧ (64 + 32 * v.toNat + 4 * (1 - p) + sz - 1) % 4 + 1 = sz ∧ ¬ 128 ≤ 64 + 32 * v.toNat + 4 * (1 - p) + sz - 1 ∧ (64 + 32 * v.toNat + 4 * (1 - p) + sz - 1) / 4 % 2 = 1 - p := by
  have key : ∀ (v p : Fin 2) (s : Fin 4), 64 + 32 * (v.val : Int) + 4 * (1 - (p.val : Int)) + ((s.val + 1 : Nat) : Int) - 1 = ((64 + 32 * v.val + 4 * (1 - p.val) + (s.val + 1) - 1 : Nat) : Int) ∧ 64 + 32 * v.val + 4 * (1 - p.val) + (s.val + 1) - 1 < 256 ∧ (64 + 32 * v.val + 4 * (1 - p.val) + (s.val + 1) - 1) % 4 + 1 = s.val + 1 ∧ ¬ 128 ≤ 64 + 32 * v.val + 4 * (1 - p.val) + (s.val + 1) - 1 ∧ (64 + 32 * v.val + 4 * (1 - p.val) + (s.val + 1) - 1) / 4 % 2 = 1 - p.val := by decide +kernel
  obtain ⟨u, rfl⟩ : ∃ u : Nat, v = (u : Int) := ⟨v.toNat, (Int.toNat_of_nonneg h0).symm⟩
  obtain ⟨s, rfl⟩ : ∃ s, sz = s + 1 := ⟨sz - 1, (Nat.sub_add_cancel h1).symm⟩
  exact key ⟨u, Int.ofNat_lt.mp hv⟩ ⟨p, hp⟩ ⟨s, h4⟩
theorem par_of {l c : Nat} (h : l = c + 1) : 1 - l % 2 = c % 2 := by omega
theorem ex_of {vo : Int} (nu : Nat) (h0 : 0 ≤ vo) (h1 : vo < 2) : ∃ ex : Nat, max (0 : Int) (((nu : Nat) : Int) + 2 - 4 * vo) = (ex : Int) ∧ ex ≤ nu + 2 ∧ nu ≤ ex + 2 := by
  have a : (0 : Int) ≤ max 0 ((nu : Int) + 2 - 4 * vo) := Int.le_max_left _ _
  have b : (nu : Int) + 2 - 4 * vo ≤ max 0 ((nu : Int) + 2 - 4 * vo) := Int.le_max_right _ _
  have c : max 0 ((nu : Int) + 2 - 4 * vo) ≤ (nu : Int) + 2 := Int.max_le.mpr ⟨by omega, by omega⟩
  generalize max 0 ((nu : Int) + 2 - 4 * vo) = z at a b c
  exact ⟨z.toNat, (Int.toNat_of_nonneg a).symm, by omega, by omega⟩
theorem bd0 {b : Int} (h : b ≤ 100) : b < 2 ^ 30 := by omega
theorem bd1 {b : Int} (h : b ≤ 100) : b + 1 < 2 ^ 30 := by omega
theorem bd2 {b : Int} (h : b ≤ 100) : b + 1 + 1 < 2 ^ 30 := by omega
theorem bd3 {b : Int} (h : b ≤ 100) : b + 1 + 1 + 1 < 2 ^ 30 := by omega
theorem bd4 {b : Int} (h : b ≤ 100) : b + 1 + 1 + 1 + 1 < 2 ^ 30 := by omega
theorem bd5 {b : Int} (h : b ≤ 100) : b + 1 + 1 + 1 + 1 + 1 < 2 ^ 30 := by omega
theorem bd6 {b : Int} (h : b ≤ 100) : b + 1 + 1 + 1 + 1 + 1 + 1 < 2 ^ 30 := by omega
theorem bd7 {b : Int} (h : b ≤ 100) : b + 1 + 1 + 1 + 1 + 1 + 1 + 1 < 2 ^ 30 := by omega
theorem bd8 {b : Int} (h : b ≤ 100) : b + 1 + 1 + 1 + 1 + 1 + 1 + 1 + 1 < 2 ^ 30 := by omega
theorem bd9 {b : Int} (h : b ≤ 100) : b + 1 + 1 + 1 + 1 + 1 + 1 + 1 + 1 + 1 < 2 ^ 30 := by omega
theorem tri3 {v : Int} (h0 : 0 ≤ v) (h1 : v < 3) : v = 0 ∨ v = 1 ∨ v = 2 := by omega
theorem len100 {l c i u N : Nat} (h : l = c + u + 1) (hc : c ≤ i) (hi : i < N) (hN : N ≤ 6) (hu : u ≤ 1) : l < 100 := by omega
theorem nat1 {v : Int} {m : Nat} (h0 : 0 ≤ v) (h1 : v < 3) : ∃ x : Nat, ((m : Nat) : Int) + 1 + v = (x : Int) ∧ x ≤ m + 3 ∧ 1 ≤ x := ⟨m + 1 + v.toNat, by omega, by omega, by omega⟩
theorem nat2 {v : Int} (h0 : 0 ≤ v) (h1 : v < 4) : ∃ x : Nat, 1 + v = (x : Int) ∧ 1 ≤ x ∧ x ≤ 4 := ⟨1 + v.toNat, by omega, by omega, by omega⟩
theorem nat6 {v : Int} (h0 : 0 ≤ v) (h1 : v < 6) : ∃ N : Nat, 1 + v = (N : Int) ∧ N ≤ 6 := ⟨(1 + v).toNat, by omega, by omega⟩
theorem tszA {v : Int} {sz : Nat} (h0 : 0 ≤ v) (h1 : v < 3) (h : sz ≤ 4) : 0 ≤ ([4 - ((sz : Nat) : Int), 4, 40] : List Int).getD v.toNat 0 ∧ 4 - ((sz : Nat) : Int) ≤ ([4 - ((sz : Nat) : Int), 4, 40] : List Int).getD v.toNat 0 ∧ ([4 - ((sz : Nat) : Int), 4, 40] : List Int).getD v.toNat 0 ≤ 40 := by
  obtain rfl | rfl | rfl := tri3 h0 h1
  · show 0 ≤ 4 - ((sz : Nat) : Int) ∧ 4 - ((sz : Nat) : Int) ≤ 4 - ((sz : Nat) : Int) ∧ 4 - ((sz : Nat) : Int) ≤ 40; omega
  · show 0 ≤ (4 : Int) ∧ 4 - ((sz : Nat) : Int) ≤ 4 ∧ (4 : Int) ≤ 40; omega
  · show 0 ≤ (40 : Int) ∧ 4 - ((sz : Nat) : Int) ≤ 40 ∧ (40 : Int) ≤ 40; omega
theorem mszA {v : Int} (h0 : 0 ≤ v) (h1 : v < 3) : 0 ≤ ([0, 3, 20] : List Int).getD v.toNat 0 ∧ ([0, 3, 20] : List Int).getD v.toNat 0 ≤ 20 := by
  obtain rfl | rfl | rfl := tri3 h0 h1
  all_goals decide
theorem lenA {l : Nat} {m : Int} (h : (l : Int) = m) (h1 : m ≤ 20) : l ≤ 20 := by omega
theorem lenB {l sz : Nat} {m : Int} (h : (l : Int) = m) (h0 : 4 - ((sz : Nat) : Int) ≤ m) (h1 : m ≤ 40) : 4 ≤ l + sz ∧ l ≤ 40 := by omega
theorem num_st {nm nu i : Nat} (h : nm ≤ 2 ^ 62 - 20 + 3 * i) (hn : nu ≤ nm + 3) : nu ≤ 2 ^ 62 - 20 + 3 * (i + 1) := by omega
theorem bEnd {b : Int} {i : Nat} (h : b = 10 + 12 * (i : Nat)) : b + 1 + 1 + 1 + 1 + 1 + 1 + 1 + 1 + 1 + 1 ≤ 10 + 12 * ((i + 1 : Nat) : Int) := by omega
theorem b0A {i N : Nat} (h : i < N) (hN : N ≤ 6) : 10 + 12 * ((i : Nat) : Int) ≤ 100 := by omega
theorem num_le {nm nu i N : Nat} (h : nm ≤ 2 ^ 62 - 20 + 3 * i) (hi : i < N) (hN : N ≤ 6) (hn : nu ≤ nm + 3) : nu < 2 ^ 62 := by omega
abbrev LwL (L : Nat) : List (Str × Addr) := [("suite", L + 2), ("version", L + 1)]
theorem law_ct {l : Nat} {vs : List Value} {cells : List Int}
    (G : Gd (KK w.params) H0) (hz : H0.objs.size ≤ n) (O : Ok A 20) (R : RC w.params H0 fs H n h) (hi : H0.IsList l vs.toArray) (hv : IntsAre vs cells) (hs : cells.length < 2 ^ 19)
    (k : ∀ h' n' tk', n ≤ n' → RC w.params H0 fs (fun _ => none) n' h' → Q (.bool true) ⟨h', g, d, tk', os⟩) :
    wpP (model prog w) A (call (.ref 455) [.ref l]) Q E ⟨h, g, d, tk, os⟩ := by
  refine' P_defC (binds := [("script", .ref l)]) R G hz O.room ?ho ?hcd ?hbind ?hkind LwL ?hcl ?_ ?hco ?hgen ?hk
  case ho => k_is
  case hcd => k_is
  case hbind => exact BindsTo.of_eq rfl
  case hkind => intro kk; exact ⟨.inl rfl, trivial⟩
  case hcl => intro _; exact rfl
  case hco => exact rfl
  case hgen => exact rfl
  case hk => exact rfl
  intro L' h₁ tk₁ hl hcells R'
  refine' withLoop (fun body env => ∀ (B : Around) (a : Ad) (suite version : Int) (s0 s1 : List UInt8) (it N i : Nat) (H' : PH) (m' : Map) (n' : Nat) (h' : Heap) (tk' : Nat) (tk'' : Tok) (TQ : Flow → Shared → Prop),
      Ok B 19 → Suite suite → s0.length ≤ 100 → s1.length ≤ 100 → [Value.ref a.p, .ref a.p'] = a.ls → N ≤ 6 → i < N → LInv L' a suite version s0 s1 i H' m' → H0.objs.size ≤ n' → H' it = some (.rng (i + 1 : Nat) (N - (i + 1 : Nat))) →
      RC w.params H0 ((L', upd m' "turn" (.int (i : Nat) tk'')) :: fs) H' n' h' →
      (∀ H'' m'' n'' h'' tk3, n' ≤ n'' → H'' it = some (.rng (i + 1 : Nat) (N - (i + 1 : Nat))) → LInv L' a suite version s0 s1 (i + 1) H'' m'' → RC w.params H0 ((L', m'') :: fs) H'' n'' h'' → TQ .next ⟨h'', g, d, tk3, os⟩) →
      wpP (model prog w) B (execs body env) TQ (fun _ _ => False) ⟨h', g, d, tk', os⟩) ?ht ?_
  case ht =>
    clear hcells R' R hi hv hs k hl hz O
    delta loopAt
    dsimp only
    intro B a suite version s0 s1 it N i H' m' n' h' tk' tk'' TQ OB hsu ls0 ls1 hls hN1 hi I hz' hit r1 hTQ
    refine' LInv.el I ?_
    clear I
    intro c nm rl q0 q1 tn tv ts ws0 ua ub ws1 uc ud hc hnm B5 erl eq0 lw0 ga0 gb0 eq1 lw1 ga1 gb1 e1 e2 m1 m2 m3 m4 nr nq0 nq1 nc1 nc2
    obtain ⟨b0, hb0, hb⟩ : ∃ b0 : Int, b0 = 10 + 12 * (i : Nat) ∧ b0 ≤ 100 := ⟨_, rfl, b0A hi hN1⟩
    rw [← hb0] at B5
    have nit : NE it a.st := by
      obtain ⟨v, ev⟩ := B5.st.ex1
      exact ne_of hit ev (fun q => nomatch q)
    refine' P_execs_consA ?_
    walk_at "10"
    rename RC _ _ _ _ _ _ => r0
    refine' take_ct G (by walk_at "om") (OB.le (by decide)) r0 B5.st (by decide) (bd0 hb) ?_
    intro vo to xo h' na tk' vo0 vo1 hna hs1 r1
    with_reducible refine' ES.draw B5 (PH.le_refl _) r1 hs1 ?_
    clear r0 r1 hs1
    intro Ha oq Ba r0
    replace erl := oq _ _ nr erl
    replace eq0 := oq _ _ nq0 eq0
    replace eq1 := oq _ _ nq1 eq1
    replace e1 := oq _ _ nc1 e1
    replace e2 := oq _ _ nc2 e2
    replace hit := oq _ _ nit hit
    clear oq
    walk_at "1"
    refine' P_execs_consA ?_
    refine' wpAny_mono (Q := fun fl s' => fl = .next ∧ JJ w H0 fs g d os L' it a suite version s0 s1 vo i c nm N na (b0 + 1 + 1) s') ?_ (fun fl s' q => ?_) (fun _ _ x => x)
    · walk_at "12"
      rename RC _ _ _ _ _ _ => r0
      refine' take_ct G (by walk_at "om") (OB.le (by decide)) r0 Ba.st (by decide) (bd1 hb) ?_
      intro va ta xa h' nb tk' va0 va1 hnb hs1 r1
      with_reducible refine' ES.draw Ba (PH.le_refl _) r1 hs1 ?_
      clear r0 r1 hs1
      intro Hb oq Bb r0
      replace erl := oq _ _ nr erl
      replace eq0 := oq _ _ nq0 eq0
      replace eq1 := oq _ _ nq1 eq1
      replace e1 := oq _ _ nc1 e1
      replace e2 := oq _ _ nc2 e2
      replace hit := oq _ _ nit hit
      clear oq
      have Bz := Bb.rebase (H' := Hb)
      walk_at "3"
      split
      · walk_at "6"
        split
        · rename_i hi5
          have hi5 := of_decide_eq_true hi5
          obtain ⟨p1, p2, p3, p4, p5⟩ := sel_p a vo0 vo1
          have Bp := Bz.pick vo
          obtain ⟨A2, hA2⟩ : ∃ x, x = sel vo a a.swap := ⟨_, rfl⟩
          rw [← hA2] at p1 p2 p3 p4 p5 Bp
          rw [sel_same] at Bp
          have esd := esl_of hls Bz.sd
          with_reducible refine' PairV.el Bp.s0.pv ?_
          intro tq pe1 pe2
          walk_at "11"
          rename RC _ _ _ _ _ _ => r0
          refine' update_key_ct G (by walk_at "om") (OB.le (by decide)) r0 Bp.s0.pv ?_
          intro Hc h' nc tk' hnc oc pvc r1
          clear r0
          have kc : KeepI Hb Hc := KeepI.only (KeepI.refl _) oc (fun b hb z e => by rw [List.mem_singleton.mp hb, pe2] at e; cases e; exact nimm_pair)
          have Bc := Bp.side0 (oc.mono (fun x m => by rw [List.mem_singleton.mp m]; simp)) kc ⟨pvc, Bp.s0.r.only oc kc (by obtain ⟨_, _, _, _, _, _, _, cv⟩ := Bp.s0.r.cv; simpa using Ne.symm (Bp.s0.pv.neV cv)), Bp.s0.s.only oc kc (by obtain ⟨_, _, _, _, _, _, _, cv⟩ := Bp.s0.s.cv; simpa using Ne.symm (Bp.s0.pv.neV cv)), Bp.s0.ne⟩
          refine' ES.keep6 Bp Bc (p3.symm ▸ nr) (p3.symm ▸ nq0) (p3.symm ▸ nq1) (p3.symm ▸ nit) erl eq0 eq1 e1 e2 hit ?_
          clear erl eq0 eq1 e1 e2 hit pe1 pe2 pvc kc oc esd Ba Bb
          intro erl eq0 eq1 e1 e2 hit
          have bnc := r1.bnd
          have lrl := bnc.lt erl
          have lst2 : a.st < nc := by
            obtain ⟨v, ev⟩ := Bc.st.ex1
            have := bnc.lt ev
            rw [p3] at this; exact this
          walk_at "s"
          rename RC _ _ _ _ _ _ => r0
          refine' r_compA (cl := [("version", L' + 1), ("suite", L' + 2)]) ?zsw ?zc ?zk ?zn ?_
          case zsw => exact rfl
          case zc => exact rfl
          case zk => exact rfl
          case zn => decide
          walk_at "2"
          rename RC _ _ _ _ _ _ => r0
          refine' komp_list (ax := rl) (its := [.ref q0, .ref q1]) r0 ?zhz2 ?zhh ?ze ?zeax (RInv suite version s0 s1 (c + 1) nc) ?zhrel ?zhcell ?zhkind ?zhx ?zi0 ?zstab ?zturn ?zhN ?zfin
          case zhz2 => walk_at "om"
          case zhh => exact OB.hd
          case ze => exact PH.set_self _ _ _
          case zeax => walk_at "lk"
          case zhrel => exact rfl
          case zhcell => decide
          case zhkind => exact rfl
          case zhx => exact rfl
          case zi0 => intro D H' oo; exact ⟨rfl, fun j hj => absurd hj (Nat.not_lt_zero _)⟩
          case zstab => intro D j vs H' H'' oo hw hI v; exact RInv.stab v oo hI
          case zhN =>
            show 2 ≤ 1000000
            decide
          case zturn =>
            intro D C j vs5 H5 mm2 n5 h' tk' v hj hC hC2 hD hD2 hn5 hv hinv oo hDv r1
            clear r0
            have lq0 := bnc.lt eq0
            have lq1 := bnc.lt eq1
            have le1 := bnc.lt e1
            have le2 := bnc.lt e2
            have fq0 := oo q0 _ (by walk_at "nin") (by walk_at "lk")
            have fq1 := oo q1 _ (by walk_at "nin") (by walk_at "lk")
            have f1 := oo _ _ (by walk_at "nin") (PH.set_at (by walk_at "om") e1)
            have f2 := oo _ _ (by walk_at "nin") (PH.set_at (by walk_at "om") e2)
            have bn5 := r1.bnd
            clear oo
            have hj' : j = 0 ∨ j = 1 := by
              have : j < 2 := hj
              omega
            rcases hj' with rfl | rfl
            · cases hv
              have eLq := neg_last lw0 gb0
              walk_at "17"
              rename RC _ _ _ _ _ _ => r0
              refine' r_item_neg r0 fq0 (by decide) (by walk_at "om") (by walk_at "om") eLq ?_ (by with_unfolding_all exact rfl)
              walk_at "2"
              rename RC _ _ _ _ _ _ => r0
              refine' lnext_ct G (by walk_at "om") (OB.le (by decide)) r0 (secN_len ls0 c) ?_
              intro tnx h' n6 tk' hn6 r1
              clear r0
              walk_at "3"
              rename RC _ _ _ _ _ _ => r0
              refine ⟨_, _, _, _, rfl, by walk_at "om", ?_, hinv.snoc ?_ (by walk_at "om") (by walk_at "om") (RowIs.next lw0 ga0 (PH.set_self _ _ _)), r0⟩
              · walk_at "le"
              · walk_at "le"
            · cases hv
              have eLq := neg_last lw1 gb1
              walk_at "17"
              rename RC _ _ _ _ _ _ => r0
              refine' r_item_neg r0 fq1 (by decide) (by walk_at "om") (by walk_at "om") eLq ?_ (by with_unfolding_all exact rfl)
              walk_at "2"
              rename RC _ _ _ _ _ _ => r0
              refine' lnext_ct G (by walk_at "om") (OB.le (by decide)) r0 (secN_len ls1 c) ?_
              intro tnx h' n6 tk' hn6 r1
              clear r0
              walk_at "3"
              rename RC _ _ _ _ _ _ => r0
              refine ⟨_, _, _, _, rfl, by walk_at "om", ?_, hinv.snoc ?_ (by walk_at "om") (by walk_at "om") (RowIs.next lw1 ga1 (PH.set_self _ _ _)), r0⟩
              · walk_at "le"
              · walk_at "le"
          case zfin =>
            intro D C vs6 mm2 H6 n6 h' tk' hD hn6 hinv oo hDv r1
            clear r0
            have lec : Hc.le H6 := fun x z q => oo x z (by have := bnc.lt q; walk_at "nin") (PH.set_at (by have := bnc.lt q; walk_at "om") q)
            refine wpAny_assign_Name (r_storeG r1.swap (fun h2 tk2 R2 => ?_) rfl rfl)
            have R3 := R2.swap
            refine ⟨mm2, (R3.fr _ (.head _)).1, fun h3 hs3 => ?_⟩
            have R4 := R3.popBut hs3
            clear R3 R2 r1 oo
            walk_at "2"
            obtain ⟨r0', r1', rfl, hr0, hr1, w0, w1⟩ := hinv.two
            have er6 := lec _ _ e1
            have Bf := (Bc.le lec).rebase
            refine ⟨true, D, r0', r1', _, _, H6, upd (upd (upd m' "turn" (.int (i : Nat) tk'')) "one" (.int vo to)) "rows" (.ref D), _, rfl, by walk_at "om", ?_, ⟨hDv, w0, w1, ⟨_, lec _ _ e1⟩, ⟨_, lec _ _ e2⟩, lec _ _ hit, rfl, ⟨_, m2⟩, m3, m4, ⟨_, rfl⟩, ?_, ?_, ?_⟩, R4⟩
            · refine ES.back (v := vo) ?_
              rw [sel_sel, sel_sel, ← hA2]
              exact Bf
            · show D ≠ a.st; walk_at "om"
            · show r0' ≠ a.st; walk_at "om"
            · show r1' ≠ a.st; walk_at "om"
        · rename_i hni
          walk_at "3"
          rename RC _ _ _ _ _ _ => r0
          refine ⟨false, rl, q0, q1, _, _, Hb, upd (upd m' "turn" (.int (i : Nat) tk'')) "one" (.int vo to), _, rfl, by walk_at "om", ?_, ⟨erl, ⟨ws0, ua, ub, eq0, lw0, ga0, gb0⟩, ⟨ws1, uc, ud, eq1, lw1, ga1, gb1⟩, ⟨_, e1⟩, ⟨_, e2⟩, hit, m1, ⟨_, m2⟩, m3, m4, ⟨_, rfl⟩, nr, nq0, nq1⟩, r0⟩
          rw [sel_same]
          exact Bz
      · rename_i hni
        walk_at "3"
        rename RC _ _ _ _ _ _ => r0
        refine ⟨false, rl, q0, q1, _, _, Hb, upd (upd m' "turn" (.int (i : Nat) tk'')) "one" (.int vo to), _, rfl, by walk_at "om", ?_, ⟨erl, ⟨ws0, ua, ub, eq0, lw0, ga0, gb0⟩, ⟨ws1, uc, ud, eq1, lw1, ga1, gb1⟩, ⟨_, e1⟩, ⟨_, e2⟩, hit, m1, ⟨_, m2⟩, m3, m4, ⟨_, rfl⟩, nr, nq0, nq1⟩, r0⟩
        rw [sel_same]
        exact Bz
    · obtain ⟨rfl, q⟩ := q
      dsimp only
      refine' JJ.el q ?_
      clear q
      intro U rl2 qa qb nd tkd Hd mm hd' hnd B1 T r0
      have T0 := T
      clear erl eq0 eq1 e1 e2 hit Ba m1 m2 m3 m4 nr nq0 nq1 lw0 ga0 gb0 lw1 ga1 gb1
      refine' TF.el T ?_
      clear T
      intro ws2 ue uf ws3 ug uh tv2 ts2 tn2 to2 erl eq0 lw0 ga0 gb0 eq1 lw1 ga1 gb1 e1 e2 hit m1 m2 m3 m4 m5 nr nq0 nq1
      have hU1 : U.toNat ≤ 1 := by cases U <;> decide
      have lws2 : ws2.length < 100 := len100 lw0 hc hi hN1 hU1
      have lws3 : ws3.length < 100 := len100 lw1 hc hi hN1 hU1
      refine' P_execs_consA ?_
      refine' wpAny_Assign_Name ?_ ?zs
      case zs => exact rfl
      refine' wpAny_mono (Q := fun v s' => LG w H0 fs g d os L' a suite version s0 s1 vo U c (b0 + 1 + 1 + 1) nd Hd mm v s') ?_ (fun v s' q => ?_) (fun _ _ x => x)
      · walk_at "11"
        refine' take_ct G (by walk_at "om") (OB.le (by decide)) r0 B1.st (by decide) (bd2 hb) ?_
        intro vl tl xl h' ne' tk' vl0 vl1 hne hs1 r1
        with_reducible refine' ES.draw B1 (PH.le_refl _) r1 hs1 ?_
        clear r0 r1 hs1
        intro He oq Be r0
        replace erl := oq _ _ nr erl
        replace eq0 := oq _ _ nq0 eq0
        replace eq1 := oq _ _ nq1 eq1
        replace e1 := oq _ _ nc1 e1
        replace e2 := oq _ _ nc2 e2
        replace hit := oq _ _ nit hit
        clear oq
        walk_at "3"
        split
        · walk_at "14"
          rename RC _ _ _ _ _ _ => r0
          refine ⟨_, He, _, _, _, rfl, fun e => ?_, rfl, by walk_at "om", Be, r0⟩
          have := of_decide_eq_true e
          omega
        · rename_i hvl
          walk_at "0"
          rename RC _ _ _ _ _ _ => r0
          exact ⟨_, He, _, _, _, rfl, fun e => absurd e hvl, rfl, by walk_at "om", Be, r0⟩
      · refine' LG.el (G := fun v s' => wpAny (model prog w) B (storeName _ _ v) _ _ s') q ?_
        clear q r0
        intro lg He ne' h' tk' hlg hne Be r1
        refine' ES.keep6 B1 Be nr nq0 nq1 nit erl eq0 eq1 e1 e2 hit ?_
        clear erl eq0 eq1 e1 e2 hit
        intro erl eq0 eq1 e1 e2 hit
        walk_at "1"
        refine' P_execs_consA ?_
        walk_at "14"
        rename RC _ _ _ _ _ _ => r0
        refine' take_ct G (by walk_at "om") (OB.le (by decide)) r0 Be.st (by decide) (bd3 hb) ?_
        intro v4 t4 x4 h' nf tk' v40 v41 hnf hs1 r1
        with_reducible refine' ES.draw Be (PH.le_refl _) r1 hs1 ?_
        clear r0 r1 hs1
        intro Hf oq Bf r0
        replace erl := oq _ _ nr erl
        replace eq0 := oq _ _ nq0 eq0
        replace eq1 := oq _ _ nq1 eq1
        replace e1 := oq _ _ nc1 e1
        replace e2 := oq _ _ nc2 e2
        replace hit := oq _ _ nit hit
        clear oq
        walk_at "16"
        rename RC _ _ _ _ _ _ => r0
        refine' take_ct G (by walk_at "om") (OB.le (by decide)) r0 Bf.st (by decide) (bd4 hb) ?_
        intro v5 t5 x5 h' ng tk' v50 v51 hng hs1 r1
        with_reducible refine' ES.draw Bf (PH.le_refl _) r1 hs1 ?_
        clear r0 r1 hs1
        intro Hg oq Bg r0
        replace erl := oq _ _ nr erl
        replace eq0 := oq _ _ nq0 eq0
        replace eq1 := oq _ _ nq1 eq1
        replace e1 := oq _ _ nc1 e1
        replace e2 := oq _ _ nc2 e2
        replace hit := oq _ _ nit hit
        clear oq
        have bng := r0.bnd
        walk_at "3"
        rename RC _ _ _ _ _ _ => r0
        refine' r_unpackItems r0 OB.hd ?ze ?zj ?_
        case ze => exact RC.tup (by with_reducible assumption) (PH.set_self _ _ _)
        case zj => exact rfl
        intro h' r1
        clear r0
        refine' assignInOrder_cons ?_
        refine' r_bindName ?_
        walk_at "5"
        rename RC _ _ _ _ _ _ => r0
        with_reducible refine' RC.drop1 (H1 := Hg) r0 ?zl ?_
        case zl => exact PH.le_new (PH.le_refl _) (bng _ (by walk_at "om"))
        clear r0
        intro r0
        obtain ⟨nu, enu, hnu, hnu1⟩ := nat1 (m := nm) v50 v51
        obtain ⟨sz, esz, hsz1, hsz4⟩ := nat2 v40 v41
        rw [enu, esz] at r0
        clear enu esz v40 v41 v50 v51
        refine' RC.nameM r0 ?_
        clear r0
        intro m7 em7 r0
        have k1 : m7 "rows" = some (.ref rl2) := by rw [em7]; exact m1
        have k2 : ∃ t, m7 "number" = some (.int (nu : Nat) t) := ⟨_, by rw [em7]; rfl⟩
        have k3 : m7 "state" = some (.ref a.st) := by rw [em7]; exact m3
        have k4 : m7 "sides" = some (.ref a.sd) := by rw [em7]; exact m4
        have k5 : m7 "one" = some (.int vo to2) := by rw [em7]; exact m5
        have k6 : ∃ t, m7 "size" = some (.int (sz : Nat) t) := ⟨_, by rw [em7]; rfl⟩
        have k7 : m7 "is_long" = some (.bool lg) := by rw [em7]; rfl
        clear em7 m1 m2 m3 m4 m5
        obtain ⟨tnu, k2⟩ := k2
        obtain ⟨tsk, k6⟩ := k6
        refine' P_execs_consA ?_
        refine' wpAny_Assign_Name ?_ ?zs2
        case zs2 => exact rfl
        refine' wpAny_mono (Q := fun v s' => FG w H0 fs g d os L' a suite version s0 s1 vo U c sz lg (b0 + 1 + 1 + 1 + 1 + 1 + 1) nd Hd m7 v s') ?_ (fun v s' q => ?_) (fun _ _ x => x)
        · walk_at "6"
          split
          · rename_i hlg1
            walk_at "13"
            rename RC _ _ _ _ _ _ => r0
            refine' take_ct G (by walk_at "om") (OB.le (by decide)) r0 Bg.st (by decide) (bd5 hb) ?_
            intro v8 t8 x8 h' nh tk' v80 v81 hnh hs1 r1
            with_reducible refine' ES.draw Bg (PH.le_refl _) r1 hs1 ?_
            clear r0 r1 hs1
            intro Hh oq Bh r0
            clear oq
            walk_at "6"
            rename RC _ _ _ _ _ _ => r0
            refine ⟨192 + 16 * v8.toNat + sz - 1, _, Hh, _, _, _, congrArg (fun z => Value.int z _) (F_long v80 v81 hsz1 hsz4).1, (F_long v80 v81 hsz1 hsz4).2.1, (F_long v80 v81 hsz1 hsz4).2.2.1, ?zf1, rfl, by walk_at "om", Bh, r0⟩
            case zf1 => rw [if_pos hlg1]; exact (F_long v80 v81 hsz1 hsz4).2.2.2
          · rename_i hlg1
            walk_at "14"
            rename RC _ _ _ _ _ _ => r0
            refine' take_ct G (by walk_at "om") (OB.le (by decide)) r0 Bg.st (by decide) (bd5 hb) ?_
            intro v8 t8 x8 h' nh tk' v80 v81 hnh hs1 r1
            with_reducible refine' ES.draw Bg (PH.le_refl _) r1 hs1 ?_
            clear r0 r1 hs1
            intro Hh oq Bh r0
            have erl := oq _ _ nr erl
            have eq0 := oq _ _ nq0 eq0
            clear oq
            walk_at "26"
            rename RC _ _ _ _ _ _ => r0
            have hp2 : ws2.length % 2 < 2 := Nat.mod_lt _ (by decide)
            refine ⟨64 + 32 * v8.toNat + 4 * (1 - ws2.length % 2) + sz - 1, _, Hh, _, _, _, congrArg (fun z => Value.int z _) ?ze2, (F_short v80 v81 hp2 hsz1 hsz4).2.1, (F_short v80 v81 hp2 hsz1 hsz4).2.2.1, ?zf2, rfl, by walk_at "om", Bh, r0⟩
            case ze2 => rw [fm2]; exact (F_short v80 v81 hp2 hsz1 hsz4).1
            case zf2 => rw [if_neg hlg1]; exact ⟨(F_short v80 v81 hp2 hsz1 hsz4).2.2.2.1, ((F_short v80 v81 hp2 hsz1 hsz4).2.2.2.2).trans (par_of lw0)⟩
        · refine' FG.el (G := fun v s' => wpAny (model prog w) B (storeName _ _ v) _ _ s') q ?_
          clear q
          intro F tF Hh nh h' tk' hF hF4 hFL hnh Bh r1
          have bnh := r1.bnd
          clear r0 erl eq0 eq1 e1 e2 hit
          walk_at "1"
          refine' P_execs_consA ?_
          have hF' : ((F : Nat) : Int) < 256 := Int.ofNat_lt.mpr hF
          walk_at "39"
          rename RC _ _ _ _ _ _ => r0
          obtain ⟨vz, ez⟩ := Bh.st.ex1
          have lsth := bnh.lt ez
          refine' take_ct G (by walk_at "om") (OB.le (by decide)) r0 (Bh.st.le ?zl3) (by decide) (bd6 hb) ?_
          case zl3 => exact PH.le_new (PH.le_new (PH.le_refl _) (bnh _ (by walk_at "om"))) (bnh _ (by walk_at "om"))
          intro v9 t9 x9 h' ni tk' v90 v91 hni hs1 r1
          with_reducible refine' ES.draw Bh ?zl4 r1 hs1 ?_
          case zl4 => exact PH.le_new (PH.le_new (PH.le_refl _) (bnh _ (by walk_at "om"))) (bnh _ (by walk_at "om"))
          clear r0 r1 hs1
          intro Hi oq Bi r0
          have ecs := oq _ _ (by walk_at "om") (PH.set_self _ _ _)
          clear oq ez
          refine' r_item_ints (ns := [0, 3, 20]) r0 ecs ?zi v90 (by walk_at "om") (by simp only [List.length_cons, List.length_nil]; walk_at "om") ?_
          case zi => walk_at "intsare"
          have hmz := mszA v90 v91
          generalize ([0, 3, 20] : List Int).getD v9.toNat 0 = msz at hmz ⊢
          obtain ⟨hmz0, hmz1⟩ := hmz
          intro tmz
          walk_at "2"
          rename RC _ _ _ _ _ _ => r0
          refine' octets_ct G (by walk_at "om") (OB.le (by decide)) r0 Bi.st hmz0 (Int.le_trans hmz1 (by decide)) (bd7 hb) ?_
          intro mid tmid x10 h' nj tk' hmid hnj hs1 r1
          with_reducible refine' ES.draw Bi (PH.le_refl _) r1 hs1 ?_
          clear r0 r1 hs1 ecs
          intro Hj oq Bj r0
          clear oq
          walk_at "8"
          have hpw : (0 : Int) < 256 ^ (((sz : Nat) : Int)).toNat := Int.pow_pos (by decide)
          refine r_modp hpw (fun z1 z2 => ?_)
          clear z1 z2
          have eMd : (((nu : Nat) : Int)).fmod (256 ^ (((sz : Nat) : Int)).toNat) = ((nu % 256 ^ sz : Nat) : Int) := by
            rw [Int.toNat_natCast, castPow]; exact fmodC _ _
          rw [eMd]
          intro tmd tkmd
          have hlt : (((nu % 256 ^ sz : Nat) : Int)).toNat < 256 ^ (((sz : Nat) : Int)).toNat := by
            rw [Int.toNat_natCast, Int.toNat_natCast]; exact Nat.mod_lt _ (Nat.pow_pos (by decide))
          walk_at "10"
          rename RC _ _ _ _ _ _ => r0
          have bnj := r0.bnd
          obtain ⟨vz, ez⟩ := Bj.st.ex1
          have lstj := bnj.lt ez
          refine' P_execs_consA ?_
          walk_at "29"
          rename RC _ _ _ _ _ _ => r0
          refine' take_ct G (by walk_at "om") (OB.le (by decide)) r0 (Bj.st.le ?zl5) (by decide) (bd8 hb) ?_
          case zl5 => exact PH.le_new (PH.le_refl _) (bnj _ (by walk_at "om"))
          intro v11 t11 x11 h' nk tk' v110 v111 hnk hs1 r1
          with_reducible refine' ES.draw Bj ?zl6 r1 hs1 ?_
          case zl6 => exact PH.le_new (PH.le_refl _) (bnj _ (by walk_at "om"))
          clear r0 r1 hs1
          intro Hk oq Bk r0
          have ecs := oq _ _ (by walk_at "om") (PH.set_self _ _ _)
          clear oq ez
          refine' r_item_ints (ns := [4 - ((sz : Nat) : Int), 4, 40]) r0 ecs ?zi2 v110 (by walk_at "om") (by simp only [List.length_cons, List.length_nil]; walk_at "om") ?_
          case zi2 => walk_at "intsare"
          have htz := tszA v110 v111 hsz4
          generalize ([4 - ((sz : Nat) : Int), 4, 40] : List Int).getD v11.toNat 0 = tsz at htz ⊢
          obtain ⟨htzz, htz0, htz1⟩ := htz
          intro ttz
          walk_at "2"
          rename RC _ _ _ _ _ _ => r0
          refine' octets_ct G (by walk_at "om") (OB.le (by decide)) r0 Bk.st htzz (Int.le_trans htz1 (by decide)) (bd9 hb) ?_
          intro text ttext x12 h' nl' tk' htext hnl hs1 r1
          with_reducible refine' ES.draw Bk (PH.le_refl _) r1 hs1 ?_
          clear r0 r1 hs1 ecs
          intro Hl oq Bl r0
          clear oq
          walk_at "1"
          rename RC _ _ _ _ _ _ => r0
          refine' RC.nameM r0 ?_
          clear r0
          obtain ⟨ph, eph⟩ : ∃ x, x = [F.toUInt8] ++ mid ++ toBE sz (nu % 256 ^ sz) := ⟨_, rfl⟩
          intro m9 em9 r0
          have j1 : m9 "rows" = some (.ref rl2) := by rw [em9]; exact k1
          have j2 : m9 "number" = some (.int (nu : Nat) tnu) := by rw [em9]; exact k2
          have j3 : m9 "state" = some (.ref a.st) := by rw [em9]; exact k3
          have j4 : m9 "sides" = some (.ref a.sd) := by rw [em9]; exact k4
          have j5 : m9 "one" = some (.int vo to2) := by rw [em9]; exact k5
          have j6 : m9 "size" = some (.int (sz : Nat) tsk) := by rw [em9]; exact k6
          have j8 : ∃ t, m9 "header" = some (.bytes ph.toArray t) := ⟨_, by rw [em9, eph]; rfl⟩
          have j9 : m9 "text" = some (.bytes text.toArray ttext) := by rw [em9]; rfl
          obtain ⟨tph, j8⟩ := j8
          have hok : PkOk ph text sz nu lg (c + U.toNat) := by
            rw [eph]
            exact pk_ok hF hF4 hFL (lenA hmid hmz1) (lenB htext htz0 htz1).1 (lenB htext htz0 htz1).2 (num_le hnm hi hN1 hnu)
          clear em9 k1 k2 k3 k4 k5 k6 k7 eph hpw eMd hlt hmz0 hmz1 htzz htz0 htz1 htext hmid hF hF4 hFL hF' Be Bf Bg Bh Bi Bj Bk bng bnh bnj lsth lstj
          clear ga0 gb0 ga1 gb1 lw0 lw1
          have wO := RowIs.sel vo T0.w0 T0.w1
          have wT := RowIs.sel vo T0.w1 T0.w0
          have erl := T0.rl'
          have hit := T0.hit
          obtain ⟨tvq, e1⟩ := T0.e1
          obtain ⟨tsq, e2⟩ := T0.e2
          clear T0
          have lO := len_sel vo ls0 ls1
          have lT := len_sel vo ls1 ls0
          have nO := NE.sel vo nq0 nq1
          have nT := NE.sel vo nq1 nq0
          obtain ⟨p6, p7⟩ := sel_get vo0 vo1 (Value.ref qa) (.ref qb)
          rw [sel_ref] at p6 p7
          have esd := esl_of hls B1.sd
          have nsd := B1.f2
          obtain ⟨p1, p2, p3, p4, p5⟩ := sel_p a vo0 vo1
          have Bp := Bl.rebase.pick vo
          rw [sel_sel, sel_sel, sel_CO, sel_CO] at Bp
          obtain ⟨A2, hA2⟩ : ∃ x, x = sel vo a a.swap := ⟨_, rfl⟩
          rw [← hA2] at p1 p2 p3 p4 p5 Bp
          obtain ⟨sO, hsO⟩ : ∃ x, x = sel vo s0 s1 := ⟨_, rfl⟩
          obtain ⟨sT, hsT⟩ : ∃ x, x = sel vo s1 s0 := ⟨_, rfl⟩
          obtain ⟨qO, hqO⟩ : ∃ x, x = sel vo qa qb := ⟨_, rfl⟩
          obtain ⟨qT, hqT⟩ : ∃ x, x = sel vo qb qa := ⟨_, rfl⟩
          rw [← hsO, ← hsT] at Bp
          rw [← hsO, ← hqO] at wO
          rw [← hsT, ← hqT] at wT
          rw [← hqO] at nO p6
          rw [← hqT] at nT p7
          rw [← hsO] at lO
          rw [← hsT] at lT
          with_reducible refine' RowIs.el wO ?_
          intro wsO uO uOc eqO lwO gO0 gOc
          with_reducible refine' RowIs.el wT ?_
          intro wsT uT uTc eqT lwT gT0 gTc
          clear wO wT
          refine' ES.keep6 B1 Bl nr nO nT nit erl eqO eqT e1 e2 hit ?_
          replace esd := B1.kl Bl esd nsd
          clear erl eqO eqT e1 e2 hit
          intro erl eqO eqT e1 e2 hit
          clear B1 Bl
          rw [← p3] at nr nO nT nit nsd
          with_reducible refine' PairV.el Bp.s0.pv ?_
          intro tq pe1 pe2
          refine' P_execs_cons ?_
          refine' P_Assign_Name ?_ ?zs3
          case zs3 => exact rfl
          refine' P_methodCall ?_ ?zhe
          case zhe => exact rfl
          walk_at "5"
          refine' P_callK (K := (KK w.params)) ?zhk ?_ ?zhe2 ?zhp
          case zhe2 => exact rfl
          case zhp => exact rfl
          case zhk => k_is
          walk_at "8"
          rename RC _ _ _ _ _ _ => r0
          refine' enc_law_ct G (by walk_at "om") (OB.le (by decide)) r0 Bp.s0 hsu lO lT hok ?_
          intro tpk Hm h' nm' tk' hnm' oo kk SS r1
          clear r0
          have Bm := Bp.side0 oo kk SS
          clear oo kk SS pe1 pe2
          refine' ES.keep6 Bp Bm nr nO nT nit erl eqO eqT e1 e2 hit ?_
          replace esd := Bp.kl Bm esd nsd
          clear erl eqO eqT e1 e2 hit
          intro erl eqO eqT e1 e2 hit
          clear Bp
          have bnm := r1.bnd
          walk_at "1"
          refine' P_execs_consA ?_
          walk_at "23"
          rename RC _ _ _ _ _ _ => r0
          have b1 := hok.h1
          have b2 := hok.hl
          have b3 := hok.tl
          have l6 : (ph.getD 0 0).toNat % 4 + 1 ≤ ph.length := by
            have h2 := hok.hsz
            unfold szOf at h2
            omega
          refine' due_ct G (by walk_at "om") (OB.le (by decide)) r0 hsu eqO gO0 (eL_of lwO gOc) (Nat.lt_of_lt_of_le (len100 lwO hc hi hN1 hU1) (by decide)) lO (secN_len lO _) (Nat.lt_of_le_of_lt (Nat.zero_le _) b1) hok.hl hok.tl l6 hok.nm ?_
          intro tdu h' nn' tk' hnn' r1
          clear r0
          rw [show dueB suite version sO (secN suite version sO (c + U.toNat)) ph text nu = pkB suite version sO (secN suite version sO (c + U.toNat)) ph text nu from due_enc (by rw [hok.hsz]; exact b1)]
          walk_at "2"
          rw [bne_self_eq_false, if_neg Bool.false_ne_true]
          walk_at "1"
          have Bm := Bm.rebase
          with_reducible refine' PairV.el Bm.s1.pv ?_
          intro tq2 pf1 pf2
          refine' P_execs_cons ?_
          refine' P_If ?_
          refine' P_isTrue_Compare1 ?_ (by with_unfolding_all exact rfl)
          refine' P_methodCall ?_ ?zhe4
          case zhe4 => exact rfl
          walk_at "8"
          refine' P_callK (K := (KK w.params)) ?zhk5 ?_ ?zhe5 ?zhp5
          case zhe5 => exact rfl
          case zhp5 => exact rfl
          case zhk5 => k_is
          walk_at "34"
          rename RC _ _ _ _ _ _ => r0
          have eOff : ((ph.length : Nat) : Int) - ((sz : Nat) : Int) = ((ph.length - sz : Nat) : Int) := (Int.ofNat_sub (Nat.le_of_lt b1)).symm
          obtain ⟨ex, eex, xa, xb⟩ := ex_of nu vo0 vo1
          rw [eOff, eex]
          refine' dec_law_ct (U := U) (c := c) (sO := sO) (sT := sT) G (by walk_at "om") (OB.le (by decide)) r0 Bm.s1 hsu lO lT hok hlg xa xb ?_
          intro ta u1 u2 u3 Hn h' no tk' hno oo kk SS hT r1
          clear r0
          have Bn := Bm.side1 oo kk SS
          clear oo kk SS pf1 pf2 eOff eex xa xb
          refine' ES.keep6 Bm Bn nr nO nT nit erl eqO eqT e1 e2 hit ?_
          replace esd := Bm.kl Bn esd nsd
          clear erl eqO eqT e1 e2 hit
          intro erl eqO eqT e1 e2 hit
          clear Bm
          have bnn := r1.bnd
          have lta := bnn.lt hT
          walk_at "9"
          rename RC _ _ _ _ _ _ => r0
          refine' r_ne_tup r0 OB ?ze9 ?ze10 ?zd1 ?zd2 ?zkk ?_
          case ze9 => exact PH.set_at (by walk_at "om") hT
          case ze10 => exact PH.set_self _ _ _
          case zd1 => exact .cons (.b _ _) (.cons (.b _ _) (.cons (.i _ _) .nil))
          case zd2 => exact .cons (.b _ _) (.cons (.b _ _) (.cons (.i _ _) .nil))
          case zkk => exact .b _ _ (.b _ _ (.i _ _ .nil))
          rw [ne_dec]
          with_reducible refine' RC.drop1 (H1 := Hn) r0 ?zl7 ?_
          case zl7 => exact PH.le_new (PH.le_refl _) (bnn _ (by walk_at "om"))
          clear r0 hT lta
          intro r0
          walk_at "2"
          refine' P_any ?_
          walk_at "1"
          rename RC _ _ _ _ _ _ => r0
          have Bn := Bn.rebase
          have eLO := neg_last lwO gOc
          have eLT := neg_last lwT gTc
          have lqO := bnn.lt eqO
          have lrl := bnn.lt erl
          have lqT := bnn.lt eqT
          clear hlg hok
          with_reducible refine' PairV.el Bn.s0.pv ?_
          intro tq3 pe1 pe2
          with_reducible refine' CtxAt.el (COat Bn.s0.s) ?_
          intro x1 x2 x3 x4 x5 x6 cs1 cs2 xA xB
          clear xA xB
          with_reducible refine' CtxAt.el (COat Bn.s0.r) ?_
          intro y1 y2 y3 y4 y5 y6 cr1 cr2 yA yB
          clear yA yB
          refine' P_execs_consA ?_
          walk_at "33"
          rename RC _ _ _ _ _ _ => r0
          refine' r_item_neg r0 ?y11 (by decide) (by walk_at "om") (by walk_at "om") eLO ?_ (by with_unfolding_all exact rfl)
          case y11 => exact PH.set_at (by walk_at "om") eqO
          walk_at "12"
          rename RC _ _ _ _ _ _ => r0
          refine' r_item_neg r0 ?y12 (by decide) (by walk_at "om") (by walk_at "om") eLT ?_ (by with_unfolding_all exact rfl)
          case y12 => exact PH.set_at (by walk_at "om") eqT
          walk_at "2"
          rename RC _ _ _ _ _ _ => r0
          refine' r_ne_tup r0 OB ?y13 ?y14 ?y15 ?y16 ?y17 ?_
          case y13 => exact PH.set_at (by walk_at "om") (PH.set_self _ _ _)
          case y14 => exact PH.set_self _ _ _
          case y15 => exact .cons (.b _ _) (.cons (.b _ _) .nil)
          case y16 => exact .cons (.b _ _) (.cons (.b _ _) .nil)
          case y17 => exact .b _ _ (.b _ _ .nil)
          rw [ne_dec]
          walk_at "3"
          rename RC _ _ _ _ _ _ => r0
          with_reducible refine' RC.drop1 (H1 := Hn) r0 ?y18 ?_
          case y18 => exact PH.le_new (PH.le_new (PH.le_refl _) (bnn _ (by walk_at "om"))) (bnn _ (by walk_at "om"))
          clear r0 pe1 pe2 cs1 cs2 cr1 cr2
          intro r0
          with_reducible refine' PairV.el Bn.s1.pv ?_
          intro tq4 pe1 pe2
          with_reducible refine' CtxAt.el (COat Bn.s1.s) ?_
          intro z1 z2 z3 z4 z5 z6 cs1 cs2 xA xB
          clear xA xB
          with_reducible refine' CtxAt.el (COat Bn.s1.r) ?_
          intro w1 w2 w3 w4 w5 w6 cr1 cr2 yA yB
          clear yA yB
          refine' P_execs_consA ?_
          walk_at "42"
          rename RC _ _ _ _ _ _ => r0
          refine' r_item_neg r0 ?y21 (by decide) (by walk_at "om") (by walk_at "om") eLT ?_ (by with_unfolding_all exact rfl)
          case y21 => exact PH.set_at (by walk_at "om") eqT
          walk_at "9"
          rename RC _ _ _ _ _ _ => r0
          refine' r_item_neg r0 ?y22 (by decide) (by walk_at "om") (by walk_at "om") eLO ?_ (by with_unfolding_all exact rfl)
          case y22 => exact PH.set_at (by walk_at "om") eqO
          walk_at "2"
          rename RC _ _ _ _ _ _ => r0
          refine' r_ne_tup r0 OB ?y23 ?y24 ?y25 ?y26 ?y27 ?_
          case y23 => exact PH.set_at (by walk_at "om") (PH.set_self _ _ _)
          case y24 => exact PH.set_self _ _ _
          case y25 => exact .cons (.b _ _) (.cons (.b _ _) .nil)
          case y26 => exact .cons (.b _ _) (.cons (.b _ _) .nil)
          case y27 => exact .b _ _ (.b _ _ .nil)
          rw [ne_dec]
          walk_at "3"
          refine' P_any ?_
          walk_at "1"
          rename RC _ _ _ _ _ _ => r0
          with_reducible refine' RC.drop1 (H1 := Hn) r0 ?y28 ?_
          case y28 => exact PH.le_new (PH.le_new (PH.le_refl _) (bnn _ (by walk_at "om"))) (bnn _ (by walk_at "om"))
          clear r0 pe1 pe2 cs1 cs2 cr1 cr2
          intro r0
          refine' hTQ _ _ _ _ _ (by walk_at "om") hit ?_ r0
          have wO : RowIs Hn suite version qO sO (c + U.toNat) := ⟨wsO, uO, uOc, eqO, lwO, gO0, gOc⟩
          have wT : RowIs Hn suite version qT sT (c + U.toNat) := ⟨wsT, uT, uTc, eqT, lwT, gT0, gTc⟩
          have wa := RowIs.sel vo wO wT
          have wb := RowIs.sel vo wT wO
          rw [hqO, hqT, hsO, hsT, sel_sel, sel_sel] at wa wb
          refine ⟨c + U.toNat, nu, rl2, qa, qb, tnu, tvq, tsq, Nat.add_le_add hc hU1, num_st hnm hnu, ?_, erl, wa, wb, e1, e2, j1, j2, j3, j4, by rw [← p3]; exact nr, nq0, nq1⟩
          refine ES.mono (b := b0 + 1 + 1 + 1 + 1 + 1 + 1 + 1 + 1 + 1 + 1) (ES.back (v := vo) ?_) (bEnd hb0)
          rw [sel_same, sel_CO, sel_CO, ← hsO, ← hsT, ← hA2]
          exact Bn
  intro turnT
  obtain ⟨c1, g1, d1⟩ := hcells "version" (L' + 1) rfl
  obtain ⟨c2, g2, d2⟩ := hcells "suite" (L' + 2) rfl
  have hzL : H0.objs.size ≤ L' + 1 := by walk_at "om"
  have R1 := R'.know (a := L' + 1) (y := CE none) (by walk_at "om") hzL g1 d1
  have R2 := R1.know (a := L' + 2) (y := CE none) (by walk_at "om") (by walk_at "om") g2 d2
  clear R' R1 hcells
  refine' P_execs_consA ?_
  walk_at "10"
  rename RC _ _ _ _ _ _ => r0
  refine' state_ct G (by walk_at "om") (O.deep (by decide)) r0 hi hv hs (by decide) ?_
  intro st cl H1 h' n' tk' hn le1 hst r1
  clear r0
  have e1 : H1 (L' + 1) = some (CE none) := le1 _ _ (by walk_at "lk")
  have e2 : H1 (L' + 2) = some (CE none) := le1 _ _ (by walk_at "lk")
  obtain ⟨_, es1⟩ := StC.ex1 hst
  walk_at "1"
  refine' P_execs_consA ?_
  walk_at "8"
  rename RC _ _ _ _ _ _ => r0
  have bn1 := r0.bnd
  obtain ⟨n1, hn1e⟩ : ∃ x, x = n' := ⟨_, rfl⟩
  have lst : st < n1 := by rw [hn1e]; exact r0.lt es1
  refine' begun_ct G (by walk_at "om") (O.deep (by decide)) r0 hst (by decide) ?_
  intro tp sl a version suite s0 s1 u1 u2 u3 u4 H2 h' n2 tk' ea1 ea2 hsu ls0 ls1 hn2 nsd nsl hnew hls etp esl B r1
  clear r0
  have f1 : H2 (L' + 1) = some (CE none) := B.o _ _ (fun q => by rcases hnew _ q with q | q; exact ne_of e1 es1 (fun q => nomatch (show AO.prp _ = AO.lst _ from q)) (q.trans ea1); walk_at "om") e1
  have f2 : H2 (L' + 2) = some (CE none) := B.o _ _ (fun q => by rcases hnew _ q with q | q; exact ne_of e2 es1 (fun q => nomatch (show AO.prp _ = AO.lst _ from q)) (q.trans ea1); walk_at "om") e2
  have esd := esl_of hls B.sd
  walk_at "14"
  subst ea1 ea2
  have B3 := (B.rebase.cell (v := some (.int version u1)) f1).cell (v := some (.int suite u2)) (PH.set_at (by walk_at "om") f2)
  have esl3 : ((H2.set (L' + 1) (CE (some (.int version u1)))).set (L' + 2) (CE (some (.int suite u2)))) sl = _ := PH.set_at (ne_of esl f2 (fun q => nomatch (show AO.lst _ = AO.prp _ from q))) (PH.set_at (ne_of esl f1 (fun q => nomatch (show AO.lst _ = AO.prp _ from q))) esl)
  have g1 : ((H2.set (L' + 1) (CE (some (.int version u1)))).set (L' + 2) (CE (some (.int suite u2)))) (L' + 1) = _ := PH.set_at (by walk_at "om") (PH.set_self _ _ _)
  have g2 : ((H2.set (L' + 1) (CE (some (.int version u1)))).set (L' + 2) (CE (some (.int suite u2)))) (L' + 2) = _ := PH.set_self _ _ _
  clear f1 f2 esl etp esd B
  rename RC _ _ _ _ _ _ => r0
  generalize (H2.set (L' + 1) (CE (some (.int version u1)))).set (L' + 2) (CE (some (.int suite u2))) = H3 at r0 B3 esl3 g1 g2
  have bn3 := r0.bnd
  have esd3 := esl_of hls B3.sd
  have lsl := r0.lt esl3
  have lsd := r0.lt esd3
  refine' P_execs_consA ?_
  walk_at "23"
  rename RC _ _ _ _ _ _ => r0
  with_reducible refine' RC.rows3 bn3 r0 (by k_dflt walk_at "om") (by k_dflt walk_at "om") (by k_dflt walk_at "om") ?_
  clear r0
  intro H4 le4 eq0 eq1 erl r0
  obtain ⟨q0, rfl, eq0⟩ := sd_ex eq0
  obtain ⟨q1, rfl, eq1⟩ := sd_ex eq1
  obtain ⟨rl, rfl, erl⟩ := sd_ex erl
  have B4 := B3.le le4
  have g1 := le4 _ _ g1
  have g2 := le4 _ _ g2
  have bn4 := r0.bnd
  refine' P_execs_consA ?_
  walk_at "31"
  rename RC _ _ _ _ _ _ => r0
  have lq0 := bn4.lt eq0
  have lq1 := bn4.lt eq1
  have lrl := bn4.lt erl
  have bst : a.st < n1 := lst
  obtain ⟨vst, est⟩ := B4.st.ex1
  have nc1 : NE (L' + 1) a.st := ne_of g1 est (fun q => nomatch (show AO.prp _ = AO.lst _ from q))
  have nc2 : NE (L' + 2) a.st := ne_of g2 est (fun q => nomatch (show AO.prp _ = AO.lst _ from q))
  refine' take_ct G (by walk_at "om") (O.deep (by decide)) r0 (B4.st.le ?lle) (by decide) (by walk_at "om") ?_
  case lle => walk_at "le"
  intro v1 t1 x1 h' n5 tk' v10 v11 hn5 hs5 r1
  with_reducible refine' ES.draw B4 ?lle r1 hs5 ?_
  case lle => exact PH.le_new (PH.le_refl _) (bn4 _ (by walk_at "om"))
  clear r0 r1 hs5
  intro H5 oq5 B5 r0
  have ecs := oq5 _ _ (by walk_at "om") (PH.set_self _ _ _)
  refine' r_item_ints (ns := [0, 255, (2 : Int) ^ (Int.toNat 31), (2 : Int) ^ (Int.toNat 62) - 20]) r0 ecs ?hi v10 (by walk_at "om") (by simp only [List.length_cons, List.length_nil]; walk_at "om") ?_
  case hi => walk_at "intsare"
  obtain ⟨nm, enm, hnm⟩ := nm0_of v1 v10 v11
  rw [enm]
  intro tnm
  have eq0 := oq5 _ _ (by walk_at "om") (PH.set_at (by walk_at "om") eq0)
  have eq1 := oq5 _ _ (by walk_at "om") (PH.set_at (by walk_at "om") eq1)
  have erl := oq5 _ _ (by walk_at "om") (PH.set_at (by walk_at "om") erl)
  have g1 := oq5 _ _ nc1 (PH.set_at (by walk_at "om") g1)
  have g2 := oq5 _ _ nc2 (PH.set_at (by walk_at "om") g2)
  have lsd5 : a.sd < n5 := by walk_at "om"
  clear ecs oq5 enm B4 B3
  walk_at "1"
  refine' P_execs_cons ?_
  refine' P_For ?_ ?hf
  case hf => intro _; exact rfl
  walk_at "15"
  rename RC _ _ _ _ _ _ => r0
  refine' take_ct G (by walk_at "om") (O.deep (by decide)) r0 B5.st (by decide) (by walk_at "om") ?_
  intro v2 t2 x2 h' n6 tk' v20 v21 hn6 hs6 r1
  with_reducible refine' ES.draw B5 (PH.le_refl _) r1 hs6 ?_
  clear r0 r1 hs6
  intro H6 oq6 B6 r0
  have eq0 := oq6 _ _ (by walk_at "om") eq0
  have eq1 := oq6 _ _ (by walk_at "om") eq1
  have erl := oq6 _ _ (by walk_at "om") erl
  have g1 := oq6 _ _ nc1 g1
  have g2 := oq6 _ _ nc2 g2
  clear oq6 B5
  have bn6 := r0.bnd
  walk_at "4"
  rename RC _ _ _ _ _ _ => r0
  refine' RC.new2 bn6 r0 (by walk_at "om") (by walk_at "om") ?_
  clear r0
  intro H7 le7 _ hit r0
  obtain ⟨it, rfl, hit⟩ := sd_ex hit
  obtain ⟨N, eN, hN1⟩ : ∃ N : Nat, 1 + v2 = (N : Int) ∧ N ≤ 6 := nat6 v20 v21
  rw [eN] at hit
  refine' range_turns2G (N := N) ?hh r0 hit (LInv L' a suite version s0 s1) ?i0 ?turn ?fin ?hinv ?hk ?hl
  case hk => exact rfl
  case hl => exact rfl
  case hh => exact O.hd
  case i0 =>
    refine ⟨0, nm, rl, q0, q1, _, _, _, Nat.le_refl _, by omega, ((B6.le le7).rebase).mono (by omega), le7 _ _ erl, ⟨_, _, _, le7 _ _ eq0, rfl, rfl, rfl⟩, ⟨_, _, _, le7 _ _ eq1, rfl, rfl, rfl⟩, le7 _ _ g1, le7 _ _ g2, rfl, rfl, rfl, rfl, ?_, ?_, ?_⟩
    · show rl ≠ a.st; omega
    · show q0 ≠ a.st; omega
    · show q1 ≠ a.st; omega
  case hinv =>
    rintro i H' H'' m' oo ⟨o, ho⟩ I
    exact I.raw oo ho
  case turn =>
    intro i H' m' n' h' tk' tk'' hi I hn hit r1
    exact turnT.out _ a suite version s0 s1 it N i H' m' n' h' tk' tk'' _ (Ok.mark0 (O.deep (by decide))) hsu ls0 ls1 hls hN1 hi I (by walk_at "om") hit r1 (fun H'' m'' n'' h'' tk3 hn' hit' I' R' => turn_next R' (by walk_at "om") hit' I')
  case fin =>
    intro H' m' n' h' tk' I hn r1
    refine' P_execs_consA ?_
    walk_at "2"
    rename RC _ _ _ _ _ _ => r0
    exact k _ _ _ (by walk_at "om") (r0.pop.weak (fun _ _ e => nomatch e))
end
theorem ok_start : Ok callerA 20 := ⟨rfl, by decide +kernel, by decide +kernel⟩
theorem w1 : PySem.Challenge.rw_ja0003_02.Holds := hd2 (by
  delta Mine.HK
  k_fill
  intro w s₀ s₁ mg mb G Y fa o pm cd doc dV kV ho hd hcd hD hmg hg args vals as hpre hlay hrd hwl hlo
  have KX := kIn_of Y
  have GG : Mine.Gd _ s₁.heap := ⟨KX, ⟨_, _, _, _, topRead_of G.T⟩⟩
  have ef : nsIn (Mine.KK w.params) mainGlobals "law" = some (some (.ref 455)) := by k_is
  have em := mg_of KX (topRead_of G.T).g ef
  obtain rfl : fa = 455 := by
    have := hmg.symm.trans em
    injection this with this
    injection this
  clear hd hD ho hcd hmg
  wrow_args hpre hlay hrd hwl hlo
  rename IntsAre _ _ => hints
  rename Heap.IsList _ _ _ => hlst
  rename ¬ _ => hlen
  obtain ⟨h, g, d, tk, os⟩ := s₁
  refine Mine.P_mono (Mine.law_ct (E := fun _ _ => False) (Q := fun v s' => ∃ h' n' tk', v = .bool true ∧ s' = ⟨h', g, d, tk', os⟩ ∧ Mine.RC w.params h [] (fun _ => none) n' h') GG (Nat.le_refl _) Mine.ok_start (Mine.RC.start h) hlst hints (by omega) ?_) ?_ (fun _ _ x => x.elim)
  · intro h' n' tk' _ R
    exact ⟨h', n', tk', rfl, rfl, R⟩
  · rintro v s' ⟨h', n', tk', rfl, rfl, R⟩
    refine GoodW.toG ⟨.inl ⟨.bool true, .bool true, [], rfl, fun _ => rfl, .bool true, ?_, fun _ => ⟨List.nodup_nil, fun _ h => nomatch h⟩⟩, R.ext, rfl, hg⟩
    first
    | kernel_rfl
    | (show (WShape.has _ _ _ && WTm.holds _ _ _) = true; simp [WTm.holds, WTm.value, WShape.has]))
end Mine
theorem PySem.Challenge.cw_ja0003_02_holds : PySem.Challenge.rw_ja0003_02.Holds := by
  exact Mine.w1
