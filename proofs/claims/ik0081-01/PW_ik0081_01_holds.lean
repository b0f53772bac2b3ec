import PyProof.Rows.All
import Wide.All
import OpenK.AllK
import Wide.FinOn
import Lean
import PySem.Challenge.RW_ik0081_01
open PySem PySem.W PyProof.Rows PySem.Spec PySem.Calls
set_option Elab.async false
set_option linter.all false
set_option compiler.extract_closed false
set_option maxRecDepth 100000
set_option maxHeartbeats 4000000
set_option genSizeOfSpec false
set_option genSizeOf false
set_option genInjectivity false
namespace Mine
example : True := by
 k_with "OMT" => (with_reducible (first | assumption | exact Nat.le_trans ‹_› (by decide) | exact ub1 ‹_› (Nat.le_trans ‹_› (by decide)) | exact Nat.lt_of_lt_of_le ‹_› (by decide) | exact Nat.lt_of_le_of_lt ‹_› (by decide) | exact ub1 ‹_› (by decide) | exact ul3 ‹_› ‹_› | exact Nat.le_of_lt ‹_› | exact o77 ‹_› | exact o78 ‹_› | decide | exact Nat.le_trans (Nat.le_succ _) (Nat.le_succ _) | exact ub1 ‹_› (ub8 ‹_› (by decide))))
 k_with "W1" => (first | k_extra "OMT" | omega)
 k_with "W2" => (first | (fail_if_success k_fold) | (refine lfold ?_; intro qk ek))
 k_with "W3" => ((first | exact rm0 (by with_reducible assumption) | exact o25 (by with_reducible assumption) | exact rm1 (by with_reducible assumption) (by decide) | exact rm2 (by with_reducible assumption) (by decide)))
 k_with "W4" => ((refine' code_def ?q4k1 ?q4k2 ?q4k3 ?q4k4 ?q4k5 ?q4kA ?q4kF ?q4kK ?q4k6 ?q4k7 ?q4k8 ?q4k9 ?q4kB ?_ ?q4c2 ?q4c3 ?q4c4 ?q4c5; (case q4kA => exact rfl); (case q4kF => exact rfl); (case q4kK => first | exact rfl | assumption); (case q4k1 => k_asm); (case q4k2 => k_asm); (case q4k3 => k_asm); (case q4k4 => k_asm); (case q4k5 => k_asm); (case q4k6 => k_is); (case q4k7 => k_is); (case q4k8 => ktr_room); (case q4k9 => first | exact BindsTo.of_eq rfl | exact binds_K (by k_in) rfl (by k_is) rfl rfl rfl | fail "k_enter: no rule for these arguments"); (case q4c5 => decide); (case q4kB => exact locs rfl); (case q4c2 => exact rfl); (case q4c3 => exact rfl); (case q4c4 => exact rfl); k_whole))
 k_with "W5" => ((refine' code_defC ?q5k1 ?q5k2 ?q5k3 ?q5k4 ?q5k5 ?q5kA ?q5kF ?q5kK ?q5k6 ?q5k7 ?q5k8 ?q5k9 ?q5kB ?q5kD ?_ ?q5c2 ?q5c3 ?q5c4; (case q5kA => exact rfl); (case q5kF => exact rfl); (case q5kK => first | exact rfl | assumption); (case q5k1 => k_asm); (case q5k2 => k_asm); (case q5k3 => k_asm); (case q5k4 => k_asm); (case q5k5 => k_asm); (case q5k6 => k_is); (case q5k7 => k_is); (case q5k8 => ktr_room); (case q5k9 => first | exact BindsTo.of_eq rfl | exact binds_K (by k_in) rfl (by k_is) rfl rfl rfl | fail "k_enter: no rule for these arguments"); (case q5kB => exact rfl); (case q5kD => decide +kernel); (case q5c2 => exact rfl); (case q5c3 => exact rfl); (case q5c4 => exact rfl); k_whole))
 k_with "W6" => (first | exact ne_of_lt_all (by assumption) (Nat.le_refl _) | exact ne_of_lt_all (by assumption) (by cb_size))
 k_with "W7" => ((k_here; (with_reducible show wpAny _ _ (getMethod (Value.ref _) (Str.ofString "get") _) _ _ _); k_dflt (refine' kdg_method (knd := strKind _ _) ?q7zN ?q7zp ?q7zd ?_; (case q7zN => k_asm); (case q7zp => with_reducible assumption); (case q7zd => with_reducible assumption); k_whole)))
 k_with "W8" => ((k_here; k_dflt (refine' kdg_get1 (knd := strKind _ _) ?q8zN ?q8zp ?q8zd ?q8zl ?q8zk _ ?q8zv ?_; (case q8zN => k_asm); (case q8zp => with_reducible assumption); (case q8zd => with_reducible assumption); (case q8zl => assumption); (case q8zk => exact strKind_is _ _ _ _); (case q8zv => assumption); k_whole); (try dsimp only [Option.getD])))
 k_with "W9" => (((with_reducible refine mem_of ?_); ktr_member))
 k_with "W10" => (((try dsimp only); (refine' neN ?_); (first | (refine' ne_fresh ?q10zm ?q10zl ?q10zx; (case q10zm => assumption); (case q10zl => assumption); (case q10zx => first | exact Nat.le_refl _ | cb_size)) | (refine' Ne.symm ?_; refine' ne_fresh ?q10zm ?q10zl ?q10zx; (case q10zm => assumption); (case q10zl => assumption); (case q10zx => first | exact Nat.le_refl _ | cb_size)))))
 k_with "W11" => (exact upd_rep (by assumption) (by assumption))
 k_with "W12" => (exact updF_rep (by assumption) (by assumption))
 k_with "W13" => (((k_here; (with_reducible show wpAny _ _ (setItem (Value.ref _) (Value.str _ _) _) _ _ _); k_dflt (refine' kda_set (knd := strKind _ _) ?q13zF ?q13zN ?q13zU ?q13zd ?q13zk ?q13zz ?_; (case q13zF => k_asm); (case q13zN => k_asm); (case q13zU => k_updF); (case q13zd => with_reducible assumption); (case q13zk => exact strKind_is _ _ _ _); (case q13zz => assumption); k_whole)); intro _ _ _ _ _))
 k_with "W14" => ((k_here; (with_reducible show wpAny _ _ (call (Value.builtin "len") [Value.ref _]) _ _ _); k_dflt (first | (refine' len_tupL ?q14zN ?q14zm ?q14zz ?_; (case q14zN => k_asm); (case q14zm => with_reducible assumption); (case q14zz => first | k_extra "OMT" | omega); k_whole) | (refine' len_lstL ?q14zN ?q14zm ?q14zz ?_; (case q14zN => k_asm); (case q14zm => with_reducible assumption); (case q14zz => first | k_extra "OMT" | omega); k_whole))))
 k_with "W15" => ((k_here; (with_reducible show wpAny _ _ (call (Value.type "bool") [Value.ref _]) _ _ _); k_dflt (refine' call_bool_lst ?q15zN ?q15zm ?q15zz ?_; (case q15zN => k_asm); (case q15zm => with_reducible assumption); (case q15zz => first | k_extra "OMT" | omega); k_whole)))
 k_with "W16" => ((k_here; (with_reducible show wpAny _ _ (truthy (Value.ref _)) _ _ _); k_dflt (refine' truthy_lst ?q16zN ?q16zm ?q16zz ?_; (case q16zN => k_asm); (case q16zm => with_reducible assumption); (case q16zz => first | k_extra "OMT" | omega); k_whole)))
 k_with "W17" => ((k_here; (with_reducible show wpAny _ _ (subscriptTail _ _ (Value.ref _) (Value.str _ _)) _ _ _); k_dflt (refine' kda_item (knd := strKind _ _) ?q17zN ?q17zp ?q17zd ?q17zk ?q17zv ?_ ?q17zs ?q17zg; (case q17zN => k_asm); (case q17zp => with_reducible assumption); (case q17zd => with_reducible assumption); (case q17zk => exact strKind_is _ _ _ _); (case q17zv => assumption); (case q17zs => with_unfolding_all rfl); (case q17zg => intro _; with_unfolding_all rfl); k_whole)))
 k_with "W18" => ((k_here; (try clear qk); (try clear ek); (try k_gentoks); (with_reducible refine xcons ?_); intro qk ek; (try dsimp only)))
 k_with "W19" => (first | with_reducible refine nx_next ?_ | with_reducible refine nx_ret ?_ | with_reducible refine nx_brk ?_ | with_reducible refine nx_cont ?_)
 k_with "W20" => ((k_here; with_reducible refine kint ?_))
 k_with "W21" => ((k_here; with_reducible refine kstr ?_))
 k_with "W22" => ((k_here; with_reducible refine For_led ?_ ?_; rotate_left; with_unfolding_all (intro _; rfl)))
 k_with "W23" => ((k_here; with_reducible refine ws_while ?_))
 k_with "W24" => ((k_here; with_reducible refine ws_try ?_))
 k_with "W25" => ((k_here; (with_reducible show wpAny _ _ (compareOp CmpOp.In (Value.str _ _) (Value.ref _)) _ _ _); k_dflt (refine' kda_in (knd := PySem.strKind _ _) ?q25zN ?q25zp ?q25zd ?q25zl ?q25zk _ ?q25zb ?_; (case q25zN => k_asm); (case q25zp => with_reducible assumption); (case q25zd => with_reducible assumption); (case q25zl => assumption); (case q25zk => exact strKind_is _ _ _ _); (case q25zb => assumption); k_whole)))
 k_with "W26" => ((k_here; (with_reducible show wpAny _ _ (call (Value.builtin "iter") [Value.ref _]) _ _ _); k_dflt (refine' iter_lst ?q26zF ?q26zN ?q26zl ?_; (case q26zF => k_asm); (case q26zN => k_asm); (case q26zl => with_reducible assumption); k_whole)))
 k_with "W27" => ((k_here; (with_reducible show wpAny _ _ (getAttr (Value.ref _) (Str.ofString "__next__") _) _ _ _); k_dflt (refine' next_of ?q27zF ?q27zN ?q27zl ?_; (case q27zF => k_asm); (case q27zN => k_asm); (case q27zl => first | exact .head _ | with_reducible assumption); k_whole)))
 k_with "W28" => ((k_here; (with_reducible show wpAny _ _ (subscriptTail _ (PySem.Expr.Slice _ _ none _) (Value.ref _) (Value.ref _)) _ _ _); k_dflt (refine' kms_slice_lit (its := List.toArray _) (zs := kms_pick _ _ _) ?q28zF ?q28zN ?q28zl ?q28zp ?q28zq ?q28ze ?_ ?q28zs ?q28zt ?q28zz; (case q28zF => k_asm); (case q28zN => k_asm); (case q28zl => exact News.isList (by k_asm) (by with_reducible assumption)); (case q28zp => kmk_part); (case q28zq => kmk_part); (case q28ze => exact rfl); (case q28zs => with_unfolding_all rfl); (case q28zt => kmk_pure); (case q28zz => (rw [List.size_toArray, sizeLine_eq]; cb_size)))))
 k_with "W29" => ((k_here; (with_reducible show wpAny _ _ (binaryOp _ (Value.ref _) (Value.ref _)) _ _ _); k_dflt (refine' kmk_add_lit (its := List.toArray (kms_pick _ _ _)) ?q29zF ?q29zN ?q29za ?q29zb ?q29ze ?_ ?q29zz; (case q29zF => k_asm); (case q29zN => k_asm); (case q29za => kmk_list); (case q29zb => kmk_list); (case q29ze => exact rfl); (case q29zz => (simp only [List.length_cons, List.length_nil, sizeLine_eq]; cb_size)))))
 k_with "W30" => ((k_here; (with_reducible show wpAny _ _ (subscriptTail _ _ (Value.ref _) (Value.int _ _)) _ _ _); k_dflt (refine' kde_neg (vs := List.map _ _) ?q30zl ?q30z0 ?q30z1 ?q30zj ?q30zx ?_ ?q30zs; (case q30zl => exact News.isList (by k_asm) (by with_reducible assumption)); (case q30z0 => decide); (case q30z1 => decide); (case q30zj => assumption); (case q30zx => assumption); (case q30zs => with_unfolding_all rfl); k_whole)))
 k_with "W31" => (((k_here; k_dflt (refine' kl_pop (its := List.toArray (_ ++ [_])) ?q31zF ?q31zN (kpa_last _ _) ?q31zU ?q31zz ?_; (case q31zF => k_asm); (case q31zN => k_asm); (case q31zU => k_upd); (case q31zz => (simp only [List.length_append, List.length_cons, List.length_nil, List.length_map, List.length_reverse, sizeLine_eq]; cb_size)); k_whole)); intro _ _ _))
 k_with "W32" => (((k_here; k_dflt (refine' kob_del (knd := PySem.strKind _ _) ?q32zF ?q32zN ?q32zU ?q32zd (strKind_is _ _ _ _) ?q32zl ?q32zz ?_; (case q32zF => k_asm); (case q32zN => k_asm); (case q32zU => k_updF); (case q32zd => with_reducible assumption); (case q32zl => assumption); (case q32zz => assumption); k_whole)); intro _ _ _ _ _))
 k_with "W33" => ((k_here; (with_reducible show wpAny _ _ (getMethod (Value.ref _) (Str.ofString "append") _) _ _ _); k_dflt (first | (refine' listMethod_K ?q33zN ?q33zm PySem.F.slot_list_append PySem.F.type_list_append ?_; (case q33zN => k_asm); (case q33zm => k_mem)) | with_reducible refine ws_any ?_)))
 k_with "W34" => ((k_here; (with_reducible show wpAny _ _ (getMethod (Value.ref _) (Str.ofString "pop") _) _ _ _); k_dflt (first | (refine' kl_method ?q34zN ?q34zm PySem.F.slot_list_pop PySem.F.type_list_pop ?_; (case q34zN => k_asm); (case q34zm => k_mem)) | with_reducible refine ws_any ?_)))
 k_with "W35" => ((k_here; k_dflt (refine' callWith_mw ?q35zN ?q35zm ?_; (case q35zm => with_reducible assumption); (case q35zN => k_asm); with_reducible refine ws_any ?_)))
 k_with "W36" => ((k_here; (with_reducible show wpAny _ _ (call (Value.ref 87) _) _ _ _); k_dflt (refine' getinfo ?q36zB ?q36zF ?q36zX ?q36zN ?q36zT ?q36zk ?q36zH ?q36znd ?q36z5 ?q36zd ?q36zu ?_; (case q36zB => k_asm); (case q36zF => k_asm); (case q36zX => k_asm); (case q36zN => k_asm); (case q36zT => k_asm); (case q36zk => exact rfl); (case q36zH => assumption); (case q36znd => assumption); (case q36z5 => assumption); (case q36zd => ktr_room); (case q36zu => ktr_units); k_whole)))
 k_with "W37" => (((k_here; (with_reducible show wpAny _ _ (call (Value.builtin "next") [Value.ref _]) _ _ _); k_dflt (refine' next_item ?q37zF ?q37zN ?q37zi ?q37zl ?q37zx ?_; (case q37zF => k_asm); (case q37zN => k_asm); (case q37zi => with_reducible assumption); (case q37zl => with_reducible assumption); (case q37zx => assumption); k_whole)); intro _ _ _))
 k_with "W38" => ((k_here; (with_reducible show wpAny _ _ (eval (PySem.Expr.ListComp _ [Comprehension.mk _ _ _ _] _ _) _) _ _ _); k_dflt (refine' comp_E1 ?q38zF ?q38zc ?q38ze ?q38zk ?q38zn ?_; (case q38zF => k_asm); (case q38zc => with_unfolding_all rfl); (case q38ze => decide); (case q38zk => exact rfl); (case q38zn => decide))))
 k_with "W39" => ((k_here; (with_reducible show wpAny _ _ (eval (PySem.Expr.ListComp (PySem.Expr.Name _ _) [Comprehension.mk _ _ _ _, Comprehension.mk (PySem.Expr.Name _ _) _ _ _] _ _) _) _ _ _); k_dflt (refine' comp_E2 ?q39zF ?q39zh ?q39zc ?q39ze ?q39zk ?q39zn ?q39zx ?q39zb ?_; (case q39zF => k_asm); (case q39zh => exact rfl); (case q39zc => with_unfolding_all rfl); (case q39ze => decide); (case q39zk => exact rfl); (case q39zn => decide); (case q39zx => exact rfl); (case q39zb => decide))))
 k_with "W40" => ((k_here; (with_reducible show wpAny _ _ (exec (Stmt.Assign [PySem.Expr.Name _ _] (PySem.Expr.ListComp _ [Comprehension.mk _ _ _ _] _ _) _) _) _ _ _); k_dflt (refine' comp_A1 ?q40zF ?q40zl ?q40zs ?q40zc ?q40ze ?q40zk ?q40zn ?q40zy ?q40zp ?_; (case q40zF => k_asm); (case q40zl => exact rfl); (case q40zs => with_unfolding_all rfl); (case q40zc => with_unfolding_all rfl); (case q40ze => decide); (case q40zk => exact rfl); (case q40zn => decide); (case q40zy => exact rfl); (case q40zp => exact rfl))))
 k_with "W41" => ((k_here; (with_reducible show wpAny _ _ (exec (Stmt.Assign [PySem.Expr.Name _ _] (PySem.Expr.ListComp (PySem.Expr.Name _ _) [Comprehension.mk _ _ _ _, Comprehension.mk (PySem.Expr.Name _ _) _ _ _] _ _) _) _) _ _ _); k_dflt (refine' comp_A2 ?q41zF ?q41zh ?q41zl ?q41zs ?q41zc ?q41ze ?q41zk ?q41zn ?q41zx ?q41zb ?q41zy ?q41zp ?_; (case q41zF => k_asm); (case q41zh => exact rfl); (case q41zl => exact rfl); (case q41zs => with_unfolding_all rfl); (case q41zc => with_unfolding_all rfl); (case q41ze => decide); (case q41zk => exact rfl); (case q41zn => decide); (case q41zx => exact rfl); (case q41zb => decide); (case q41zy => exact rfl); (case q41zp => exact rfl))))
 k_with "W42" => ((k_here; (with_reducible show wpAny _ _ (call (Value.builtin "len") [Value.ref _]) _ _ _); k_dflt (first | (refine' len_tupL ?q42zN ?q42zm ?q42zz ?_; (case q42zN => k_asm); (case q42zm => first | with_reducible assumption | k_mem); (case q42zz => first | k_extra "OMT" | omega); k_whole) | (refine' len_lstL ?q42zN ?q42zm ?q42zz ?_; (case q42zN => k_asm); (case q42zm => first | with_reducible assumption | k_mem); (case q42zz => first | k_extra "OMT" | omega); k_whole))))
 k_with "W43" => (((k_here; (with_reducible show wpAny _ _ (call (Value.builtin "issubclass") [Value.type "str", Value.ref _]) _ _ _); k_dflt (refine' call_isc ?q43zo ?_; (case q43zo => exact (News.get (by k_asm) (List.Mem.head _))); k_whole)); intro _))
 k_with "W44" => (((k_here; (with_reducible show wpAny _ _ (call (Value.ref 221) [Value.str _ _]) _ _ _); k_dflt (refine' fspath_spec ?q44zB ?q44zF ?q44zX ?q44zN ?q44zT ?q44zk ?q44zd ?q44zu ?_; (case q44zB => k_asm); (case q44zF => k_asm); (case q44zX => k_asm); (case q44zN => k_asm); (case q44zT => k_asm); (case q44zk => exact rfl); (case q44zd => ktr_room); (case q44zu => ktr_units); k_whole)); intro _ _ _ _))
 k_with "W45" => (((k_here; (with_reducible show wpAny _ _ (call (Value.ref 249) [Value.str _ _]) _ _ _); k_dflt (refine' splitroot_spec ?q45zB ?q45zF ?q45zX ?q45zN ?q45zT ?q45zk ?q45zx ?q45zn ?q45z1 ?q45z2 ?q45zd ?q45zu ?_; (case q45zB => k_asm); (case q45zF => k_asm); (case q45zX => k_asm); (case q45zN => k_asm); (case q45zT => k_asm); (case q45zk => exact rfl); (case q45zx => first | with_reducible assumption | assumption); (case q45zn => assumption); (case q45z1 => assumption); (case q45z2 => assumption); (case q45zd => ktr_room); (case q45zu => ktr_units); k_whole)); intro _ _ _ _ _ _ _ _ _))
 k_with "W46" => ((k_here; (with_reducible show wpAny _ _ (call (Value.builtin "str.split") [Value.str _ _, Value.str _ _]) _ _ _); k_dflt (refine' KSpl.split1 ?q46zF ?q46zN ?q46zy ?_ ?q46zs; (case q46zF => k_asm); (case q46zN => k_asm); (case q46zy => decide); (case q46zs => (first | assumption | cb_size)))))
 k_with "W47" => ((k_here; (with_reducible show wpAny _ _ (subscriptTail _ _ (Value.ref _) (Value.int _ _)) _ _ _); k_dflt (refine' kde_neg ?q47zl ?q47z0 ?q47z1 ?q47zj ?q47zx ?_ ?q47zs; (case q47zl => exact News.isList (by k_asm) (by with_reducible assumption)); (case q47z0 => decide); (case q47z1 => decide); (case q47zj => assumption); (case q47zx => assumption); (case q47zs => with_unfolding_all rfl); k_whole)))
 k_with "W48" => (((k_here; k_dflt (refine' kl_pop (its := List.toArray (_ ++ [_])) ?q48zF ?q48zN (kpa_last _ _) ?q48zU ?q48zz ?_; (case q48zF => k_asm); (case q48zN => k_asm); (case q48zU => k_upd); (case q48zz => assumption); k_whole)); intro _ _ _))
 k_with "W49" => ((k_here; (with_reducible show wpAny _ _ (call (Value.builtin "str.join") [Value.str _ _, Value.ref _]) _ _ _); k_dflt (refine' PyProof.Rows.join_list (items := List.toArray _) ?q49zl ?q49zi ?q49zo ?_; (case q49zl => exact News.isList (by k_asm) (by with_reducible assumption)); (case q49zi => assumption); (case q49zo => first | with_reducible assumption | assumption); k_whole)))
 k_with "W50" => ((k_here; (with_reducible show wpAny _ _ (compareOp CmpOp.NotIn (Value.int _ _) (Value.ref _)) _ _ _); k_dflt (refine' notin_list_ints ?q50zl ?q50zi ?_; (case q50zl => exact News.isList (by k_asm) (by first | with_reducible assumption | k_mem)); (case q50zi => assumption); k_whole)))
 k_with "W51" => ((k_here; (with_reducible show wpAny _ _ (compareOp CmpOp.Eq (Value.ref _) (Value.ref _)) _ _ _); k_dflt (refine' eq_intsK ?q51zl ?q51zi ?q51zr ?q51zj ?q51zu ?_; (case q51zl => exact News.isList (by k_asm) (by first | with_reducible assumption | k_mem)); (case q51zi => first | assumption | exact .nil); (case q51zr => exact News.isList (by k_asm) (by first | with_reducible assumption | k_mem)); (case q51zj => first | assumption | exact .nil); (case q51zu => ktr_units); k_whole)))
 k_with "W52" => ((k_here; (with_reducible show wpAny _ _ (compareOp CmpOp.NotEq (Value.ref _) (Value.ref _)) _ _ _); k_dflt (refine' ne_intsK ?q52zl ?q52zi ?q52zr ?q52zj ?q52zu ?_; (case q52zl => exact News.isList (by k_asm) (by first | with_reducible assumption | k_mem)); (case q52zi => first | assumption | exact .nil); (case q52zr => exact News.isList (by k_asm) (by first | with_reducible assumption | k_mem)); (case q52zj => first | assumption | exact .nil); (case q52zu => ktr_units); k_whole)))
 k_with "W53" => ((k_here; (with_reducible show wpAny _ _ (subscriptTail _ (PySem.Expr.Slice _ _ none _) (Value.ref _) (Value.ref _)) _ _ _); k_dflt (refine' kms_slice_lit (its := List.toArray _) (zs := kms_pick _ _ _) ?q53zF ?q53zN ?q53zl ?q53zp ?q53zq ?q53ze ?_ ?q53zs ?q53zt ?q53zz; (case q53zF => k_asm); (case q53zN => k_asm); (case q53zl => exact News.isList (by k_asm) (by first | with_reducible assumption | k_mem)); (case q53zp => kmk_part); (case q53zq => kmk_part); (case q53ze => exact rfl); (case q53zs => with_unfolding_all rfl); (case q53zt => kmk_pure); (case q53zz => (rw [List.size_toArray, sizeLine_eq]; cb_size)))))
 k_with "W54" => ((k_here; (with_reducible show wpAny _ _ (subscriptTail _ _ (Value.ref _) (Value.int (Nat.cast _) _)) _ _ _); k_dflt (refine' item_nat ?q54zN ?q54zm ?q54zx ?q54zk ?_ ?q54zs ?q54zg; (case q54zN => k_asm); (case q54zm => with_reducible assumption); (case q54zx => assumption); (case q54zk => cb_size); (case q54zs => with_unfolding_all rfl); (case q54zg => intro _; with_unfolding_all rfl); k_whole)))
 k_with "W55" => ((k_here; (with_reducible show wpAny _ _ (subscriptTail _ _ (Value.ref _) (Value.int (OfNat.ofNat _) _)) _ _ _); k_dflt (refine' item_at ?q55zN ?q55zm ?q55z0 ?q55z1 ?q55zx ?_ ?q55zs ?q55zg; (case q55zN => k_asm); (case q55zm => with_reducible assumption); (case q55z0 => decide); (case q55z1 => decide); (case q55zx => exact rfl); (case q55zs => with_unfolding_all rfl); (case q55zg => intro _; with_unfolding_all rfl); k_whole)))
 k_with "W56" => ((k_here; (with_reducible show wpAny _ _ (getMethod (Value.ref _) (Str.ofString "values") _) _ _ _); k_dflt (refine' kdl_method (knd := PySem.strKind _ _) PySem.F.slot_dict_values PySem.F.type_dict_values ?q56zN ?q56zp ?q56zd ?_; (case q56zN => k_asm); (case q56zp => with_reducible assumption); (case q56zd => with_reducible assumption); k_whole)))
 k_with "W57" => ((k_here; (with_reducible show wpAny _ _ (call (Value.builtin "dict.values") [Value.ref _]) _ _ _); k_dflt (refine' kdl_view_values (knd := PySem.strKind _ _) ?q57zF ?q57zN ?q57zp ?q57zd ?q57zl ?_; (case q57zF => k_asm); (case q57zN => k_asm); (case q57zp => with_reducible assumption); (case q57zd => with_reducible assumption); (case q57zl => assumption))))
 k_with "W58" => (((k_here; (with_reducible show wpAny _ _ (call (Value.ref 134) _) _ _ _); k_dflt (refine' find_spec ?q58zB ?q58zF ?q58zX ?q58zN ?q58zT ?q58zk ?q58zXB ?q58zTB ?q58zKD ?q58zH ?q58znd ?q58zcl ?q58zb ?q58zd ?q58zu ?_; (case q58zB => k_asm); (case q58zF => k_asm); (case q58zX => k_asm); (case q58zN => k_asm); (case q58zT => k_asm); (case q58zk => exact rfl); (case q58zXB => assumption); (case q58zTB => assumption); (case q58zKD => assumption); (case q58zH => assumption); (case q58znd => assumption); (case q58zcl => assumption); (case q58zb => assumption); (case q58zd => ktr_room); (case q58zu => ktr_units); k_whole)); intro _ _ _ _ _ _ _ _ _ _ _))
 k_with "W59" => ((k_here; (with_reducible show wpAny _ _ (getMethod (Value.ref _) (Str.ofString "_find_cycle") _) _ _ _); k_dflt (first | (refine' method_inst ?q59z1 ?q59z2 ?q59z3 ?q59z4 ?q59z5 ?q59z6 ?q59z7 ?_; (case q59z1 => k_asm); (case q59z2 => k_asm); (case q59z3 => k_inst); (case q59z4 => k_is); (case q59z5 => k_is); (case q59z6 => k_is); (case q59z7 => k_get); k_whole) | with_reducible refine ws_any ?_)))
 k_with "W60" => ((k_here; (with_reducible show wpAny _ _ (call (Value.ref 28) _) _ _ _); with_reducible refine ws_call ?_))
 k_with "W61" => ((k_here; (with_reducible show wpAny _ _ (subscriptTail _ _ (Value.ref _) (Value.int (OfNat.ofNat _) _)) _ _ _); k_dflt (refine' item_at ?q61zN ?q61zm ?q61z0 ?q61z1 ?q61zx ?_ ?q61zs ?q61zg; (case q61zN => k_asm); (case q61zm => first | with_reducible assumption | k_mem); (case q61z0 => decide); (case q61z1 => decide); (case q61zx => assumption); (case q61zs => with_unfolding_all rfl); (case q61zg => intro _; with_unfolding_all rfl); k_whole)))
 k_with "W62" => ((k_here; (with_reducible show wpAny _ _ (subscriptTail _ (PySem.Expr.Slice _ _ none _) (Value.ref _) (Value.ref _)) _ _ _); k_dflt (refine' slice_L ?q62zF ?q62zN ?q62zm ?q62zp ?q62zq ?_ ?q62zs ?q62zt ?q62zz; (case q62zF => k_asm); (case q62zN => k_asm); (case q62zm => first | with_reducible assumption | k_mem); (case q62zp => kmk_part); (case q62zq => kmk_part); (case q62zs => with_unfolding_all rfl); (case q62zt => kmk_pure); (case q62zz => (rw [sizeLine_eq]; cb_size)))))
 k_with "W63" => ((k_here; (with_reducible show wpAny _ _ (compareOp CmpOp.NotEq (Value.ref _) (Value.ref _)) _ _ _); k_dflt (refine' ne_strsK ?q63zl ?q63zi ?q63zr ?q63zj ?q63zu ?_; (case q63zl => exact isL (by k_asm) (by first | with_reducible assumption | k_mem)); (case q63zi => first | assumption | (refine' strs_pick1 ?q63zq _; (case q63zq => assumption))); (case q63zr => exact isL (by k_asm) (by first | with_reducible assumption | k_mem)); (case q63zj => first | assumption | (refine' strs_pick1 ?q63zq _; (case q63zq => assumption))); (case q63zu => ktr_units); k_whole)))
 k_with "W64" => ((k_here; (with_reducible show wpAny _ _ (compareOp CmpOp.Eq (Value.ref _) (Value.ref _)) _ _ _); k_dflt (refine' eq_noneK ?q64zl ?q64zr ?q64zu ?_; (case q64zl => exact isL (by k_asm) (by first | with_reducible assumption | k_mem)); (case q64zr => exact isL (by k_asm) (by first | with_reducible assumption | k_mem)); (case q64zu => ktr_units); k_whole)))
 k_with "W65" => ((k_here; (with_reducible show wpAny _ _ (truthy (Value.ref _)) _ _ _); k_dflt (refine' ktl_truthyK ?q65zN ?q65zm ?q65zz ?_; (case q65zN => k_asm); (case q65zm => with_reducible assumption); (case q65zz => cb_size); k_whole)))
 k_with "W66" => ((k_here; (with_reducible show wpAny _ _ (subscriptTail _ _ (Value.ref _) (Value.int (OfNat.ofNat _) _)) _ _ _); k_dflt (refine' item_tupleL ?q66zt ?q66z0 ?q66z1 ?q66zj ?q66zx ?_ ?q66zs ?q66zg; (case q66zt => exact News.isTup (by k_asm) (by with_reducible assumption)); (case q66z0 => decide); (case q66z1 => decide); (case q66zj => assumption); (case q66zx => assumption); (case q66zs => with_unfolding_all rfl); (case q66zg => intro _; with_unfolding_all rfl); k_whole)))
 k_with "W67" => ((k_here; (with_reducible show wpAny _ _ (eval (PySem.Expr.SetComp _ [Comprehension.mk _ _ _ _] _ _) _) _ _ _); k_dflt (refine' comp_S1 ?q67zF ?q67zc ?q67ze ?q67zk ?q67zn ?_; (case q67zF => k_asm); (case q67zc => with_unfolding_all rfl); (case q67ze => decide); (case q67zk => exact rfl); (case q67zn => decide))))
 k_with "W68" => (((k_here; (with_reducible show wpAny _ _ (call (Value.builtin "min") [Value.ref _]) _ _ _); k_dflt (refine' min_tab ?q68zh ?q68zF ?q68zN ?q68zm ?q68zt ?q68zl ?q68zu ?_; (case q68zh => exact rfl); (case q68zF => k_asm); (case q68zN => k_asm); (case q68zm => with_reducible assumption); (case q68zt => assumption); (case q68zl => cb_size); (case q68zu => ktr_units); k_whole)); intro _ _ _ _ _ _ _ _ _))
 k_with "W69" => (((k_here; (with_reducible show wpAny _ _ (call (Value.builtin "max") [Value.ref _]) _ _ _); k_dflt (refine' max_tab ?q69zh ?q69zF ?q69zN ?q69zm ?q69zt ?q69zl ?q69zu ?_; (case q69zh => exact rfl); (case q69zF => k_asm); (case q69zN => k_asm); (case q69zm => with_reducible assumption); (case q69zt => assumption); (case q69zl => cb_size); (case q69zu => ktr_units); k_whole)); intro _ _ _ _ _ _ _ _ _))
 k_with "W70" => (((k_here; (with_reducible show wpAny _ _ (call (Value.type "map") [_, Value.ref _]) _ _ _); k_dflt (refine' map_made ?q70zF ?q70zN ?q70zm ?q70zc ?q70zd ?_; (case q70zF => k_asm); (case q70zN => k_asm); (case q70zm => first | with_reducible assumption | k_mem); (case q70zc => exact rfl); (case q70zd => exact rfl); k_whole)); intro _ _ _ _ _ _ _ _ _))
 k_with "W71" => ((k_here; with_reducible refine For_any ?_ ?_; rotate_left; with_unfolding_all (intro _; rfl)))
 k_with "W72" => ((k_here; (with_reducible show wpAny _ _ (subscriptTail _ _ (Value.ref _) (Value.int (Nat.cast _) _)) _ _ _); k_dflt (refine' item_nat ?q72zN ?q72zm ?q72zx ?q72zk ?_ ?q72zs ?q72zg; (case q72zN => k_asm); (case q72zm => first | with_reducible assumption | k_mem); (case q72zx => assumption); (case q72zk => cb_size); (case q72zs => with_unfolding_all rfl); (case q72zg => intro _; with_unfolding_all rfl); k_whole)))
 k_with "W73" => ((k_here; (with_reducible show wpAny _ _ (call (Value.ref 280) [Value.int _ _, Value.int _ _]) _ _ _); k_dflt (refine' waits_spec ?q73zB ?q73zF ?q73zX ?q73zN ?q73zT ?q73zk ?q73zn ?q73z5 ?q73zd ?q73zu ?_; (case q73zB => k_asm); (case q73zF => k_asm); (case q73zX => k_asm); (case q73zN => k_asm); (case q73zT => k_asm); (case q73zk => exact rfl); (case q73zn => assumption); (case q73z5 => assumption); (case q73zd => ktr_room); (case q73zu => ktr_units); k_whole)))
 k_with "W74" => ((k_here; (with_reducible show wpAny _ _ (call (Value.ref 268) [Value.int (Nat.cast _) _]) _ _ _); k_dflt (refine' octets_spec ?q74zB ?q74zF ?q74zX ?q74zN ?q74zT ?q74zk ?q74zx ?q74zd ?q74zu ?_; (case q74zB => k_asm); (case q74zF => k_asm); (case q74zX => k_asm); (case q74zN => k_asm); (case q74zT => k_asm); (case q74zk => exact rfl); (case q74zx => assumption); (case q74zd => ktr_room); (case q74zu => ktr_units); k_whole)))
 k_with "W75" => (((k_here; (with_reducible show wpAny _ _ (call (Value.ref 275) [Value.ref _]) _ _ _); k_dflt (refine' read_spec ?q75zB ?q75zF ?q75zX ?q75zN ?q75zT ?q75zk ?q75zXB ?q75zTB ?q75zKD ?q75zn ?q75zl ?q75zv ?q75zp ?q75zz ?q75zy ?q75zd ?q75zu ?_; (case q75zB => k_asm); (case q75zF => k_asm); (case q75zX => k_asm); (case q75zN => k_asm); (case q75zT => k_asm); (case q75zk => exact rfl); (case q75zXB => assumption); (case q75zTB => assumption); (case q75zKD => assumption); (case q75zn => assumption); (case q75zl => assumption); (case q75zv => assumption); (case q75zp => assumption); (case q75zz => assumption); (case q75zy => assumption); (case q75zd => ktr_room); (case q75zu => ktr_units); k_whole)); intro _ _ _ _ _ _ _ _ _ _ _))
 k_with "W76" => ((k_here; (with_reducible show wpAny _ _ (execs (Stmt.Assign [PySem.Expr.Name (Str.ofString "pairs") _] _ _ :: _) _) _ _ _); with_reducible refine ws_any ?_))
 k_with "W77" => ((k_here; (with_reducible show wpAny _ _ (execs (Stmt.Assign [PySem.Expr.Name (Str.ofString "files") _] _ _ :: _) _) _ _ _); with_reducible refine ws_any ?_))
 k_with "W78" => ((k_here; (with_reducible show wpAny _ _ (execs (Stmt.Assign [PySem.Expr.Tuple _ _ _] _ _ :: _) _) _ _ _); with_reducible refine ws_any ?_))
 k_with "W79" => (((k_here; (with_reducible show wpAny _ _ (call (Value.ref 242) [Value.str _ _, Value.str _ _]) _ _ _); k_dflt (refine' join_spec ?q79zB ?q79zF ?q79zX ?q79zN ?q79zT ?q79zk ?q79zx ?q79zy ?q79zn ?q79zd ?q79zu ?_; (case q79zB => k_asm); (case q79zF => k_asm); (case q79zX => k_asm); (case q79zN => k_asm); (case q79zT => k_asm); (case q79zk => exact rfl); (case q79zx => first | with_reducible assumption | assumption); (case q79zy => first | with_reducible assumption | assumption); (case q79zn => assumption); (case q79zd => ktr_room); (case q79zu => ktr_units); k_whole)); intro _ _ _ _ _))
 k_with "W80" => ((k_here; (with_reducible show wpAny _ _ (call (Value.ref 256) [Value.str _ _]) _ _ _); with_reducible refine ws_any ?_))
 k_with "W81" => ((k_here; (with_reducible show wpAny _ _ (exec (Stmt.If (PySem.Expr.BoolOp _ _ _) _ _ _) _) _ _ _); with_reducible refine ws_any ?_))
 k_with "W82" => ((k_here; (with_reducible show wpAny _ _ (compareOp CmpOp.NotEq (Value.ref _) (Value.ref _)) _ _ _); k_dflt (refine' ne_strsK ?q82zl ?q82zi ?q82zr ?q82zj ?q82zu ?_; (case q82zl => exact isL (by k_asm) (by first | with_reducible assumption | k_mem)); (case q82zi => first | assumption | exact .cons _ _ (.cons _ _ (.cons _ _ (.cons _ _ (.cons _ _ .nil))))); (case q82zr => exact isL (by k_asm) (by first | with_reducible assumption | k_mem)); (case q82zj => first | assumption | exact .cons _ _ (.cons _ _ (.cons _ _ (.cons _ _ (.cons _ _ .nil))))); (case q82zu => ktr_units); k_whole)))
 k_with "W83" => ((k_here; with_reducible refine ws_any ?_))
 k_with "W84" => ((k_here; (with_reducible show wpAny _ _ (call (Value.ref 285) [Value.ref _]) _ _ _); with_reducible refine ws_any ?_))
 k_with "W85" => ((k_here; (with_reducible show wpAny _ _ (execs (Stmt.For (PySem.Expr.Tuple _ _ _) _ _ _ _ :: _) _) _ _ _); with_reducible refine ws_any ?_))
 k_with "W86" => ((k_here; (with_reducible show wpAny _ _ (execs (Stmt.Try _ _ _ _ _ :: _) _) _ _ _); with_reducible refine ws_any ?_))
 k_with "W87" => ((k_here; (with_reducible show wpAny _ _ (call (Value.ref _) (Value.str _ _ :: _)) _ _ _); with_reducible refine ws_any ?_))
 k_with "W88" => ((k_here; (with_reducible show wpAny _ _ (eval (PySem.Expr.Call (PySem.Expr.Attribute _ _ _) [_, PySem.Expr.Starred _ _] _ _) _) _ _ _); k_dflt (refine meth_star ?_)))
 k_with "W89" => ((k_here; (with_reducible show wpAny _ _ (callWith _ (Value.ref _) _ (backTo _ (starEach [_, PySem.Expr.Starred _ _] _)) []) _ _ _); k_dflt (refine' callWith_SM ?q89k1 ?q89k2 ?q89k3 ?q89k4 ?_; (case q89k1 => k_asm); (case q89k2 => k_asm); (case q89k3 => k_mem); (case q89k4 => k_is); k_whole)))
 k_with "W90" => ((k_here; k_dflt (refine' star_seq ?q90k1 ?q90k2 ?q90m ?q90c ?q90d ?q90T ?q90e ?q90z ?_; (case q90k1 => k_asm); (case q90k2 => k_asm); (case q90m => first | with_reducible assumption | k_mem); (case q90c => exact rfl); (case q90d => exact rfl); (case q90T => first | exact .inl rfl | exact .inr rfl); (case q90e => exact rfl); (case q90z => (first | assumption | (rw [sizeLine_eq]; cb_size))); k_whole)))
 k_with "W91" => ((k_here; (with_reducible show wpAny _ _ (subscriptTail _ _ (Value.ref _) (Value.int (OfNat.ofNat _) _)) _ _ _); k_dflt (refine' item_at ?q91zN ?q91zm ?q91z0 ?q91z1 ?q91zx ?_ ?q91zs ?q91zg; (case q91zN => k_asm); (case q91zm => first | with_reducible assumption | k_mem); (case q91z0 => decide); (case q91z1 => decide); (case q91zx => exact rfl); (case q91zs => with_unfolding_all rfl); (case q91zg => intro _; with_unfolding_all rfl); k_whole)))
 k_with "W92" => ((k_here; (with_reducible show wpAny _ _ (subscriptTail _ (PySem.Expr.Slice _ _ _ _) (Value.ref _) (Value.ref _)) _ _ _); k_dflt (refine' slice_L ?q92zF ?q92zN ?q92zm ?q92zp ?q92zq ?_ ?q92zs ?q92zt ?q92zz; (case q92zF => k_asm); (case q92zN => k_asm); (case q92zm => first | with_reducible assumption | k_mem); (case q92zp => kmk_part); (case q92zq => kmk_part); (case q92zs => with_unfolding_all rfl); (case q92zt => kmk_pure); (case q92zz => (rw [sizeLine_eq]; cb_size)))))
 k_with "W93" => ((k_here; (with_reducible show wpAny _ _ (binaryOp Operator.Mult (Value.ref _) (Value.int _ _)) _ _ _); k_dflt (refine' KMa.mul ?q93zF ?q93zN ?q93zl ?q93z1 ?q93z2 ?q93zz ?q93ze ?_; (case q93zF => k_asm); (case q93zN => k_asm); (case q93zl => exact News.isList (by k_asm) (by first | with_reducible assumption | k_mem)); (case q93z1 => decide); (case q93z2 => decide); (case q93ze => exact rfl); (case q93zz => exact Nat.le_trans (Nat.mul_le_mul (pick_len1 _) (Nat.le_refl _)) (by decide)); k_whole)))
 k_with "W94" => ((k_here; (with_reducible show wpAny _ _ (execs (Stmt.For (PySem.Expr.Name _ _) _ _ _ _ :: _) _) _ _ _); with_reducible refine ws_any ?_))
 k_with "W95" => ((k_here; (with_reducible show wpAny _ _ (call (Value.ref 99) _) _ _ _); with_reducible refine ws_any ?_))
 k_with "W96" => ((k_here; (with_reducible show wpAny _ _ (execs (Stmt.Return _ _ :: _) _) _ _ _); with_reducible refine ws_any ?_))
 k_with "W97" => ((k_here; (with_reducible show wpAny _ _ (eval (PySem.Expr.Call (PySem.Expr.Attribute _ _ _) [PySem.Expr.Starred _ _] _ _) _) _ _ _); k_dflt (refine meth_star ?_)))
 k_with "W98" => ((k_here; (with_reducible show wpAny _ _ (callWith _ (Value.ref _) _ (backTo _ (starEach [PySem.Expr.Starred _ _] _)) []) _ _ _); k_dflt (refine' callWith_SL ?q98k1 ?q98k2 ?q98k3 ?q98k4 ?_; (case q98k1 => k_asm); (case q98k2 => k_asm); (case q98k3 => k_mem); (case q98k4 => k_is); k_whole)))
 k_with "W99" => ((k_here; (with_reducible show wpAny _ _ (call (Value.ref _) _) _ _ _); with_reducible refine ws_any ?_))
 k_with "W100" => ((k_here; (with_reducible show wpAny _ _ (call (Value.ref 113) _) _ _ _); with_reducible refine ws_any ?_))
 k_with "W101" => ((k_here; (with_reducible show wpAny _ _ (call (Value.ref 106) _) _ _ _); with_reducible refine ws_any ?_))
 k_with "W102" => ((k_here; (with_reducible show wpAny _ _ (call (Value.ref 261) _) _ _ _); with_reducible refine ws_any ?_))
 k_with "W103" => ((k_here; (with_reducible show wpAny _ _ (call (Value.ref 290) _) _ _ _); with_reducible refine ws_any ?_))
 trivial
section
namespace Kx
def S (s : String) : Str := Str.ofString s
def v (s : String) (n : Nat) : Value := .str (Str.ofString s) n
def R (a : Nat) : Value := .ref a
def I (i : Int) (n : Nat) : Value := .int i n
def B (b : Bool) : Value := .bool b
def T (s : String) : Value := .type s
def U (s : String) : Value := .builtin s
def N : Value := .none
def E (P : Params) (s : String) (n : Nat) (x : Value) : DictEntry := ⟨PyData.keyHash P (Str.ofString s), .str (Str.ofString s) n, x⟩
def O (s : String) (d : Data) : Obj := Obj.mk (.type s) (@none Nat) d #[]
def C (n : Str) (b m : List Value) (ns : Nat) := ClassData.mk n b m ns
def Q (c : Value) (d : Data) (s : Array (Option Value)) : Obj := Obj.mk c (@none Nat) d s
def g : List Stmt → Nat → Stmt
 | [], _ => .Pass default
 | s :: _, 0 => s
 | _ :: r, n + 1 => g r n
def subs : Stmt → List Stmt
 | .ClassDef _ _ _ b _ _ _ _ _ _ _ => b
 | _ => []
def nm : Stmt → Str
 | .FunctionDef n _ _ _ _ _ _ _ _ _ => n
 | _ => Str.ofString ""
def ps : Stmt → Arguments
 | .FunctionDef _ p _ _ _ _ _ _ _ _ => p
 | _ => default
def bd : Stmt → List Stmt
 | .FunctionDef _ _ b _ _ _ _ _ _ _ => b
 | _ => []
def sc : Stmt → Scope
 | .FunctionDef _ _ _ _ _ _ c _ _ _ => c
 | _ => default
noncomputable def F (s : Stmt) (q : Str) (gl : Nat) (cl : List (Str × Nat)) (d k doc mo : Value) (an : Option Nat) (co ct : Value) (b : Nat) : FuncData := ⟨nm s, q, ps s, .stmts (bd s), sc s, gl, cl, d, k, doc, mo, an, co, ct, b⟩
noncomputable def pb : List Stmt := PySem.Challenge.rw_ik0081_01.row.toRowW.prog.main.body
noncomputable def vb : List Stmt := [g pb 0, g pb 2, g pb 4, g pb 5, g pb 6, g pb 7, g pb 8, g pb 10, g pb 12, g pb 14, g pb 15, g pb 17, g pb 19, g pb 21, g pb 22, g pb 23, g pb 24, g pb 25, g pb 27, g pb 28, g pb 29, g pb 30, g pb 31, g pb 32]
noncomputable def tx (P : Params) : List Obj := [
Q N (Data.dict #[] 0) #[],
O "dict" (Data.dict #[(E P "__name__" 165 (v "law_ik0081_01" 549)), (E P "__doc__" 166 N), (E P "__package__" 167 N), (E P "__loader__" 168 (U "__main__.__loader__#opaque")), (E P "__spec__" 169 N), (E P "__annotations__" 170 (R 6)), (E P "__builtins__" 171 (R 4)), (E P "__file__" 173 (v "/claim/cut.py" 172)), (E P "__cached__" 174 N), (E P "_wall" 193 (R 21)), (E P "_parse_varint" 204 (R 28)), (E P "_NODE_OUT" 209 (I (-1) 208)), (E P "_NODE_DONE" 212 (I (-2) 211)), (E P "_NodeInfo" 249 (R 47)), (E P "CycleError" 267 (R 62)), (E P "TopologicalSorter" 386 (R 144)), (E P "_plain_name" 397 (R 155)), (E P "ABCMeta" 423 (R 172)), (E P "_ABCLike" 466 (R 205)), (E P "_abc_plain_meta" 473 (R 214)), (E P "fspath" 485 (R 221)), (E P "_check_arg_types" 498 (R 228)), (E P "_get_sep" 507 (R 235)), (E P "join" 518 (R 242)), (E P "splitroot" 527 (R 249)), (E P "normpath" 542 (R 256)), (E P "commonpath" 548 (R 261)), (E P "_law_octets" 558 (R 268)), (E P "_law_read" 568 (R 275)), (E P "_law_waits" 574 (R 280)), (E P "_law_rounds" 580 (R 285)), (E P "_law_shared" 586 (R 290)), (E P "law" 592 (R 295))] 33),
O "tuple" (Data.seq #[] 0),
O "tuple" (Data.seq #[(v "k" 190)] 0),
O "tuple" (Data.seq #[] 0),
O "code" (Data.fields #[(v "_wall" 187), (v "_wall" 188), (v "/claim/cut.py" 189), (I 1 0), (I 1 0), (I 0 0), (I 0 0), (I 3 0), (R 15), (B true), (I 181 0), (R 16), N, (R 17), (R 18), (R 19), (I 191 0), (I 1 0), (v "/claim/cut.py" 192)]),
O "function" (Data.func (F (g pb 0) (S "_wall") 3 [] N N N (v "__main__" 164) none (R 20) N 0)),
O "tuple" (Data.seq #[] 0),
O "tuple" (Data.seq #[(v "iterator" 199), (v "b" 200), (v "val" 201)] 0),
O "tuple" (Data.seq #[] 0),
O "code" (Data.fields #[(v "_parse_varint" 196), (v "_parse_varint" 197), (v "/claim/cut.py" 198), (I 5 0), (I 1 0), (I 0 0), (I 0 0), (I 3 0), (R 22), (B true), (I 181 0), (R 23), N, (R 24), (R 25), (R 26), (I 202 0), (I 5 0), (v "/claim/cut.py" 203)]),
O "function" (Data.func (F (g pb 2) (S "_parse_varint") 3 [] N N N (v "cpy313.dis" 194) none (R 27) N 0)),
O "tuple" (Data.seq #[(v "node" 225), (v "npredecessors" 226), (v "successors" 227)] 0),
O "tuple" (Data.seq #[] 0),
O "tuple" (Data.seq #[(v "self" 232), (v "node" 233)] 0),
O "tuple" (Data.seq #[] 0),
O "code" (Data.fields #[(v "__init__" 229), (v "_NodeInfo.__init__" 230), (v "/claim/cut.py" 231), (I 19 0), (I 2 0), (I 0 0), (I 0 0), (I 3 0), (R 37), (B true), (I 181 0), (R 38), N, (R 39), (R 40), (R 41), (I 234 0), (I 19 0), (v "/claim/cut.py" 235)]),
O "function" (Data.func (F (g (subs (g pb 6)) 1) (S "_NodeInfo.__init__") 3 [] N N N (v "cpy313.graphlib" 205) none (R 42) N 0)),
O "tuple" (Data.seq #[(v "node" 237), (v "npredecessors" 238), (v "successors" 239)] 0),
O "dict" (Data.dict #[(E P "__module__" 220 (v "cpy313.graphlib" 205)), (E P "__firstlineno__" 224 (I 16 223)), (E P "__slots__" 228 (R 36)), (E P "__init__" 236 (R 43)), (E P "__static_attributes__" 240 (R 44)), (E P "node" 242 (R 48)), (E P "npredecessors" 244 (R 49)), (E P "successors" 246 (R 50)), (E P "__doc__" 247 N)] 5),
Q (T "type") (Data.cls (C (S "_NodeInfo") [(T "object")] [(R 47), (T "object")] 46 (S "_NodeInfo") false [(S "node"), (S "npredecessors"), (S "successors")] [] false none false)) #[none, none, (some (v "_NodeInfo" 213)), (some (v "_NodeInfo" 221)), (some (U "object.__new__")), (some (B false))],
O "member_descriptor" (Data.fields #[(v "node" 241), (R 47), (U "proto.slot"), (U "proto.slot#set"), (I 2 0)]),
O "member_descriptor" (Data.fields #[(v "npredecessors" 243), (R 47), (U "proto.slot"), (U "proto.slot#set"), (I 1 0)]),
O "member_descriptor" (Data.fields #[(v "successors" 245), (R 47), (U "proto.slot"), (U "proto.slot#set"), (I 0 0)]),
O "tuple" (Data.seq #[(T "ValueError")] 0),
O "tuple" (Data.seq #[] 0),
O "dict" (Data.dict #[(E P "__module__" 257 (v "cpy313.graphlib" 205)), (E P "__firstlineno__" 261 (I 23 260)), (E P "__static_attributes__" 262 (R 60)), (E P "__weakref__" 264 (R 63)), (E P "__doc__" 265 N)] 3),
Q (T "type") (Data.cls (C (S "CycleError") [(T "ValueError")] [(R 62), (T "ValueError"), (T "Exception"), (T "BaseException"), (T "object")] 61 (S "CycleError") true [] [] false none false)) #[(some (R 53)), none, (some (v "CycleError" 250)), (some (v "CycleError" 258)), (some (U "ValueError.__new__")), (some (B true))],
O "getset_descriptor" (Data.fields #[(v "__weakref__" 263), (R 62), (U "ExceptionGroup.__weakref__"), N]),
O "tuple" (Data.seq #[N] 0),
O "tuple" (Data.seq #[] 0),
O "tuple" (Data.seq #[(v "self" 283), (v "graph" 284), (v "node" 285), (v "predecessors" 286)] 0),
O "tuple" (Data.seq #[] 0),
O "code" (Data.fields #[(v "__init__" 280), (v "TopologicalSorter.__init__" 281), (v "/claim/cut.py" 282), (I 27 0), (I 2 0), (I 0 0), (I 0 0), (I 3 0), (R 74), (B true), (I 181 0), (R 75), N, (R 76), (R 77), (R 78), (I 287 0), (I 27 0), (v "/claim/cut.py" 288)]),
O "function" (Data.func (F (g (subs (g pb 8)) 0) (S "TopologicalSorter.__init__") 3 [] (R 73) N N (v "cpy313.graphlib" 205) none (R 79) N 0)),
O "tuple" (Data.seq #[] 0),
O "tuple" (Data.seq #[(v "self" 293), (v "node" 294), (v "result" 295)] 0),
O "tuple" (Data.seq #[] 0),
O "code" (Data.fields #[(v "_get_nodeinfo" 290), (v "TopologicalSorter._get_nodeinfo" 291), (v "/claim/cut.py" 292), (I 36 0), (I 2 0), (I 0 0), (I 0 0), (I 3 0), (R 81), (B true), (I 181 0), (R 82), N, (R 83), (R 84), (R 85), (I 296 0), (I 36 0), (v "/claim/cut.py" 297)]),
O "function" (Data.func (F (g (subs (g pb 8)) 1) (S "TopologicalSorter._get_nodeinfo") 3 [] N N N (v "cpy313.graphlib" 205) none (R 86) N 0)),
O "tuple" (Data.seq #[] 0),
O "tuple" (Data.seq #[(v "self" 302), (v "node" 303), (v "predecessors" 304), (v "nodeinfo" 305), (v "pred" 306), (v "pred_info" 307)] 0),
O "tuple" (Data.seq #[] 0),
O "code" (Data.fields #[(v "add" 299), (v "TopologicalSorter.add" 300), (v "/claim/cut.py" 301), (I 41 0), (I 2 0), (I 0 0), (I 0 0), (I 7 0), (R 88), (B true), (I 181 0), (R 89), N, (R 90), (R 91), (R 92), (I 308 0), (I 41 0), (v "/claim/cut.py" 309)]),
O "function" (Data.func (F (g (subs (g pb 8)) 2) (S "TopologicalSorter.add") 3 [] N N N (v "cpy313.graphlib" 205) none (R 93) N 0)),
O "tuple" (Data.seq #[] 0),
O "code" (Data.fields #[(v "prepare" 311), (v "TopologicalSorter.prepare" 312), (v "/claim/cut.py" 313), (I 50 0), (I 1 0), (I 0 0), (I 0 0), (I 3 0), (R 95), (B true), (I 181 0), (R 96), N, N, N, (R 97), (I 314 0), (I 50 0), (v "/claim/cut.py" 315)]),
O "function" (Data.func (F (g (subs (g pb 8)) 3) (S "TopologicalSorter.prepare") 3 [] N N N (v "cpy313.graphlib" 205) none (R 98) N 0)),
O "tuple" (Data.seq #[] 0),
O "tuple" (Data.seq #[(v "self" 320), (v "result" 321), (v "n2i" 322), (v "node" 323)] 0),
O "tuple" (Data.seq #[] 0),
O "code" (Data.fields #[(v "get_ready" 317), (v "TopologicalSorter.get_ready" 318), (v "/claim/cut.py" 319), (I 58 0), (I 1 0), (I 0 0), (I 0 0), (I 3 0), (R 100), (B true), (I 181 0), (R 101), N, (R 102), (R 103), (R 104), (I 324 0), (I 58 0), (v "/claim/cut.py" 325)]),
O "function" (Data.func (F (g (subs (g pb 8)) 4) (S "TopologicalSorter.get_ready") 3 [] N N N (v "cpy313.graphlib" 205) none (R 105) N 0)),
O "tuple" (Data.seq #[] 0),
O "tuple" (Data.seq #[(v "self" 330)] 0),
O "tuple" (Data.seq #[] 0),
O "code" (Data.fields #[(v "is_active" 327), (v "TopologicalSorter.is_active" 328), (v "/claim/cut.py" 329), (I 69 0), (I 1 0), (I 0 0), (I 0 0), (I 3 0), (R 107), (B true), (I 181 0), (R 108), N, (R 109), (R 110), (R 111), (I 331 0), (I 69 0), (v "/claim/cut.py" 332)]),
O "function" (Data.func (F (g (subs (g pb 8)) 5) (S "TopologicalSorter.is_active") 3 [] N N N (v "cpy313.graphlib" 205) none (R 112) N 0)),
O "tuple" (Data.seq #[] 0),
O "tuple" (Data.seq #[(v "self" 337)] 0),
O "tuple" (Data.seq #[] 0),
O "code" (Data.fields #[(v "__bool__" 334), (v "TopologicalSorter.__bool__" 335), (v "/claim/cut.py" 336), (I 74 0), (I 1 0), (I 0 0), (I 0 0), (I 3 0), (R 114), (B true), (I 181 0), (R 115), N, (R 116), (R 117), (R 118), (I 338 0), (I 74 0), (v "/claim/cut.py" 339)]),
O "function" (Data.func (F (g (subs (g pb 8)) 6) (S "TopologicalSorter.__bool__") 3 [] N N N (v "cpy313.graphlib" 205) none (R 119) N 0)),
O "tuple" (Data.seq #[] 0),
O "tuple" (Data.seq #[(v "self" 344), (v "nodes" 345), (v "n2i" 346), (v "node" 347), (v "nodeinfo" 348), (v "stat" 349), (v "successor" 350), (v "successor_info" 351)] 0),
O "tuple" (Data.seq #[] 0),
O "code" (Data.fields #[(v "done" 341), (v "TopologicalSorter.done" 342), (v "/claim/cut.py" 343), (I 77 0), (I 1 0), (I 0 0), (I 0 0), (I 7 0), (R 121), (B true), (I 181 0), (R 122), N, (R 123), (R 124), (R 125), (I 352 0), (I 77 0), (v "/claim/cut.py" 353)]),
O "function" (Data.func (F (g (subs (g pb 8)) 7) (S "TopologicalSorter.done") 3 [] N N N (v "cpy313.graphlib" 205) none (R 126) N 0)),
O "tuple" (Data.seq #[] 0),
O "tuple" (Data.seq #[(v "self" 358), (v "n2i" 359), (v "stack" 360), (v "itstack" 361), (v "seen" 362), (v "node2stacki" 363), (v "node" 364)] 0),
O "tuple" (Data.seq #[] 0),
O "code" (Data.fields #[(v "_find_cycle" 355), (v "TopologicalSorter._find_cycle" 356), (v "/claim/cut.py" 357), (I 100 0), (I 1 0), (I 0 0), (I 0 0), (I 3 0), (R 128), (B true), (I 181 0), (R 129), N, (R 130), (R 131), (R 132), (I 365 0), (I 100 0), (v "/claim/cut.py" 366)]),
O "function" (Data.func (F (g (subs (g pb 8)) 8) (S "TopologicalSorter._find_cycle") 3 [] N N N (v "cpy313.graphlib" 205) none (R 133) N 0)),
O "tuple" (Data.seq #[] 0),
O "tuple" (Data.seq #[(v "self" 371)] 0),
O "tuple" (Data.seq #[] 0),
O "code" (Data.fields #[(v "static_order" 368), (v "TopologicalSorter.static_order" 369), (v "/claim/cut.py" 370), (I 129 0), (I 1 0), (I 0 0), (I 0 0), (I 3 0), (R 135), (B true), (I 181 0), (R 136), N, (R 137), (R 138), (R 139), (I 372 0), (I 129 0), (v "/claim/cut.py" 373)]),
O "function" (Data.func (F (g (subs (g pb 8)) 9) (S "TopologicalSorter.static_order") 3 [] N N N (v "cpy313.graphlib" 205) none (R 140) N 0)),
O "tuple" (Data.seq #[(v "_nfinished" 375), (v "_node2info" 376), (v "_npassedout" 377), (v "_ready_nodes" 378)] 0),
O "dict" (Data.dict #[(E P "__module__" 275 (v "cpy313.graphlib" 205)), (E P "__firstlineno__" 279 (I 25 278)), (E P "__init__" 289 (R 80)), (E P "_get_nodeinfo" 298 (R 87)), (E P "add" 310 (R 94)), (E P "prepare" 316 (R 99)), (E P "get_ready" 326 (R 106)), (E P "is_active" 333 (R 113)), (E P "__bool__" 340 (R 120)), (E P "done" 354 (R 127)), (E P "_find_cycle" 367 (R 134)), (E P "static_order" 374 (R 141)), (E P "__static_attributes__" 379 (R 142)), (E P "__dict__" 381 (R 145)), (E P "__weakref__" 383 (R 146)), (E P "__doc__" 384 N)] 4),
Q (T "type") (Data.cls (C (S "TopologicalSorter") [(T "object")] [(R 144), (T "object")] 143 (S "TopologicalSorter") true [] [] false none false)) #[none, none, (some (v "TopologicalSorter" 268)), (some (v "TopologicalSorter" 276)), (some (U "object.__new__")), (some (B true))],
O "getset_descriptor" (Data.fields #[(v "__dict__" 380), (R 144), (U "function.__dict__"), (U "function.__dict__#set")]),
O "getset_descriptor" (Data.fields #[(v "__weakref__" 382), (R 144), (U "ExceptionGroup.__weakref__"), N]),
O "tuple" (Data.seq #[] 0),
O "tuple" (Data.seq #[(v "x" 392), (v "what" 393), (v "kind" 394)] 0),
O "tuple" (Data.seq #[] 0),
O "code" (Data.fields #[(v "_plain_name" 389), (v "_plain_name" 390), (v "/claim/cut.py" 391), (I 132 0), (I 2 0), (I 0 0), (I 0 0), (I 3 0), (R 149), (B true), (I 181 0), (R 150), N, (R 151), (R 152), (R 153), (I 395 0), (I 132 0), (v "/claim/cut.py" 396)]),
O "function" (Data.func (F (g pb 10) (S "_plain_name") 3 [] N N N (v "os" 387) none (R 154) N 0)),
O "tuple" (Data.seq #[(T "type")] 0),
O "tuple" (Data.seq #[] 0),
O "tuple" (Data.seq #[(v "cls" 415), (v "subclass" 416)] 0),
O "tuple" (Data.seq #[] 0),
O "code" (Data.fields #[(v "register" 412), (v "ABCMeta.register" 413), (v "/claim/cut.py" 414), (I 140 0), (I 2 0), (I 0 0), (I 0 0), (I 3 0), (R 163), (B true), (I 181 0), (R 164), N, (R 165), (R 166), (R 167), (I 417 0), (I 140 0), (v "/claim/cut.py" 418)]),
O "function" (Data.func (F (g (subs (g pb 12)) 0) (S "ABCMeta.register") 3 [] N N N (v "abc" 398) none (R 168) N 0)),
O "tuple" (Data.seq #[] 0),
O "dict" (Data.dict #[(E P "__module__" 407 (v "abc" 398)), (E P "__firstlineno__" 411 (I 138 410)), (E P "register" 419 (R 169)), (E P "__static_attributes__" 420 (R 170)), (E P "__doc__" 421 N)] 2),
Q (T "type") (Data.cls (C (S "ABCMeta") [(T "type")] [(R 172), (T "type"), (T "object")] 171 (S "ABCMeta") true [] [(R 205)] false none false)) #[(some (R 156)), none, (some (v "ABCMeta" 400)), (some (v "ABCMeta" 408)), (some (U "type.__new__")), (some (B true))],
O "tuple" (Data.seq #[(R 172)] 0),
O "tuple" (Data.seq #[] 0),
O "tuple" (Data.seq #[(v "cls" 441), (v "instance" 442), (v "C" 443)] 0),
O "tuple" (Data.seq #[] 0),
O "code" (Data.fields #[(v "__instancecheck__" 438), (v "_ABCLike.__instancecheck__" 439), (v "/claim/cut.py" 440), (I 145 0), (I 2 0), (I 0 0), (I 0 0), (I 3 0), (R 182), (B true), (I 181 0), (R 183), N, (R 184), (R 185), (R 186), (I 444 0), (I 145 0), (v "/claim/cut.py" 445)]),
O "function" (Data.func (F (g (subs (g pb 14)) 0) (S "_ABCLike.__instancecheck__") 3 [] N N N (v "collections.abc" 424) none (R 187) N 0)),
O "tuple" (Data.seq #[] 0),
O "tuple" (Data.seq #[(v "cls" 450), (v "C" 451)] 0),
O "tuple" (Data.seq #[] 0),
O "code" (Data.fields #[(v "__subclasscheck__" 447), (v "_ABCLike.__subclasscheck__" 448), (v "/claim/cut.py" 449), (I 151 0), (I 2 0), (I 0 0), (I 0 0), (I 3 0), (R 189), (B true), (I 181 0), (R 190), N, (R 191), (R 192), (R 193), (I 452 0), (I 151 0), (v "/claim/cut.py" 453)]),
O "function" (Data.func (F (g (subs (g pb 14)) 1) (S "_ABCLike.__subclasscheck__") 3 [] N N N (v "collections.abc" 424) none (R 194) N 0)),
O "tuple" (Data.seq #[] 0),
O "tuple" (Data.seq #[(v "cls" 458), (v "subclass" 459)] 0),
O "tuple" (Data.seq #[] 0),
O "code" (Data.fields #[(v "register" 455), (v "_ABCLike.register" 456), (v "/claim/cut.py" 457), (I 156 0), (I 2 0), (I 0 0), (I 0 0), (I 3 0), (R 196), (B true), (I 181 0), (R 197), N, (R 198), (R 199), (R 200), (I 460 0), (I 156 0), (v "/claim/cut.py" 461)]),
O "function" (Data.func (F (g (subs (g pb 14)) 2) (S "_ABCLike.register") 3 [] N N N (v "collections.abc" 424) none (R 201) N 0)),
O "tuple" (Data.seq #[] 0),
O "dict" (Data.dict #[(E P "__module__" 433 (v "collections.abc" 424)), (E P "__firstlineno__" 437 (I 143 436)), (E P "__instancecheck__" 446 (R 188)), (E P "__subclasscheck__" 454 (R 195)), (E P "register" 462 (R 202)), (E P "__static_attributes__" 463 (R 203)), (E P "__doc__" 464 N)] 2),
Q (T "type") (Data.cls (C (S "_ABCLike") [(R 172)] [(R 205), (R 172), (T "type"), (T "object")] 204 (S "_ABCLike") true [] [] false none false)) #[(some (R 175)), none, (some (v "_ABCLike" 426)), (some (v "_ABCLike" 434)), (some (U "type.__new__")), (some (B true))],
O "tuple" (Data.seq #[] 0),
O "tuple" (Data.seq #[(v "C" 470)] 0),
O "tuple" (Data.seq #[] 0),
O "code" (Data.fields #[(v "_abc_plain_meta" 467), (v "_abc_plain_meta" 468), (v "/claim/cut.py" 469), (I 158 0), (I 1 0), (I 0 0), (I 0 0), (I 3 0), (R 208), (B true), (I 181 0), (R 209), N, (R 210), (R 211), (R 212), (I 471 0), (I 158 0), (v "/claim/cut.py" 472)]),
O "function" (Data.func (F (g pb 15) (S "_abc_plain_meta") 3 [] N N N (v "collections.abc" 424) none (R 213) N 0)),
O "tuple" (Data.seq #[] 0),
O "tuple" (Data.seq #[(v "path" 479), (v "kind" 480), (v "hook" 481), (v "given" 482)] 0),
O "tuple" (Data.seq #[] 0),
O "code" (Data.fields #[(v "fspath" 476), (v "fspath" 477), (v "/claim/cut.py" 478), (I 162 0), (I 1 0), (I 0 0), (I 0 0), (I 3 0), (R 215), (B true), (I 181 0), (R 216), N, (R 217), (R 218), (R 219), (I 483 0), (I 162 0), (v "/claim/cut.py" 484)]),
O "function" (Data.func (F (g pb 17) (S "fspath") 3 [] N N N (v "os" 474) none (R 220) N 0)),
O "tuple" (Data.seq #[] 0),
O "tuple" (Data.seq #[(v "funcname" 491), (v "args" 492), (v "hasstr" 493), (v "hasbytes" 494), (v "s" 495)] 0),
O "tuple" (Data.seq #[] 0),
O "code" (Data.fields #[(v "_check_arg_types" 488), (v "_check_arg_types" 489), (v "/claim/cut.py" 490), (I 179 0), (I 1 0), (I 0 0), (I 0 0), (I 7 0), (R 222), (B true), (I 181 0), (R 223), N, (R 224), (R 225), (R 226), (I 496 0), (I 179 0), (v "/claim/cut.py" 497)]),
O "function" (Data.func (F (g pb 19) (S "_check_arg_types") 3 [] N N N (v "cpy313.genericpath" 486) none (R 227) N 0)),
O "tuple" (Data.seq #[] 0),
O "tuple" (Data.seq #[(v "path" 504)] 0),
O "tuple" (Data.seq #[] 0),
O "code" (Data.fields #[(v "_get_sep" 501), (v "_get_sep" 502), (v "/claim/cut.py" 503), (I 191 0), (I 1 0), (I 0 0), (I 0 0), (I 3 0), (R 229), (B true), (I 181 0), (R 230), N, (R 231), (R 232), (R 233), (I 505 0), (I 191 0), (v "/claim/cut.py" 506)]),
O "function" (Data.func (F (g pb 21) (S "_get_sep") 3 [] N N N (v "cpy313.posixpath" 499) none (R 234) N 0)),
O "tuple" (Data.seq #[] 0),
O "tuple" (Data.seq #[(v "a" 511), (v "p" 512), (v "sep" 513), (v "path" 514), (v "b" 515)] 0),
O "tuple" (Data.seq #[] 0),
O "code" (Data.fields #[(v "join" 508), (v "join" 509), (v "/claim/cut.py" 510), (I 196 0), (I 1 0), (I 0 0), (I 0 0), (I 7 0), (R 236), (B true), (I 181 0), (R 237), N, (R 238), (R 239), (R 240), (I 516 0), (I 196 0), (v "/claim/cut.py" 517)]),
O "function" (Data.func (F (g pb 22) (S "join") 3 [] N N N (v "cpy313.posixpath" 499) none (R 241) N 0)),
O "tuple" (Data.seq #[] 0),
O "tuple" (Data.seq #[(v "p" 522), (v "sep" 523), (v "empty" 524)] 0),
O "tuple" (Data.seq #[] 0),
O "code" (Data.fields #[(v "splitroot" 519), (v "splitroot" 520), (v "/claim/cut.py" 521), (I 213 0), (I 1 0), (I 0 0), (I 0 0), (I 3 0), (R 243), (B true), (I 181 0), (R 244), N, (R 245), (R 246), (R 247), (I 525 0), (I 213 0), (v "/claim/cut.py" 526)]),
O "function" (Data.func (F (g pb 23) (S "splitroot") 3 [] N N N (v "cpy313.posixpath" 499) none (R 248) N 0)),
O "tuple" (Data.seq #[] 0),
O "tuple" (Data.seq #[(v "path" 531), (v "sep" 532), (v "dot" 533), (v "dotdot" 534), (v "_" 535), (v "initial_slashes" 536), (v "comps" 537), (v "new_comps" 538), (v "comp" 539)] 0),
O "tuple" (Data.seq #[] 0),
O "code" (Data.fields #[(v "normpath" 528), (v "normpath" 529), (v "/claim/cut.py" 530), (I 227 0), (I 1 0), (I 0 0), (I 0 0), (I 3 0), (R 250), (B true), (I 181 0), (R 251), N, (R 252), (R 253), (R 254), (I 540 0), (I 227 0), (v "/claim/cut.py" 541)]),
O "function" (Data.func (F (g pb 24) (S "normpath") 3 [] N N N (v "cpy313.posixpath" 499) none (R 255) N 0)),
O "tuple" (Data.seq #[] 0),
O "code" (Data.fields #[(v "commonpath" 543), (v "commonpath" 544), (v "/claim/cut.py" 545), (I 252 0), (I 1 0), (I 0 0), (I 0 0), (I 3 0), (R 257), (B true), (I 181 0), (R 258), N, N, N, (R 259), (I 546 0), (I 252 0), (v "/claim/cut.py" 547)]),
O "function" (Data.func (F (g pb 25) (S "commonpath") 3 [] N N N (v "cpy313.posixpath" 499) none (R 260) N 0)),
O "tuple" (Data.seq #[] 0),
O "tuple" (Data.seq #[(v "number" 554), (v "figures" 555)] 0),
O "tuple" (Data.seq #[] 0),
O "code" (Data.fields #[(v "_law_octets" 551), (v "_law_octets" 552), (v "/claim/cut.py" 553), (I 282 0), (I 1 0), (I 0 0), (I 0 0), (I 3 0), (R 262), (B true), (I 181 0), (R 263), N, (R 264), (R 265), (R 266), (I 556 0), (I 282 0), (v "/claim/cut.py" 557)]),
O "function" (Data.func (F (g pb 27) (S "_law_octets") 3 [] N N N (v "law_ik0081_01" 549) none (R 267) N 0)),
O "tuple" (Data.seq #[] 0),
O "tuple" (Data.seq #[(v "octets" 562), (v "walker" 563), (v "told" 564), (v "k" 565)] 0),
O "tuple" (Data.seq #[] 0),
O "code" (Data.fields #[(v "_law_read" 559), (v "_law_read" 560), (v "/claim/cut.py" 561), (I 288 0), (I 1 0), (I 0 0), (I 0 0), (I 3 0), (R 269), (B true), (I 181 0), (R 270), N, (R 271), (R 272), (R 273), (I 566 0), (I 288 0), (v "/claim/cut.py" 567)]),
O "function" (Data.func (F (g pb 28) (S "_law_read") 3 [] N N N (v "law_ik0081_01" 549) none (R 274) N 0)),
O "tuple" (Data.seq #[] 0),
O "code" (Data.fields #[(v "_law_waits" 569), (v "_law_waits" 570), (v "/claim/cut.py" 571), (I 296 0), (I 2 0), (I 0 0), (I 0 0), (I 3 0), (R 276), (B true), (I 181 0), (R 277), N, N, N, (R 278), (I 572 0), (I 296 0), (v "/claim/cut.py" 573)]),
O "function" (Data.func (F (g pb 29) (S "_law_waits") 3 [] N N N (v "law_ik0081_01" 549) none (R 279) N 0)),
O "tuple" (Data.seq #[] 0),
O "code" (Data.fields #[(v "_law_rounds" 575), (v "_law_rounds" 576), (v "/claim/cut.py" 577), (I 298 0), (I 1 0), (I 0 0), (I 0 0), (I 3 0), (R 281), (B true), (I 181 0), (R 282), N, N, N, (R 283), (I 578 0), (I 298 0), (v "/claim/cut.py" 579)]),
O "function" (Data.func (F (g pb 30) (S "_law_rounds") 3 [] N N N (v "law_ik0081_01" 549) none (R 284) N 0)),
O "tuple" (Data.seq #[] 0),
O "code" (Data.fields #[(v "_law_shared" 581), (v "_law_shared" 582), (v "/claim/cut.py" 583), (I 304 0), (I 1 0), (I 0 0), (I 0 0), (I 3 0), (R 286), (B true), (I 181 0), (R 287), N, N, N, (R 288), (I 584 0), (I 304 0), (v "/claim/cut.py" 585)]),
O "function" (Data.func (F (g pb 31) (S "_law_shared") 3 [] N N N (v "law_ik0081_01" 549) none (R 289) N 0)),
O "tuple" (Data.seq #[] 0),
O "code" (Data.fields #[(v "law" 587), (v "law" 588), (v "/claim/cut.py" 589), (I 310 0), (I 1 0), (I 0 0), (I 0 0), (I 3 0), (R 291), (B true), (I 181 0), (R 292), N, N, N, (R 293), (I 590 0), (I 310 0), (v "/claim/cut.py" 591)]),
O "function" (Data.func (F (g pb 32) (S "law") 3 [] N N N (v "law_ik0081_01" 549) none (R 294) N 0))]
end Kx
open Kx in
noncomputable def hd.heap_39 : Params → Frag :=
 fun P => (fun (a : Frag) (_ : a.map Prod.snd = tx P) => a) ((nat_lit 2, _) :: (nat_lit 3, _) :: (nat_lit 15, _) :: (nat_lit 17, _) :: (nat_lit 18, _) :: (nat_lit 20, _) :: (nat_lit 21, _) :: (nat_lit 22, _) :: (nat_lit 24, _) :: (nat_lit 25, _) :: (nat_lit 27, _) :: (nat_lit 28, _) :: (nat_lit 36, _) :: (nat_lit 37, _) :: (nat_lit 39, _) :: (nat_lit 40, _) :: (nat_lit 42, _) :: (nat_lit 43, _) :: (nat_lit 44, _) :: (nat_lit 46, _) :: (nat_lit 47, _) :: (nat_lit 48, _) :: (nat_lit 49, _) :: (nat_lit 50, _) :: (nat_lit 53, _) :: (nat_lit 60, _) :: (nat_lit 61, _) :: (nat_lit 62, _) :: (nat_lit 63, _) :: (nat_lit 73, _) :: (nat_lit 74, _) :: (nat_lit 76, _) :: (nat_lit 77, _) :: (nat_lit 79, _) :: (nat_lit 80, _) :: (nat_lit 81, _) :: (nat_lit 83, _) :: (nat_lit 84, _) :: (nat_lit 86, _) :: (nat_lit 87, _) :: (nat_lit 88, _) :: (nat_lit 90, _) :: (nat_lit 91, _) :: (nat_lit 93, _) :: (nat_lit 94, _) :: (nat_lit 95, _) :: (nat_lit 98, _) :: (nat_lit 99, _) :: (nat_lit 100, _) :: (nat_lit 102, _) :: (nat_lit 103, _) :: (nat_lit 105, _) :: (nat_lit 106, _) :: (nat_lit 107, _) :: (nat_lit 109, _) :: (nat_lit 110, _) :: (nat_lit 112, _) :: (nat_lit 113, _) :: (nat_lit 114, _) :: (nat_lit 116, _) :: (nat_lit 117, _) :: (nat_lit 119, _) :: (nat_lit 120, _) :: (nat_lit 121, _) :: (nat_lit 123, _) :: (nat_lit 124, _) :: (nat_lit 126, _) :: (nat_lit 127, _) :: (nat_lit 128, _) :: (nat_lit 130, _) :: (nat_lit 131, _) :: (nat_lit 133, _) :: (nat_lit 134, _) :: (nat_lit 135, _) :: (nat_lit 137, _) :: (nat_lit 138, _) :: (nat_lit 140, _) :: (nat_lit 141, _) :: (nat_lit 142, _) :: (nat_lit 143, _) :: (nat_lit 144, _) :: (nat_lit 145, _) :: (nat_lit 146, _) :: (nat_lit 149, _) :: (nat_lit 151, _) :: (nat_lit 152, _) :: (nat_lit 154, _) :: (nat_lit 155, _) :: (nat_lit 156, _) :: (nat_lit 163, _) :: (nat_lit 165, _) :: (nat_lit 166, _) :: (nat_lit 168, _) :: (nat_lit 169, _) :: (nat_lit 170, _) :: (nat_lit 171, _) :: (nat_lit 172, _) :: (nat_lit 175, _) :: (nat_lit 182, _) :: (nat_lit 184, _) :: (nat_lit 185, _) :: (nat_lit 187, _) :: (nat_lit 188, _) :: (nat_lit 189, _) :: (nat_lit 191, _) :: (nat_lit 192, _) :: (nat_lit 194, _) :: (nat_lit 195, _) :: (nat_lit 196, _) :: (nat_lit 198, _) :: (nat_lit 199, _) :: (nat_lit 201, _) :: (nat_lit 202, _) :: (nat_lit 203, _) :: (nat_lit 204, _) :: (nat_lit 205, _) :: (nat_lit 208, _) :: (nat_lit 210, _) :: (nat_lit 211, _) :: (nat_lit 213, _) :: (nat_lit 214, _) :: (nat_lit 215, _) :: (nat_lit 217, _) :: (nat_lit 218, _) :: (nat_lit 220, _) :: (nat_lit 221, _) :: (nat_lit 222, _) :: (nat_lit 224, _) :: (nat_lit 225, _) :: (nat_lit 227, _) :: (nat_lit 228, _) :: (nat_lit 229, _) :: (nat_lit 231, _) :: (nat_lit 232, _) :: (nat_lit 234, _) :: (nat_lit 235, _) :: (nat_lit 236, _) :: (nat_lit 238, _) :: (nat_lit 239, _) :: (nat_lit 241, _) :: (nat_lit 242, _) :: (nat_lit 243, _) :: (nat_lit 245, _) :: (nat_lit 246, _) :: (nat_lit 248, _) :: (nat_lit 249, _) :: (nat_lit 250, _) :: (nat_lit 252, _) :: (nat_lit 253, _) :: (nat_lit 255, _) :: (nat_lit 256, _) :: (nat_lit 257, _) :: (nat_lit 260, _) :: (nat_lit 261, _) :: (nat_lit 262, _) :: (nat_lit 264, _) :: (nat_lit 265, _) :: (nat_lit 267, _) :: (nat_lit 268, _) :: (nat_lit 269, _) :: (nat_lit 271, _) :: (nat_lit 272, _) :: (nat_lit 274, _) :: (nat_lit 275, _) :: (nat_lit 276, _) :: (nat_lit 279, _) :: (nat_lit 280, _) :: (nat_lit 281, _) :: (nat_lit 284, _) :: (nat_lit 285, _) :: (nat_lit 286, _) :: (nat_lit 289, _) :: (nat_lit 290, _) :: (nat_lit 291, _) :: (nat_lit 294, _) :: (nat_lit 295, _) :: []) (by
  dsimp only [List.map, C, Q, S, v, R, I, B, T, U, N, E, O, g, subs, nm, ps, bd, sc, F, pb, vb, tx, PySem.Challenge.rw_ik0081_01, PySem.Challenge.pw_ik0081_01, OpenLaw.row, OpenRow.toRowW])
open Kx in
noncomputable def hd.view_39 : Program :=
 (fun (a : List Stmt) (_ : a = vb) => ({ PySem.Challenge.rw_ik0081_01.row.toRowW.prog with main := { PySem.Challenge.rw_ik0081_01.row.toRowW.prog.main with body := a } } : Program)) _ (by
  dsimp only [C, Q, S, v, R, I, B, T, U, N, E, O, g, subs, nm, ps, bd, sc, F, pb, vb, tx, PySem.Challenge.rw_ik0081_01, PySem.Challenge.pw_ik0081_01, OpenLaw.row, OpenRow.toRowW])
noncomputable def hd.H : Hook := (kHook hd.heap_39 [2, 3, 15, 17, 18, 20, 21, 22, 24, 25, 27, 28, 36, 37, 39, 40, 42, 43, 44, 46, 47, 48, 49, 50, 53, 60, 61, 62, 63, 73, 74, 76, 77, 79, 80, 81, 83, 84, 86, 87, 88, 90, 91, 93, 94, 95, 98, 99, 100, 102, 103, 105, 106, 107, 109, 110, 112, 113, 114, 116, 117, 119, 120, 121, 123, 124, 126, 127, 128, 130, 131, 133, 134, 135, 137, 138, 140, 141, 142, 143, 144, 145, 146, 149, 151, 152, 154, 155, 156, 163, 165, 166, 168, 169, 170, 171, 172, 175, 182, 184, 185, 187, 188, 189, 191, 192, 194, 195, 196, 198, 199, 201, 202, 203, 204, 205, 208, 210, 211, 213, 214, 215, 217, 218, 220, 221, 222, 224, 225, 227, 228, 229, 231, 232, 234, 235, 236, 238, 239, 241, 242, 243, 245, 246, 248, 249, 250, 252, 253, 255, 256, 257, 260, 261, 262, 264, 265, 267, 268, 269, 271, 272, 274, 275, 276, 279, 280, 281, 284, 285, 286, 289, 290, 291, 294, 295] (fun _ => by kernel_rfl))
abbrev hd.R : RowW := OpenRow.toRowW (OpenLaw.row PySem.Challenge.rw_ik0081_01)
theorem left_tw {p q : Program} {loose : List Str} {Xt : Shared → Bool} {α : Type} {Yf : Shared → α} {Ya : World → α} {N : Nat} {TR TB IE OS FM OP ST IM} (e1 : @topRun = TR) (e2 : treeTable = TB) (e3 : @importEnds = IE) (e4 : @openSeen = OS) (e5 : @fenceModules? = FM) (e6 : @opening = OP) (e7 : @start = ST) (e8 : @importedModules = IM)
 (h : ∀ w, (((IE TB (OP p) w N (ST (OP p)).1 (ST (OP p)).2).bind (FM p)).bind fun s₀ => match s₀.heap.isNs mainGlobals && s₀.gens.size == 0 with
   | true => (TR TB p w s₀.heap.objs.size (s₀.heap.nsMap mainGlobals "__annotations__") N s₀ (topStub p)).bind fun s₁ => match staticsOk (IM p.main.body) s₀.heap s₁.heap && namesBound p s₁.heap && gensDone s₁ && laidKept s₀.heap s₁.heap with
     | true => some s₁
     | false => none
   | false => none).map (fun s => (OS q loose (IM p.main.body) Xt true s, Yf s)) = some (openGood q loose, Ya w)) : LeftO p q loose Xt Yf Ya N := by
 subst e1 e2 e3 e4 e5 e6 e7 e8
 exact h
theorem hd.left : LeftO hd.R.prog hd.view_39 [Str.ofString "_NodeInfo"] (fun s => xlAt hd.view_39 [] s && recOk (RowW.records hd.R) s) (Hook.obs hd.H) (Hook.val hd.H) 4346 := by
 refine left_tw PySem.W.Fast.te14082659384304107361 PySem.W.Fast.te14364793385576792824 PySem.W.Fast.te10274390034422433532 PySem.W.Fast.te4187177175401517315 PySem.W.Fast.te14289696077712309145 rfl PySem.W.Fast.te1435165496053646825 PySem.W.Fast.te5923862056798008813 ?_
 intro w
 kernel_rfl
set_option maxHeartbeats 0
abbrev hd.w : OpenLaw := PySem.Challenge.rw_ik0081_01
abbrev hd.p : Program := hd.w.row.prog
theorem hd.d0 : sreFenced hd.p.main = true := by decide +kernel
theorem hd.d1 : ((moduleNames hd.p.main.body).isEmpty || lookedIntoSs (moduleNames hd.p.main.body) hd.p.main.body) = true := by decide +kernel
theorem hd.d2 : namesResolve hd.p = true := by rw [PySem.W.Fast.te8377067652309620493]; decide +kernel
theorem hd.d3 : hd.p.boundNames.all (fun n => !worldNames.contains n) = true := by decide +kernel
theorem hd.d4a : (!(importedModules hd.p.main.body).all cThrough.contains) = false := by decide +kernel
theorem hd.d4b : (["vars", "dir", "locals"] : List Str).filter (readsOut hd.p hd.p.main.body) = [] := by decide +kernel
theorem hd.d4c : noRoadLSs { strict := false, foot := none, bare := [] } hd.p.main.body = true := by rw [PySem.W.Fast.te8326940854005059898]; decide +kernel
theorem hd.d4 : noRoadLSs { strict := !(importedModules hd.p.main.body).all cThrough.contains, foot := none, bare := (["vars", "dir", "locals"] : List Str).filter (readsOut hd.p hd.p.main.body) } hd.p.main.body = true := by
 rw [hd.d4a, hd.d4b]; exact hd.d4c
theorem hd.d5 : (namesMeet hd.p hd.p.main.body fun _ n => attrL n) = true := by decide +kernel
theorem hd.d6 : looksOpen hd.p = true := look_both (look_both (look_both (look_both (look_both hd.d0 hd.d1) hd.d2) hd.d3) hd.d4) hd.d5
theorem hd.e0 : hd.w.row.partSaid = true := by
 unfold OpenRow.partSaid
 rw [hd.d6]
 decide +kernel
theorem hd.c0b : hd.w.row.prog.boundNames.contains hd.w.row.name = true := by decide +kernel
theorem hd.c0c : (!startupNames.contains hd.w.row.name) = true := by decide +kernel
theorem hd.c1 : decide (hd.w.foot ≤ (behindTheImports hd.w.prog).length) = true := by decide +kernel
theorem hd.c2 : hd.w.footing.all footLine = true := by decide +kernel
theorem hd.c3 : noClassBlock hd.w.prog hd.w.footing = true := by decide +kernel
theorem hd.c4 : Option.all (fun n => decide (63 ≤ n)) hd.w.most = true := by decide +kernel
theorem hd.c5 : Option.all (fun n => decide (2 ^ 63 ≤ n)) hd.w.bound = true := by decide +kernel
theorem hd.c6 : noRoadLSs { strict := true, foot := some hd.w.bound', writes := hd.w.writes, may := hd.w.may } hd.w.footing = true := by decide +kernel
theorem hd.c7 : defStands hd.w.about hd.w.above = true := by decide +kernel
theorem hd.c8 : hd.w.namesIt = true := by decide +kernel
theorem hd.c9 : ([Str.ofString "type", Str.ofString "isinstance", Str.ofString "issubclass", Str.ofString "getattr", Str.ofString "hasattr"].all fun n => hd.w.about != [n]) = true := by decide +kernel
theorem hd.c10 : (hd.w.bound'.all fun n => !builtinNamed n || hd.w.about == [n] || !hd.w.reads n) = true := by decide +kernel
theorem hd.c11 : (!hd.w.writes || (List.flatMap importedNames hd.w.prog.main.body).all fun n => !hd.w.reads n) = true := by decide +kernel
theorem hd.c12 : ((List.flatMap importedNames hd.w.prog.main.body).all fun n => !hd.w.reads n ||
  (drawsOf n hd.w.prog.main.body).all fun mn => mn.snd != Str.ofString "attrgetter" && mn.snd != Str.ofString "methodcaller") = true := by decide +kernel
theorem hd.c13 : (namesMeet hd.w.prog hd.w.footing fun sc n =>
  (![Str.ofString "type", Str.ofString "isinstance", Str.ofString "issubclass", Str.ofString "getattr", Str.ofString "hasattr"].contains n || List.lookup n sc.names == some NameKind.globalImplicit) &&
   (hd.w.may != some n || sc.kind == ScopeKind.module || List.lookup n sc.names == some NameKind.globalImplicit)) = true := by decide +kernel
theorem hd.c14 : hd.w.own.contains hd.w.name = true := by decide +kernel
theorem hd.c14b : (hd.w.own.eraseDups.length == hd.w.own.length) = true := by decide +kernel
theorem hd.c15 : (hd.w.own.all fun n => !builtinNamed n) = true := by decide +kernel
theorem hd.c16 : (namesMeet hd.w.prog hd.w.above fun _ n => !hd.w.own.contains n) = true := by decide +kernel
theorem hd.c17 : (namesMeet hd.w.prog hd.w.footing fun sc n => sc.kind == ScopeKind.module || List.lookup n sc.names != some NameKind.globalExplicit) = true := by decide +kernel
theorem hd.said : hd.w.wellSaid = true := by
 unfold OpenLaw.wellSaid OpenRow.wellSaid
 exact look_both (look_both (look_both (look_both (look_both (look_both (look_both (look_both (look_both (look_both (look_both (look_both (look_both (look_both (look_both (look_both (look_both (look_both (look_both (look_both hd.e0 hd.c0b) hd.c0c) hd.c1) hd.c2) hd.c3) hd.c4) hd.c5) hd.c6) hd.c7) hd.c8) hd.c9) hd.c10) hd.c11) hd.c12) hd.c13) hd.c14) hd.c14b) hd.c15) hd.c16) hd.c17
end
example : (PySem.Challenge.rw_ik0081_01 = PySem.Challenge.rw_ik0081_01) ∧ (Mine.hd.heap_39 = Mine.hd.heap_39) := by
 k_fill
 w_top off
 exact ⟨rfl, rfl⟩
local macro_rules | `(tactic| cb_size) => `(tactic| k_extra "W1")
section
theorem lfold {M : Model} {A : Around} {α : Type} {t : Sem α} {Q : α → Shared → Prop} {E : Value → Shared → Prop} {s : Shared} (h : let q := Q; let e := E; wpAny M A t q e s) : wpAny M A t Q E s := h
noncomputable def Nx (M : Model) (A : Around) (env : Env) (rest : List Stmt) (Q : Flow → Shared → Prop) (E : Value → Shared → Prop) (f : Flow) (s : Shared) : Prop := match f with
 | .next => wpAny M A (execs rest env) Q E s
 | f => Q f s
theorem nx_next {M : Model} {A : Around} {env : Env} {rest : List Stmt} {Q : Flow → Shared → Prop} {E : Value → Shared → Prop} {s : Shared} (h : wpAny M A (execs rest env) Q E s) : Nx M A env rest Q E .next s := h
theorem nx_ret {M : Model} {A : Around} {env : Env} {rest : List Stmt} {Q : Flow → Shared → Prop} {E : Value → Shared → Prop} {s : Shared} {v : Value} (h : Q (.ret v) s) : Nx M A env rest Q E (.ret v) s := h
theorem nx_brk {M : Model} {A : Around} {env : Env} {rest : List Stmt} {Q : Flow → Shared → Prop} {E : Value → Shared → Prop} {s : Shared} (h : Q .brk s) : Nx M A env rest Q E .brk s := h
theorem nx_cont {M : Model} {A : Around} {env : Env} {rest : List Stmt} {Q : Flow → Shared → Prop} {E : Value → Shared → Prop} {s : Shared} (h : Q .cont s) : Nx M A env rest Q E .cont s := h
theorem xcons {M : Model} {A : Around} {env : Env} {st : Stmt} {rest : List Stmt} {Q : Flow → Shared → Prop} {E : Value → Shared → Prop} {s : Shared}
  (h : let q := Nx M A env rest Q E; let e := E; wpAny M A (exec st env) q e s) :
  wpAny M A (execs (st :: rest) env) Q E s := wpAny_execs_cons (wpAny_mono h (fun f s' x => by cases f <;> exact x) fun _ _ x => x)
theorem rm0 {a b c : Nat} (h : a + b < c) : a < c := Nat.lt_of_le_of_lt (Nat.le_add_right a b) h
theorem rm1 {a b c k : Nat} (h : a + b < c) (hk : k ≤ b) : a + k < c := Nat.lt_of_le_of_lt (Nat.add_le_add_left hk a) h
theorem rm2 {a b c j k : Nat} (h : a + b < c) (hk : j + k ≤ b) : a + j + k < c := Nat.lt_of_le_of_lt (Nat.le_trans (Nat.le_of_eq (Nat.add_assoc a j k)) (Nat.add_le_add_left hk a)) h
theorem rm3 {a b c k : Nat} (h : a ≤ b) (hk : b + k ≤ c) : a + k ≤ c := Nat.le_trans (Nat.add_le_add_right h k) hk
theorem rm4 {a b c k : Nat} (h : a ≤ b) (hk : b + k < c) : a + k < c := Nat.lt_of_le_of_lt (Nat.add_le_add_right h k) hk
theorem rm5 {a b : Nat} {c : Int} (h : a ≤ b) (hk : (b : Int) < c) : (a : Int) < c := Int.lt_of_le_of_lt (Int.ofNat_le.mpr h) hk
theorem kint {M : Model} {A : Around} {env : Env} {i : Int} {k : Nat} {pos : Pos} {Q : Value → Shared → Prop} {E : Value → Shared → Prop} {h : Heap} {g : Array GenState} {d : Drawn} {t : Nat} {os : OsState} (c : Q (.int i t) ⟨h, g, d, t + 1, os⟩) : wpAny M A (eval (.Constant (.int i) k pos) env) Q E ⟨h, g, d, t, os⟩ := wpAny_Constant_int c
theorem kstr {M : Model} {A : Around} {env : Env} {i : Str} {k : Nat} {pos : Pos} {Q : Value → Shared → Prop} {E : Value → Shared → Prop} {h : Heap} {g : Array GenState} {d : Drawn} {t : Nat} {os : OsState} (c : Q (.str i t) ⟨h, g, d, t + 1, os⟩) : wpAny M A (eval (.Constant (.str i) k pos) env) Q E ⟨h, g, d, t, os⟩ := PySem.Calls.Constant_str c
theorem gpost {prog : Program} {w : World} {A : Around} {α : Type} {t : Sem α} {Q : α → Shared → Prop} {E : Value → Shared → Prop} {s : Shared} (h : ∀ Q0 : α → Shared → Prop, (∀ v s', Q v s' → Q0 v s') → wpAny (model prog w) A t Q0 E s) : wpAny (model prog w) A t Q E s := h Q fun _ _ x => x
theorem ub1 {a b c : Nat} (h : a = b) (k : b ≤ c) : a ≤ c := Nat.le_trans (Nat.le_of_eq h) k
theorem ub3 {a b c : Nat} (h : a < b) (k : b ≤ c) : a ≤ c := Nat.le_of_lt (Nat.lt_of_lt_of_le h k)
theorem ub4 {a b c : Nat} {p : Prop} (h : a ≤ b ∧ p) (k : b ≤ c) : a ≤ c := Nat.le_trans h.1 k
theorem ub5 {a b i : Nat} (k : b ≤ i) : min a b ≤ i := Nat.le_trans (Nat.min_le_right a b) k
theorem ub6 {a b i : Nat} (k : a ≤ i) : min a b ≤ i := Nat.le_trans (Nat.min_le_left a b) k
theorem ub7 {a b i : Nat} (k : a ≤ i) : a - b ≤ i := Nat.le_trans (Nat.sub_le a b) k
theorem ub8 {a b c d : Nat} (h : a + d ≤ b) (k : b ≤ c) : a ≤ c := Nat.le_trans (Nat.le_trans (Nat.le_add_right a d) h) k
theorem ub10 {a b c : Nat} (h : a ≤ c / 2) (k : b ≤ c / 2) : a + b ≤ c := Nat.le_trans (Nat.add_le_add h k) (Nat.le_trans (Nat.le_of_eq (Nat.mul_two _).symm) (Nat.div_mul_le_self c 2))
theorem ub11 {a c m : Nat} (h : a ≤ c / m) : m * a ≤ c := Nat.le_trans (Nat.le_of_eq (Nat.mul_comm m a)) (Nat.mul_le_of_le_div m a c h)
theorem ub12 {a b c : Nat} (h : b = a) (k : b ≤ c) : a ≤ c := ub1 h.symm k
theorem ub13 {a c : Nat} (k : a ≤ c) : 0 + a ≤ c := ub1 (Nat.zero_add a) k
theorem ub15 {a b c : Nat} (h : a < b) (k : b ≤ c) : a + 1 ≤ c := Nat.le_trans h k
theorem ub16 {a b c d : Nat} (h : b = a + (d + 1)) (k : b ≤ c) : a + 1 ≤ c := Nat.le_trans (Nat.add_le_add_left (Nat.le_add_left 1 d) a) (ub12 h k)
theorem ub17 {a b c d : Nat} (h : b = a + d) (k : b ≤ c) : a ≤ c := ub8 (Nat.le_of_eq h.symm) k
theorem ub18 {a c : Nat} (k : a ≤ c) : a * 1 ≤ c := ub1 (Nat.mul_one a) k
theorem ul1 {a b c : Nat} (h : a = b) (k : b < c) : a < c := Nat.lt_of_le_of_lt (Nat.le_of_eq h) k
theorem ul2 {a b c : Nat} (h : a < b) (e : b = c) : a < c := Nat.lt_of_lt_of_le h (Nat.le_of_eq e)
theorem ul3 {a b c : Nat} (h : a < b) (e : c = b) : a < c := ul2 h e.symm
theorem uc1 {a : Nat} {c : Int} (h : a < c.toNat) : (a : Int) < c := Int.lt_toNat.mp h
theorem uc2 {a : Nat} {c : Int} (h : c ≤ 0) : c ≤ (a : Int) := Int.le_trans h (Int.natCast_nonneg a)
theorem uc4 {a : Nat} {c : Int} (h : c ≤ 0) : c ≤ (a : Int) + 1 := uc2 (a := a + 1) h
theorem uc5 {a : Nat} {c : Int} (h : a + 1 < c.toNat) : (a : Int) + 1 < c := uc1 (a := a + 1) h
theorem o0 {n i : Nat} (h : i < n) : n - i = n - (i + 1) + 1 := (Nat.succ_pred_eq_of_pos (Nat.sub_pos_of_lt h)).symm
theorem o1 {n r i : Nat} (h : i < n) : n - (i + 1) + r + 1 = n - i + r := (Nat.add_right_comm _ r 1).trans (congrArg (· + r) (o0 h).symm)
theorem o2 {j r : Nat} (h : ¬ j < r) (e : ¬ j = r) : j - r = j - r - 1 + 1 := o0 (n := j - r) (i := 0) (Nat.sub_pos_of_lt (Nat.lt_of_le_of_ne (Nat.le_of_not_lt h) (Ne.symm e)))
theorem o3 {a i : Nat} (h : i < a) : a + 1 - (i + 1) < a + 1 - i := Nat.sub_lt_sub_left (Nat.lt_succ_of_lt h) (Nat.lt_succ_self i)
theorem o4 {a i r : Nat} (h : a - i = r + 1) : a - r = i + 1 := by rw [Nat.eq_add_of_sub_eq (Nat.le_of_lt (Nat.lt_of_sub_eq_succ h)) h, Nat.add_assoc, Nat.add_sub_cancel_left, Nat.add_comm]
theorem o5 {a b : Nat} (h : a ≤ 5) (k : 0 < b) : 6 - (a + b) < 6 - a := Nat.sub_lt_sub_left (Nat.lt_succ_of_le h) (Nat.lt_add_of_pos_right k)
theorem o6 {a b c : Nat} (h : a ≤ 5) (k : 0 < b) (l : c + (6 - a) ≤ 7) : c + 1 + (6 - (a + b)) ≤ 7 := Nat.le_trans (Nat.le_of_eq (Nat.add_right_comm c 1 _)) (Nat.le_trans (Nat.add_le_add_left (o5 h k) c) l)
theorem o7 {a b c : Nat} (h : 6 - a ≤ c + 1) (k : 0 < b) : 6 - (a + b) ≤ c := Nat.le_trans (Nat.sub_le_sub_left (Nat.add_le_add_left k a) 6) (Nat.pred_le_pred h)
theorem o8 {a b c d : Nat} (h : a ≤ b + (c - 1)) (k : b ≤ d + (min 1 c + min 1 c)) : a ≤ d + c + 2 := Nat.le_trans h (Nat.le_trans (Nat.add_le_add (Nat.le_trans k (Nat.add_le_add_left (Nat.add_le_add (Nat.min_le_left 1 c) (Nat.min_le_left 1 c)) d)) (Nat.sub_le c 1)) (Nat.le_of_eq (Nat.add_right_comm d 2 c)))
theorem o9 {a : Nat} : ((0 : Int) ≤ -1 + ((a : Int) + 1) ∧ -1 + ((a : Int) + 1) < (a : Int) + 1) ∧ (-1 + ((a : Int) + 1)).toNat = a := by
 have e : -1 + ((a : Int) + 1) = a := (Int.add_comm _ _).trans (Int.add_neg_cancel_right _ _)
 rw [e]; exact ⟨⟨Int.natCast_nonneg a, Int.lt_succ a⟩, rfl⟩
theorem o10 {m : Nat} (h : m ≤ 5) : m + ((5 : Int) - m).toNat = 5 := (congrArg (m + ·) (Int.toNat_sub 5 m)).trans (Nat.add_sub_of_le h)
theorem o11 {a : Nat} : a / 64 * 64 + (a % 64 + 64) % 64 = a := (congrArg (a / 64 * 64 + ·) ((Nat.add_mod_right _ _).trans (Nat.mod_mod _ _))).trans (Nat.div_add_mod' a 64)
theorem o12 {a : Nat} : a / 64 * 64 + a % 64 % 64 = a := (congrArg (a / 64 * 64 + ·) (Nat.mod_mod _ _)).trans (Nat.div_add_mod' a 64)
theorem o13 {a : Nat} (p : (a : Int) ≠ 0) (h : a = 0) : False := p (congrArg Int.ofNat h)
theorem o14 {a b : Nat} (h : b + (6 - a) ≤ 7) (k : a ≤ 5) : b + 1 + 0 ≤ 7 := Nat.le_trans (Nat.add_le_add_left (Nat.sub_pos_of_lt (Nat.lt_succ_of_le k)) b) h
theorem o15 {a : Nat} : ((((a : Int) + 1 - 0).toNat : Nat) : Int) = ((a + 1 : Nat) : Int) := congrArg (fun z : Int => (z.toNat : Int)) (Int.sub_zero _)
theorem o16 {a : Nat} : ((((a : Int) - 0).toNat : Nat) : Int) = (a : Int) := congrArg (fun z : Int => (z.toNat : Int)) (Int.sub_zero _)
theorem o17 {a b c d e : Nat} (h : e ≤ a + d) (h1 : a ≤ 102000) (h2 : d ≤ b) (h3 : b < c) (h4 : c ≤ 1000) : e ≤ 103000 := Nat.le_trans h (Nat.add_le_add h1 (Nat.le_trans h2 (ub3 h3 h4)))
theorem o18 {z : Int} (h : z < 16) : z ≤ 13 ∨ z = 14 ∨ z = 15 := (Decidable.em (z ≤ 13)).elim .inl fun a => .inr ((Decidable.em (z = 14)).elim .inl fun b => .inr (Int.le_antisymm (Int.le_of_lt_add_one h) (Int.lt_iff_le_and_ne.mpr ⟨Int.not_le.mp a, Ne.symm b⟩)))
theorem o19 {a b c d : Nat} (h : a + b = c) (e : d = c) (k : ¬ (a : Int) < d) : b = 0 := Nat.eq_zero_of_not_pos fun p => k (Int.ofNat_lt.mpr (ul3 (ul2 (Nat.lt_add_of_pos_right p) h) e))
theorem o20 {a b c d : Nat} (h : a + 1 = b) (k : c + b ≤ d) : c + a < d := Nat.le_trans (Nat.add_le_add_left (Nat.le_of_eq h) c) k
theorem o21 {a : Nat} (h : (63 : Int) < a) : a / 64 < a := Nat.div_lt_self (Nat.lt_of_le_of_lt (Nat.zero_le 63) (Int.ofNat_lt.mp h)) (by decide)
theorem o22 {a : Nat} (h : a > 63) : a / 64 < a := Nat.div_lt_self (Nat.lt_of_le_of_lt (Nat.zero_le 63) h) (by decide)
theorem o23 {a b c d e : Nat} (h : d ≤ b + 1000 * e) (h1 : b ≤ 1000) (h2 : e ≤ c) (h3 : c < a) (h4 : a ≤ 100) : d ≤ 102000 := Nat.le_trans h (Nat.le_trans (Nat.add_le_add h1 (Nat.mul_le_mul_left 1000 (Nat.le_trans h2 (ub3 h3 h4)))) (by decide))
theorem o24 {a b c d : Nat} (h : a + b ≤ c) (k : d ≤ b) : a + d ≤ c := Nat.le_trans (Nat.add_le_add_left k a) h
theorem o25 {a c : Nat} (h : a + 480 < c) : a + 3 + 1 + 1 + 1 + 1 + 80 < c := Nat.lt_of_le_of_lt (Nat.add_le_add_left (show 87 ≤ 480 by decide) a) h
theorem o26 {a b : Nat} : a + 1 + b = a + (b + 1) := Nat.add_right_comm a 1 b
theorem o27 {a b c d : Nat} (h : a = b + (c + 1)) : d + 1 + a = d + 1 + b + (c + 1) := (congrArg (d + 1 + ·) h).trans (Nat.add_assoc _ _ _).symm
theorem o28 {a b c d e f k : Nat} (h : b = c) (h1 : d = e) (h2 : f = c + e) (h3 : f ≤ a) (h4 : a ≤ k) : b + d ≤ k := ub1 ((congr (congrArg _ h) h1).trans h2.symm) (Nat.le_trans h3 h4)
theorem o29 {a b c d e : Nat} (h : a = b) (h1 : c = d) (h2 : e = b + d) : a + c = e := (congr (congrArg _ h) h1).trans h2.symm
theorem o30 {a b c : Nat} (h : b + c.succ = a) : b + 1 + c = a := o26.trans h
theorem o31 {a : Nat} (h : ¬ a > 63) : (a % 64 + 64) % 64 = a := (Nat.add_mod_right _ _).trans ((Nat.mod_mod _ _).trans (Nat.mod_eq_of_lt (Nat.lt_succ_of_le (Nat.le_of_not_lt h))))
theorem o32 {a : Nat} (h : ¬ a > 63) : a % 64 % 64 = a := (Nat.mod_mod _ _).trans (Nat.mod_eq_of_lt (Nat.lt_succ_of_le (Nat.le_of_not_lt h)))
theorem o33 {a : Nat} (h : 0 < a) : a = a - 1 + 1 := o0 (i := 0) h
theorem o34 {a b : Nat} (e : a = b) (h : 0 < b) : a = a - 1 + 1 := o33 (Nat.lt_of_lt_of_le h (Nat.le_of_eq e.symm))
theorem o35 {a b c i : Nat} (h : a + b ≤ c) : a + min i b ≤ c := o24 h (Nat.min_le_right i b)
theorem o36 {a b c : Nat} (h : a * 64 + b ≤ c) : a ≤ c := Nat.le_trans (Nat.le_trans (Nat.le_mul_of_pos_right a (by decide)) (Nat.le_add_right _ _)) h
theorem o37 {a : Nat} (h : 6 - a ≤ 0) (k : a ≤ 5) : False := absurd h (Nat.not_le_of_lt (Nat.sub_pos_of_lt (Nat.lt_succ_of_le k)))
theorem o38 {a b c : Nat} (h : b ≤ 8 * a) (h1 : c ≤ a + 1) (h2 : a + 1 ≤ 5) : b + (c + 1 + 1) ≤ 8 * (a + 1) := Nat.add_le_add h (Nat.le_trans (Nat.add_le_add_right (Nat.le_trans h1 h2) 2) (by decide))
theorem o39 {a b c d : Nat} (h : a ≤ b + 1000 * c) (h1 : b ≤ d + 1000) : a ≤ d + 1000 * (c + 1) := Nat.le_trans h (Nat.le_trans (Nat.add_le_add_right h1 _) (Nat.le_of_eq ((Nat.add_right_comm d 1000 _).trans (Nat.add_assoc _ _ _))))
theorem o40 {a b c d e : Nat} (h : a ≤ b + c) (h1 : b ≤ d + 1) (h2 : d ≤ e) : a ≤ e + (c + 1) := Nat.le_trans h (Nat.le_trans (Nat.add_le_add_right (Nat.le_trans h1 (Nat.succ_le_succ h2)) c) (Nat.le_of_eq o26))
theorem o41 {z : Int} (h : z ≤ 13) (k : ¬ 0 > z - 13) : z - 13 = 0 := Int.le_antisymm (Int.sub_nonpos_of_le h) (Int.not_lt.mp k)
theorem o42 {a b c d : Nat} (h : a ≤ 8 * b) (h1 : c ≤ a + d + 2) (h2 : d ≤ 6) : c ≤ 8 * (b + 1) := Nat.le_trans h1 (Nat.le_trans (Nat.add_le_add_right (Nat.add_le_add h h2) 2) (Nat.le_of_eq (Nat.add_assoc _ 6 2)))
theorem o43 {a b : Nat} (h : 0 < b) : 6 - (a + b) ≤ 5 - a := Nat.le_trans (Nat.sub_le_sub_left (Nat.add_le_add_left h a) 6) (Nat.le_of_eq (Nat.succ_sub_succ 5 a))
theorem o44 {a : Nat} (h : a ≤ 5) : 0 < 6 - a := Nat.sub_pos_of_lt (Nat.lt_succ_of_le h)
theorem o45 {a b c d e : Nat} (h : a = b + (c + 1)) (h1 : d = c + e) : b + d ≤ a + e := ub1 ((congrArg (b + ·) h1).trans (Nat.add_assoc b c e).symm) (Nat.add_le_add_right (ub12 h (Nat.le_refl _) |> Nat.le_of_succ_le) e)
theorem o46 {a b c : Nat} (h : c < min a b) (e : c = a) : False := Nat.lt_irrefl c (Nat.lt_of_lt_of_le h (Nat.le_trans (Nat.min_le_left a b) (Nat.le_of_eq e.symm)))
theorem o47 {a b : Nat} (e : b = a) : ((b : Int) < 5) ↔ a < 5 := e ▸ Int.ofNat_lt
theorem o49 {a : Nat} {z : Int} (h : ((a + 1 : Nat) : Int) ≤ z) (e : z - 1 = 0) : a = 0 := Nat.le_zero.mp (Nat.le_of_succ_le_succ (Int.ofNat_le.mp (Int.le_trans h (Int.le_of_eq (Int.sub_eq_zero.mp e)))))
theorem o50 {a : Nat} (h : a > 1) (k : ¬ (1 : Int) < a) : False := k (Int.ofNat_lt.mpr h)
theorem o51 {z : Int} {k : Nat} (h : 0 ≤ z ∧ z < k) : z.toNat < k := (Int.toNat_lt h.1).mpr h.2
theorem o52 {a b : Nat} (h : 0 < b) : (a : Int) < a + b := Int.lt_add_of_pos_right _ (Int.ofNat_lt.mpr h)
theorem o53 {a b c : Nat} (h : a - b = c + 1) : c ≤ a := Nat.le_trans (ub17 h (Nat.le_refl _)) (Nat.sub_le a b)
theorem o54 {a b c : Nat} (h : a ≤ 4 * b) (k : c ≤ 4) : c + a ≤ 4 * (b + 1) := ub1 (Nat.add_comm c a) (Nat.add_le_add h k)
theorem o55 {a b c d : Nat} (h : a + b = c) (e : d = c) (l : (a : Int) < d) (k : b = 0) : False := by subst k h e; exact Nat.lt_irrefl _ (Int.ofNat_lt.mp l)
theorem o56 {a b c : Nat} (h : c < min a b) : c < b := Nat.lt_of_lt_of_le h (Nat.min_le_right a b)
theorem o57 {a b c : Nat} (h : c < min a b) : c < a := Nat.lt_of_lt_of_le h (Nat.min_le_left a b)
theorem o61 {a : Nat} {z : Int} {y : Int} (h : y = z - 1) (k : z - 1 = a) : z = ((a + 1 : Nat) : Int) := Int.sub_eq_iff_eq_add.mp k
theorem o62 {a b : Nat} (h : a ≤ b) (k : ¬ a < b) : a = b := Nat.le_antisymm h (Nat.le_of_not_lt k)
theorem o63 {a b c : Nat} (h : a = b + (c + 1)) : a = b + 1 + c := h.trans o26.symm
theorem o64 {z y : Int} {b : Nat} (h : y = z - 1) (k : z - 1 = 0) (e : b = 0) : z = ((b + 1 : Nat) : Int) := by subst e; exact Int.sub_eq_zero.mp k
theorem o65 {a b : Nat} (h : a < b + 1) (k : ¬ a = b) : a < b := Nat.lt_of_le_of_ne (Nat.le_of_lt_succ h) k
theorem o66 {a b c m : Nat} (h : a < b) (k : b ≤ m * c) : a / m < c := Nat.div_lt_of_lt_mul (Nat.lt_of_lt_of_le h k)
theorem o67 {a b : Nat} (h : a < b + 1) (k : ¬ a < b) : a = b := o62 (Nat.le_of_lt_succ h) k
theorem o68 {a : Nat} (h : 0 < a) : a = 0 + 1 + (a - 1) := (Nat.add_sub_of_le h).symm
theorem o69 {z : Int} {a b : Nat} (h : z = ((a + b : Nat) : Int)) : z - a = b := Int.sub_eq_iff_eq_add'.mpr h
theorem o70 {z : Int} {a b : Nat} (h : z = ((a + b : Nat) : Int)) (e : b = 0) : z = a := by subst e; exact h
theorem o71 {a : Nat} : a - 1 ≤ a + 1 := Nat.le_trans (Nat.sub_le a 1) (Nat.le_succ a)
theorem o72 {z : Int} {a b : Nat} : z + ((a + a : Nat) : Int) + b = z + ((a + a + b : Nat) : Int) := Int.add_assoc _ _ _
theorem o77 {a b : Nat} {t : Prop} (h : a < b ∧ t) : a ≤ b := Nat.le_of_lt h.1
theorem o78 {a b : Nat} {p t : Prop} (h : p ∧ a < b ∧ t) : a ≤ b := Nat.le_of_lt h.2.1
theorem o79 {z : Int} {b : Nat} (h : z = ((b + 1 : Nat) : Int)) (k : ¬ z - 1 = 0) : 0 < b := Nat.pos_of_ne_zero fun e => k (by subst e h; rfl)
theorem o80 {z : Int} {a : Nat} : z + (a : Int) + 1 = z + ((a + 1 : Nat) : Int) := Int.add_assoc z a 1
theorem o81 {a b c d : Nat} (h : a ≤ c * d) (k : b ≤ c) : b + a ≤ c * d + c := ub1 (Nat.add_comm b a) (Nat.add_le_add h k)
theorem o82 {z : Int} {a : Nat} : z - 1 - (a : Int) = z - ((a + 1 : Nat) : Int) := (Int.sub_sub z 1 a).trans (congrArg (z - ·) (Int.add_comm 1 (a : Int)))
theorem o83 {a b c : Nat} (h : a ≤ b + 1) : a + c ≤ b + (c + 1) := Nat.le_trans (Nat.add_le_add_right h c) (Nat.le_of_eq o26)
theorem o84 {z : Int} {a : Nat} (h : ((a + 1 : Nat) : Int) ≤ z) : (a : Int) ≤ z - 1 := Int.le_sub_right_of_add_le h
theorem o85 {z a b c : Int} (h : z = a) (k : a - b = c) : z - b = c := (congrArg (· - b) h).trans k
theorem o86 {a b : Nat} (h : a + b < b) : False := Nat.not_lt_of_le (Nat.le_add_left b a) h
theorem o87 {a : Nat} (h : a < 1000000) : 0 + 1 + a ≤ 1000001 := ub1 (Nat.add_comm (0 + 1) a) (Nat.add_le_add_right (Nat.le_of_lt h) 1)
theorem o88 {a b c : Nat} (h : a ≤ b) : a + 1 ≤ c + 1 + b := Nat.le_trans (Nat.succ_le_succ (Nat.le_trans h (Nat.le_add_left b c))) (Nat.le_of_eq (Nat.add_right_comm c b 1))
theorem o89 {a b : Nat} (h : a + 1 ≤ b) (k : b ≤ a) : False := Nat.not_succ_le_self a (Nat.le_trans h k)
theorem o91 {a b : Nat} (h : ((a + b : Nat) : Int) = b) : a = 0 := Nat.add_eq_right.mp (Int.ofNat.inj h)
theorem o92 {z a b : Int} (h : z ≤ a) (e : z = b) (d : a < b) : False := Int.not_le.mpr d (e ▸ h)
theorem o93 {a b : Nat} {z : Int} (h : ((a + b : Nat) : Int) ≤ z) : (a : Int) ≤ z := Int.le_trans (Int.ofNat_le.mpr (Nat.le_add_right a b)) h
theorem o94 {a b : Nat} : ((a + b : Nat) : Int) - b = a := Int.add_sub_cancel (a : Int) b
theorem o95 {z a b : Int} (h : z = a) (k : 0 > z - b) (d : b ≤ a) : False := absurd k (Int.not_lt.mpr (Int.sub_nonneg_of_le (h ▸ d)))
theorem o96 {z : Int} {a b : Nat} (h : z - a = b) : z = ((a + b : Nat) : Int) := (Int.sub_eq_iff_eq_add.mp h).trans (Int.add_comm _ _)
theorem o97 {a b : Nat} (h : a ≤ b) : 0 + a ≤ b + 1 := ub13 (Nat.le_succ_of_le h)
theorem o98 {a b c : Nat} (h : a = b + 1 + (c + 1)) : b + 1 < a := Nat.lt_of_lt_of_le (Nat.lt_add_of_pos_right (Nat.succ_pos c)) (Nat.le_of_eq h.symm)
theorem o99 {a : Nat} : ((0 + a : Nat) : Int) = a := congrArg Int.ofNat (Nat.zero_add a)
theorem o100 {a b : Nat} {z : Int} (h : ((a + b : Nat) : Int) ≤ z) : (b : Int) ≤ z - a := Int.le_sub_left_of_add_le h
theorem o101 {z : Int} {a b : Nat} (h : z = a) (k : ((a + b : Nat) : Int) ≤ z) : b = 0 := Nat.le_zero.mp (Nat.le_of_add_le_add_left (Int.ofNat_le.mp (h ▸ k)))
theorem o102 {z : Int} {a b : Nat} (h : z = a) (k : ((a + b : Nat) : Int) ≤ z) : z = ((a + b : Nat) : Int) := by have := o101 h k; subst this; exact h
theorem o103 {z : Int} {a : Nat} (h : z = ((a + 1 : Nat) : Int)) : z - 1 = a := Int.sub_eq_iff_eq_add.mpr h
theorem o104 {a b : Nat} (h : a + b ≤ 1000001) (k : (63 : Int) < b) : a + (0 + 1) + b / 64 ≤ 1000001 := ub1 (Nat.add_assoc a 1 _) (o24 h (ub1 (Nat.add_comm 1 _) (o21 k)))
theorem o105 {z : Int} {a b : Nat} : z - (a : Int) - b = z - ((a + b : Nat) : Int) := Int.sub_sub _ _ _
theorem o106 {a b : Nat} : (a : Int) ≤ ((b + a : Nat) : Int) := Int.ofNat_le.mpr (Nat.le_add_left a b)
theorem o107 {a b c d : Nat} (k : ¬ b = d) (h : a = b) (h1 : c = d) (e : a = c) : False := k (h.symm.trans (e.trans h1))
theorem o108 {a b c : Nat} (h : a < b + 1 + c) : a < b + (c + 1) := Nat.lt_of_lt_of_le h (Nat.le_of_eq o26)
theorem o109 {a b c : Nat} (h : a = b + (c + 1)) : b < a := Nat.lt_of_lt_of_le (Nat.lt_add_of_pos_right (Nat.succ_pos c)) (Nat.le_of_eq h.symm)
theorem o111 {a : Nat} (h : 0 < a) (k : (a : Int) = 0) : False := Nat.ne_of_gt h (Int.ofNat.inj k)
theorem o112 {b : Nat} (h : 0 < b) (e : 0 = b) : False := Nat.ne_of_lt h e
theorem o116 {a b : Nat} (h : ¬ a ≤ b) : b ≤ a := Nat.le_of_lt (Nat.lt_of_not_le h)
theorem o119 {a b : Nat} (h : a < b) (e : b = a) : False := Nat.ne_of_gt h e
theorem o120 {a b c : Nat} : a ≤ (b - c) + a := Nat.le_add_left a _
theorem o121 {a : Nat} (h : (1 : Int) < a) : a > 1 := Int.ofNat_lt.mp h
theorem o122 {a : Nat} (h : (63 : Int) < a) : a > 63 := Int.ofNat_lt.mp h
theorem o123 {n i : Nat} (h : i + 1 ≤ n) : n - i = n - (i + 1) + 1 := o0 h
theorem o124 {a b : Nat} : a + b - b = a := Nat.add_sub_cancel a b
theorem o125 {a b : Nat} : a - 0 + b = a + b := rfl
theorem o126 {a : Nat} (h : (a : Int) = 0) : a = 0 := Int.ofNat.inj h
theorem o127 {a : Nat} : a ≤ a - 0 := Nat.le_refl a
theorem o128 {a b : Nat} (h : a + 1 ≤ b) : a ≤ b := Nat.le_of_lt h
theorem o129 {a b : Nat} (h : a = b + 1 + 0) : a - 1 = b := congrArg (· - 1) h
theorem o130 {z : Int} (h : 0 ≤ z ∧ z < 1000000) : z.toNat < 1000000 := o51 h
theorem o131 {a b : Nat} : ((a * 64 : Nat) : Int) + b - ((0 : Nat) : Int) = ((a * 64 + b : Nat) : Int) := Int.sub_zero _
theorem o132 {z : Int} {b : Nat} : z + (b : Int) + ((0 : Nat) : Int) = z + b := Int.add_zero _
theorem o133 {a b : Nat} (h : b ≤ a + 1) (k : a + 1 ≤ 5) : b < 1000000 := Nat.lt_of_le_of_lt (Nat.le_trans h k) (by decide)
theorem o134 {a : Nat} : a + 0 = a := rfl
theorem o135 {a k : Nat} (h : a < k) (l : a ≥ k) : False := Nat.not_lt_of_le l h
theorem o136 {a b : Nat} : (a : Int) + b = ((a + b : Nat) : Int) := rfl
theorem o137 {a : Nat} : (a : Int) * 64 = ((a * 64 : Nat) : Int) := rfl
theorem o138 {a : Nat} (h : ¬ (63 : Int) < a) (k : a > 63) : False := h (Int.ofNat_lt.mpr k)
theorem o139 {a b : Nat} (h : a = b + 0) : a ≤ b := Nat.le_of_eq h
theorem o140 {a b : Nat} (h : a + 1 ≤ b) (e : a = b) : False := Nat.ne_of_lt h e
theorem o141 {a j : Nat} (h : a < j + 1) (k : a > j) : False := Nat.not_lt_of_le (Nat.le_of_lt_succ h) k
theorem o142 {a b : Nat} {t : Prop} (h : a < b ∧ t) : a < b := h.1
theorem o144 {z : Int} {a b : Nat} (h : z = a) (k : ((a + b : Nat) : Int) ≤ z) (p : 0 < b) : False := Nat.ne_of_gt p (o101 h k)
theorem o145 {a b : Nat} (e : ¬ a = b) (k : ¬ a < b) (h : a < b + 1) : False := e (o67 h k)
theorem o146 {z : Int} (h : z = 15) (k : z = 14) : False := absurd (h.symm.trans k) (by decide)
theorem o149 {z : Int} (h : z = 64) (k : z = 0) : False := absurd (h.symm.trans k) (by decide)
theorem o157 {a b c : Nat} (e : b = c) (h : a < b) : a < c := ul2 h e
theorem lt0s {P : Nat → Prop} {n i : Nat} (h : i < n + 1) (a : i < n → P i) (b : P n) : P i := (Nat.lt_or_eq_of_le (Nat.le_of_lt_succ h)).elim a fun e => e ▸ b
theorem lt5 {P : Nat → Prop} {i : Nat} (h0 : P 0) (h1 : P 1) (h2 : P 2) (h3 : P 3) (h4 : P 4) (h : i < 5) : P i := lt0s h (fun h => lt0s h (fun h => lt0s h (fun h => lt0s h (fun h => lt0s h (fun h => absurd h (Nat.not_lt_zero _)) h0) h1) h2) h3) h4
theorem gen1 {α : Sort _} {G : Prop} (v : α) (h : ∀ x, x = v → G) : G := h v rfl
theorem e0_2 {p0 p1 : Prop} {G : Prop} (h : p0 ∧ p1) (c : p0 → p1 → G) : G := c h.1 h.2
theorem e0_3 {p0 p1 p2 : Prop} {G : Prop} (h : p0 ∧ p1 ∧ p2) (c : p0 → p1 → p2 → G) : G := c h.1 h.2.1 h.2.2
theorem e0_4 {p0 p1 p2 p3 : Prop} {G : Prop} (h : p0 ∧ p1 ∧ p2 ∧ p3) (c : p0 → p1 → p2 → p3 → G) : G := c h.1 h.2.1 h.2.2.1 h.2.2.2
theorem e0_5 {p0 p1 p2 p3 p4 : Prop} {G : Prop} (h : p0 ∧ p1 ∧ p2 ∧ p3 ∧ p4) (c : p0 → p1 → p2 → p3 → p4 → G) : G := c h.1 h.2.1 h.2.2.1 h.2.2.2.1 h.2.2.2.2
theorem e0_6 {p0 p1 p2 p3 p4 p5 : Prop} {G : Prop} (h : p0 ∧ p1 ∧ p2 ∧ p3 ∧ p4 ∧ p5) (c : p0 → p1 → p2 → p3 → p4 → p5 → G) : G := c h.1 h.2.1 h.2.2.1 h.2.2.2.1 h.2.2.2.2.1 h.2.2.2.2.2
theorem e0_7 {p0 p1 p2 p3 p4 p5 p6 : Prop} {G : Prop} (h : p0 ∧ p1 ∧ p2 ∧ p3 ∧ p4 ∧ p5 ∧ p6) (c : p0 → p1 → p2 → p3 → p4 → p5 → p6 → G) : G := c h.1 h.2.1 h.2.2.1 h.2.2.2.1 h.2.2.2.2.1 h.2.2.2.2.2.1 h.2.2.2.2.2.2
theorem e0_8 {p0 p1 p2 p3 p4 p5 p6 p7 : Prop} {G : Prop} (h : p0 ∧ p1 ∧ p2 ∧ p3 ∧ p4 ∧ p5 ∧ p6 ∧ p7) (c : p0 → p1 → p2 → p3 → p4 → p5 → p6 → p7 → G) : G := c h.1 h.2.1 h.2.2.1 h.2.2.2.1 h.2.2.2.2.1 h.2.2.2.2.2.1 h.2.2.2.2.2.2.1 h.2.2.2.2.2.2.2
theorem e0_9 {p0 p1 p2 p3 p4 p5 p6 p7 p8 : Prop} {G : Prop} (h : p0 ∧ p1 ∧ p2 ∧ p3 ∧ p4 ∧ p5 ∧ p6 ∧ p7 ∧ p8) (c : p0 → p1 → p2 → p3 → p4 → p5 → p6 → p7 → p8 → G) : G := c h.1 h.2.1 h.2.2.1 h.2.2.2.1 h.2.2.2.2.1 h.2.2.2.2.2.1 h.2.2.2.2.2.2.1 h.2.2.2.2.2.2.2.1 h.2.2.2.2.2.2.2.2
theorem e0_10 {p0 p1 p2 p3 p4 p5 p6 p7 p8 p9 : Prop} {G : Prop} (h : p0 ∧ p1 ∧ p2 ∧ p3 ∧ p4 ∧ p5 ∧ p6 ∧ p7 ∧ p8 ∧ p9) (c : p0 → p1 → p2 → p3 → p4 → p5 → p6 → p7 → p8 → p9 → G) : G := c h.1 h.2.1 h.2.2.1 h.2.2.2.1 h.2.2.2.2.1 h.2.2.2.2.2.1 h.2.2.2.2.2.2.1 h.2.2.2.2.2.2.2.1 h.2.2.2.2.2.2.2.2.1 h.2.2.2.2.2.2.2.2.2
theorem e0_11 {p0 p1 p2 p3 p4 p5 p6 p7 p8 p9 p10 : Prop} {G : Prop} (h : p0 ∧ p1 ∧ p2 ∧ p3 ∧ p4 ∧ p5 ∧ p6 ∧ p7 ∧ p8 ∧ p9 ∧ p10) (c : p0 → p1 → p2 → p3 → p4 → p5 → p6 → p7 → p8 → p9 → p10 → G) : G := c h.1 h.2.1 h.2.2.1 h.2.2.2.1 h.2.2.2.2.1 h.2.2.2.2.2.1 h.2.2.2.2.2.2.1 h.2.2.2.2.2.2.2.1 h.2.2.2.2.2.2.2.2.1 h.2.2.2.2.2.2.2.2.2.1 h.2.2.2.2.2.2.2.2.2.2
theorem e0_16 {p0 p1 p2 p3 p4 p5 p6 p7 p8 p9 p10 p11 p12 p13 p14 p15 : Prop} {G : Prop} (h : p0 ∧ p1 ∧ p2 ∧ p3 ∧ p4 ∧ p5 ∧ p6 ∧ p7 ∧ p8 ∧ p9 ∧ p10 ∧ p11 ∧ p12 ∧ p13 ∧ p14 ∧ p15) (c : p0 → p1 → p2 → p3 → p4 → p5 → p6 → p7 → p8 → p9 → p10 → p11 → p12 → p13 → p14 → p15 → G) : G := c h.1 h.2.1 h.2.2.1 h.2.2.2.1 h.2.2.2.2.1 h.2.2.2.2.2.1 h.2.2.2.2.2.2.1 h.2.2.2.2.2.2.2.1 h.2.2.2.2.2.2.2.2.1 h.2.2.2.2.2.2.2.2.2.1 h.2.2.2.2.2.2.2.2.2.2.1 h.2.2.2.2.2.2.2.2.2.2.2.1 h.2.2.2.2.2.2.2.2.2.2.2.2.1 h.2.2.2.2.2.2.2.2.2.2.2.2.2.1 h.2.2.2.2.2.2.2.2.2.2.2.2.2.2.1 h.2.2.2.2.2.2.2.2.2.2.2.2.2.2.2
theorem e0_18 {p0 p1 p2 p3 p4 p5 p6 p7 p8 p9 p10 p11 p12 p13 p14 p15 p16 p17 : Prop} {G : Prop} (h : p0 ∧ p1 ∧ p2 ∧ p3 ∧ p4 ∧ p5 ∧ p6 ∧ p7 ∧ p8 ∧ p9 ∧ p10 ∧ p11 ∧ p12 ∧ p13 ∧ p14 ∧ p15 ∧ p16 ∧ p17) (c : p0 → p1 → p2 → p3 → p4 → p5 → p6 → p7 → p8 → p9 → p10 → p11 → p12 → p13 → p14 → p15 → p16 → p17 → G) : G := c h.1 h.2.1 h.2.2.1 h.2.2.2.1 h.2.2.2.2.1 h.2.2.2.2.2.1 h.2.2.2.2.2.2.1 h.2.2.2.2.2.2.2.1 h.2.2.2.2.2.2.2.2.1 h.2.2.2.2.2.2.2.2.2.1 h.2.2.2.2.2.2.2.2.2.2.1 h.2.2.2.2.2.2.2.2.2.2.2.1 h.2.2.2.2.2.2.2.2.2.2.2.2.1 h.2.2.2.2.2.2.2.2.2.2.2.2.2.1 h.2.2.2.2.2.2.2.2.2.2.2.2.2.2.1 h.2.2.2.2.2.2.2.2.2.2.2.2.2.2.2.1 h.2.2.2.2.2.2.2.2.2.2.2.2.2.2.2.2.1 h.2.2.2.2.2.2.2.2.2.2.2.2.2.2.2.2.2
theorem e1_1 {a0 : Sort _} {p0 : a0 → Prop} {G : Prop} (h : ∃ x0, p0 x0) (c : ∀ x0, p0 x0 → G) : G := h.elim fun x0 h => c x0 h
theorem e2_1 {a0 a1 : Sort _} {p0 : a0 → a1 → Prop} {G : Prop} (h : ∃ x0 x1, p0 x0 x1) (c : ∀ x0 x1, p0 x0 x1 → G) : G := h.elim fun x0 h => h.elim fun x1 h => c x0 x1 h
theorem e3_1 {a0 a1 a2 : Sort _} {p0 : a0 → a1 → a2 → Prop} {G : Prop} (h : ∃ x0 x1 x2, p0 x0 x1 x2) (c : ∀ x0 x1 x2, p0 x0 x1 x2 → G) : G := h.elim fun x0 h => h.elim fun x1 h => h.elim fun x2 h => c x0 x1 x2 h
theorem e4_1 {a0 a1 a2 a3 : Sort _} {p0 : a0 → a1 → a2 → a3 → Prop} {G : Prop} (h : ∃ x0 x1 x2 x3, p0 x0 x1 x2 x3) (c : ∀ x0 x1 x2 x3, p0 x0 x1 x2 x3 → G) : G := h.elim fun x0 h => h.elim fun x1 h => h.elim fun x2 h => h.elim fun x3 h => c x0 x1 x2 x3 h
theorem e5_1 {a0 a1 a2 a3 a4 : Sort _} {p0 : a0 → a1 → a2 → a3 → a4 → Prop} {G : Prop} (h : ∃ x0 x1 x2 x3 x4, p0 x0 x1 x2 x3 x4) (c : ∀ x0 x1 x2 x3 x4, p0 x0 x1 x2 x3 x4 → G) : G := h.elim fun x0 h => h.elim fun x1 h => h.elim fun x2 h => h.elim fun x3 h => h.elim fun x4 h => c x0 x1 x2 x3 x4 h
theorem e6_1 {a0 a1 a2 a3 a4 a5 : Sort _} {p0 : a0 → a1 → a2 → a3 → a4 → a5 → Prop} {G : Prop} (h : ∃ x0 x1 x2 x3 x4 x5, p0 x0 x1 x2 x3 x4 x5) (c : ∀ x0 x1 x2 x3 x4 x5, p0 x0 x1 x2 x3 x4 x5 → G) : G := h.elim fun x0 h => h.elim fun x1 h => h.elim fun x2 h => h.elim fun x3 h => h.elim fun x4 h => h.elim fun x5 h => c x0 x1 x2 x3 x4 x5 h
theorem e10_1 {a0 a1 a2 a3 a4 a5 a6 a7 a8 a9 : Sort _} {p0 : a0 → a1 → a2 → a3 → a4 → a5 → a6 → a7 → a8 → a9 → Prop} {G : Prop} (h : ∃ x0 x1 x2 x3 x4 x5 x6 x7 x8 x9, p0 x0 x1 x2 x3 x4 x5 x6 x7 x8 x9) (c : ∀ x0 x1 x2 x3 x4 x5 x6 x7 x8 x9, p0 x0 x1 x2 x3 x4 x5 x6 x7 x8 x9 → G) : G := h.elim fun x0 h => h.elim fun x1 h => h.elim fun x2 h => h.elim fun x3 h => h.elim fun x4 h => h.elim fun x5 h => h.elim fun x6 h => h.elim fun x7 h => h.elim fun x8 h => h.elim fun x9 h => c x0 x1 x2 x3 x4 x5 x6 x7 x8 x9 h
theorem e11_1 {a0 a1 a2 a3 a4 a5 a6 a7 a8 a9 a10 : Sort _} {p0 : a0 → a1 → a2 → a3 → a4 → a5 → a6 → a7 → a8 → a9 → a10 → Prop} {G : Prop} (h : ∃ x0 x1 x2 x3 x4 x5 x6 x7 x8 x9 x10, p0 x0 x1 x2 x3 x4 x5 x6 x7 x8 x9 x10) (c : ∀ x0 x1 x2 x3 x4 x5 x6 x7 x8 x9 x10, p0 x0 x1 x2 x3 x4 x5 x6 x7 x8 x9 x10 → G) : G := h.elim fun x0 h => h.elim fun x1 h => h.elim fun x2 h => h.elim fun x3 h => h.elim fun x4 h => h.elim fun x5 h => h.elim fun x6 h => h.elim fun x7 h => h.elim fun x8 h => h.elim fun x9 h => h.elim fun x10 h => c x0 x1 x2 x3 x4 x5 x6 x7 x8 x9 x10 h
theorem e1_2 {a0 : Sort _} {p0 p1 : a0 → Prop} {G : Prop} (h : ∃ x0, p0 x0 ∧ p1 x0) (c : ∀ x0, p0 x0 → p1 x0 → G) : G := e1_1 h fun x0 h => e0_2 h (c x0)
theorem e1_3 {a0 : Sort _} {p0 p1 p2 : a0 → Prop} {G : Prop} (h : ∃ x0, p0 x0 ∧ p1 x0 ∧ p2 x0) (c : ∀ x0, p0 x0 → p1 x0 → p2 x0 → G) : G := e1_1 h fun x0 h => e0_3 h (c x0)
theorem e1_4 {a0 : Sort _} {p0 p1 p2 p3 : a0 → Prop} {G : Prop} (h : ∃ x0, p0 x0 ∧ p1 x0 ∧ p2 x0 ∧ p3 x0) (c : ∀ x0, p0 x0 → p1 x0 → p2 x0 → p3 x0 → G) : G := e1_1 h fun x0 h => e0_4 h (c x0)
theorem e1_5 {a0 : Sort _} {p0 p1 p2 p3 p4 : a0 → Prop} {G : Prop} (h : ∃ x0, p0 x0 ∧ p1 x0 ∧ p2 x0 ∧ p3 x0 ∧ p4 x0) (c : ∀ x0, p0 x0 → p1 x0 → p2 x0 → p3 x0 → p4 x0 → G) : G := e1_1 h fun x0 h => e0_5 h (c x0)
theorem e1_8 {a0 : Sort _} {p0 p1 p2 p3 p4 p5 p6 p7 : a0 → Prop} {G : Prop} (h : ∃ x0, p0 x0 ∧ p1 x0 ∧ p2 x0 ∧ p3 x0 ∧ p4 x0 ∧ p5 x0 ∧ p6 x0 ∧ p7 x0) (c : ∀ x0, p0 x0 → p1 x0 → p2 x0 → p3 x0 → p4 x0 → p5 x0 → p6 x0 → p7 x0 → G) : G := e1_1 h fun x0 h => e0_8 h (c x0)
theorem e2_2 {a0 a1 : Sort _} {p0 p1 : a0 → a1 → Prop} {G : Prop} (h : ∃ x0 x1, p0 x0 x1 ∧ p1 x0 x1) (c : ∀ x0 x1, p0 x0 x1 → p1 x0 x1 → G) : G := e2_1 h fun x0 x1 h => e0_2 h (c x0 x1)
theorem e2_3 {a0 a1 : Sort _} {p0 p1 p2 : a0 → a1 → Prop} {G : Prop} (h : ∃ x0 x1, p0 x0 x1 ∧ p1 x0 x1 ∧ p2 x0 x1) (c : ∀ x0 x1, p0 x0 x1 → p1 x0 x1 → p2 x0 x1 → G) : G := e2_1 h fun x0 x1 h => e0_3 h (c x0 x1)
theorem e2_4 {a0 a1 : Sort _} {p0 p1 p2 p3 : a0 → a1 → Prop} {G : Prop} (h : ∃ x0 x1, p0 x0 x1 ∧ p1 x0 x1 ∧ p2 x0 x1 ∧ p3 x0 x1) (c : ∀ x0 x1, p0 x0 x1 → p1 x0 x1 → p2 x0 x1 → p3 x0 x1 → G) : G := e2_1 h fun x0 x1 h => e0_4 h (c x0 x1)
theorem e2_5 {a0 a1 : Sort _} {p0 p1 p2 p3 p4 : a0 → a1 → Prop} {G : Prop} (h : ∃ x0 x1, p0 x0 x1 ∧ p1 x0 x1 ∧ p2 x0 x1 ∧ p3 x0 x1 ∧ p4 x0 x1) (c : ∀ x0 x1, p0 x0 x1 → p1 x0 x1 → p2 x0 x1 → p3 x0 x1 → p4 x0 x1 → G) : G := e2_1 h fun x0 x1 h => e0_5 h (c x0 x1)
theorem e2_7 {a0 a1 : Sort _} {p0 p1 p2 p3 p4 p5 p6 : a0 → a1 → Prop} {G : Prop} (h : ∃ x0 x1, p0 x0 x1 ∧ p1 x0 x1 ∧ p2 x0 x1 ∧ p3 x0 x1 ∧ p4 x0 x1 ∧ p5 x0 x1 ∧ p6 x0 x1) (c : ∀ x0 x1, p0 x0 x1 → p1 x0 x1 → p2 x0 x1 → p3 x0 x1 → p4 x0 x1 → p5 x0 x1 → p6 x0 x1 → G) : G := e2_1 h fun x0 x1 h => e0_7 h (c x0 x1)
theorem e2_10 {a0 a1 : Sort _} {p0 p1 p2 p3 p4 p5 p6 p7 p8 p9 : a0 → a1 → Prop} {G : Prop} (h : ∃ x0 x1, p0 x0 x1 ∧ p1 x0 x1 ∧ p2 x0 x1 ∧ p3 x0 x1 ∧ p4 x0 x1 ∧ p5 x0 x1 ∧ p6 x0 x1 ∧ p7 x0 x1 ∧ p8 x0 x1 ∧ p9 x0 x1) (c : ∀ x0 x1, p0 x0 x1 → p1 x0 x1 → p2 x0 x1 → p3 x0 x1 → p4 x0 x1 → p5 x0 x1 → p6 x0 x1 → p7 x0 x1 → p8 x0 x1 → p9 x0 x1 → G) : G := e2_1 h fun x0 x1 h => e0_10 h (c x0 x1)
theorem e3_2 {a0 a1 a2 : Sort _} {p0 p1 : a0 → a1 → a2 → Prop} {G : Prop} (h : ∃ x0 x1 x2, p0 x0 x1 x2 ∧ p1 x0 x1 x2) (c : ∀ x0 x1 x2, p0 x0 x1 x2 → p1 x0 x1 x2 → G) : G := e3_1 h fun x0 x1 x2 h => e0_2 h (c x0 x1 x2)
theorem e3_3 {a0 a1 a2 : Sort _} {p0 p1 p2 : a0 → a1 → a2 → Prop} {G : Prop} (h : ∃ x0 x1 x2, p0 x0 x1 x2 ∧ p1 x0 x1 x2 ∧ p2 x0 x1 x2) (c : ∀ x0 x1 x2, p0 x0 x1 x2 → p1 x0 x1 x2 → p2 x0 x1 x2 → G) : G := e3_1 h fun x0 x1 x2 h => e0_3 h (c x0 x1 x2)
theorem e3_4 {a0 a1 a2 : Sort _} {p0 p1 p2 p3 : a0 → a1 → a2 → Prop} {G : Prop} (h : ∃ x0 x1 x2, p0 x0 x1 x2 ∧ p1 x0 x1 x2 ∧ p2 x0 x1 x2 ∧ p3 x0 x1 x2) (c : ∀ x0 x1 x2, p0 x0 x1 x2 → p1 x0 x1 x2 → p2 x0 x1 x2 → p3 x0 x1 x2 → G) : G := e3_1 h fun x0 x1 x2 h => e0_4 h (c x0 x1 x2)
theorem e3_6 {a0 a1 a2 : Sort _} {p0 p1 p2 p3 p4 p5 : a0 → a1 → a2 → Prop} {G : Prop} (h : ∃ x0 x1 x2, p0 x0 x1 x2 ∧ p1 x0 x1 x2 ∧ p2 x0 x1 x2 ∧ p3 x0 x1 x2 ∧ p4 x0 x1 x2 ∧ p5 x0 x1 x2) (c : ∀ x0 x1 x2, p0 x0 x1 x2 → p1 x0 x1 x2 → p2 x0 x1 x2 → p3 x0 x1 x2 → p4 x0 x1 x2 → p5 x0 x1 x2 → G) : G := e3_1 h fun x0 x1 x2 h => e0_6 h (c x0 x1 x2)
theorem e3_11 {a0 a1 a2 : Sort _} {p0 p1 p2 p3 p4 p5 p6 p7 p8 p9 p10 : a0 → a1 → a2 → Prop} {G : Prop} (h : ∃ x0 x1 x2, p0 x0 x1 x2 ∧ p1 x0 x1 x2 ∧ p2 x0 x1 x2 ∧ p3 x0 x1 x2 ∧ p4 x0 x1 x2 ∧ p5 x0 x1 x2 ∧ p6 x0 x1 x2 ∧ p7 x0 x1 x2 ∧ p8 x0 x1 x2 ∧ p9 x0 x1 x2 ∧ p10 x0 x1 x2) (c : ∀ x0 x1 x2, p0 x0 x1 x2 → p1 x0 x1 x2 → p2 x0 x1 x2 → p3 x0 x1 x2 → p4 x0 x1 x2 → p5 x0 x1 x2 → p6 x0 x1 x2 → p7 x0 x1 x2 → p8 x0 x1 x2 → p9 x0 x1 x2 → p10 x0 x1 x2 → G) : G := e3_1 h fun x0 x1 x2 h => e0_11 h (c x0 x1 x2)
theorem e4_2 {a0 a1 a2 a3 : Sort _} {p0 p1 : a0 → a1 → a2 → a3 → Prop} {G : Prop} (h : ∃ x0 x1 x2 x3, p0 x0 x1 x2 x3 ∧ p1 x0 x1 x2 x3) (c : ∀ x0 x1 x2 x3, p0 x0 x1 x2 x3 → p1 x0 x1 x2 x3 → G) : G := e4_1 h fun x0 x1 x2 x3 h => e0_2 h (c x0 x1 x2 x3)
theorem e4_4 {a0 a1 a2 a3 : Sort _} {p0 p1 p2 p3 : a0 → a1 → a2 → a3 → Prop} {G : Prop} (h : ∃ x0 x1 x2 x3, p0 x0 x1 x2 x3 ∧ p1 x0 x1 x2 x3 ∧ p2 x0 x1 x2 x3 ∧ p3 x0 x1 x2 x3) (c : ∀ x0 x1 x2 x3, p0 x0 x1 x2 x3 → p1 x0 x1 x2 x3 → p2 x0 x1 x2 x3 → p3 x0 x1 x2 x3 → G) : G := e4_1 h fun x0 x1 x2 x3 h => e0_4 h (c x0 x1 x2 x3)
theorem e4_6 {a0 a1 a2 a3 : Sort _} {p0 p1 p2 p3 p4 p5 : a0 → a1 → a2 → a3 → Prop} {G : Prop} (h : ∃ x0 x1 x2 x3, p0 x0 x1 x2 x3 ∧ p1 x0 x1 x2 x3 ∧ p2 x0 x1 x2 x3 ∧ p3 x0 x1 x2 x3 ∧ p4 x0 x1 x2 x3 ∧ p5 x0 x1 x2 x3) (c : ∀ x0 x1 x2 x3, p0 x0 x1 x2 x3 → p1 x0 x1 x2 x3 → p2 x0 x1 x2 x3 → p3 x0 x1 x2 x3 → p4 x0 x1 x2 x3 → p5 x0 x1 x2 x3 → G) : G := e4_1 h fun x0 x1 x2 x3 h => e0_6 h (c x0 x1 x2 x3)
theorem e4_7 {a0 a1 a2 a3 : Sort _} {p0 p1 p2 p3 p4 p5 p6 : a0 → a1 → a2 → a3 → Prop} {G : Prop} (h : ∃ x0 x1 x2 x3, p0 x0 x1 x2 x3 ∧ p1 x0 x1 x2 x3 ∧ p2 x0 x1 x2 x3 ∧ p3 x0 x1 x2 x3 ∧ p4 x0 x1 x2 x3 ∧ p5 x0 x1 x2 x3 ∧ p6 x0 x1 x2 x3) (c : ∀ x0 x1 x2 x3, p0 x0 x1 x2 x3 → p1 x0 x1 x2 x3 → p2 x0 x1 x2 x3 → p3 x0 x1 x2 x3 → p4 x0 x1 x2 x3 → p5 x0 x1 x2 x3 → p6 x0 x1 x2 x3 → G) : G := e4_1 h fun x0 x1 x2 x3 h => e0_7 h (c x0 x1 x2 x3)
theorem e4_8 {a0 a1 a2 a3 : Sort _} {p0 p1 p2 p3 p4 p5 p6 p7 : a0 → a1 → a2 → a3 → Prop} {G : Prop} (h : ∃ x0 x1 x2 x3, p0 x0 x1 x2 x3 ∧ p1 x0 x1 x2 x3 ∧ p2 x0 x1 x2 x3 ∧ p3 x0 x1 x2 x3 ∧ p4 x0 x1 x2 x3 ∧ p5 x0 x1 x2 x3 ∧ p6 x0 x1 x2 x3 ∧ p7 x0 x1 x2 x3) (c : ∀ x0 x1 x2 x3, p0 x0 x1 x2 x3 → p1 x0 x1 x2 x3 → p2 x0 x1 x2 x3 → p3 x0 x1 x2 x3 → p4 x0 x1 x2 x3 → p5 x0 x1 x2 x3 → p6 x0 x1 x2 x3 → p7 x0 x1 x2 x3 → G) : G := e4_1 h fun x0 x1 x2 x3 h => e0_8 h (c x0 x1 x2 x3)
theorem e5_3 {a0 a1 a2 a3 a4 : Sort _} {p0 p1 p2 : a0 → a1 → a2 → a3 → a4 → Prop} {G : Prop} (h : ∃ x0 x1 x2 x3 x4, p0 x0 x1 x2 x3 x4 ∧ p1 x0 x1 x2 x3 x4 ∧ p2 x0 x1 x2 x3 x4) (c : ∀ x0 x1 x2 x3 x4, p0 x0 x1 x2 x3 x4 → p1 x0 x1 x2 x3 x4 → p2 x0 x1 x2 x3 x4 → G) : G := e5_1 h fun x0 x1 x2 x3 x4 h => e0_3 h (c x0 x1 x2 x3 x4)
theorem e5_5 {a0 a1 a2 a3 a4 : Sort _} {p0 p1 p2 p3 p4 : a0 → a1 → a2 → a3 → a4 → Prop} {G : Prop} (h : ∃ x0 x1 x2 x3 x4, p0 x0 x1 x2 x3 x4 ∧ p1 x0 x1 x2 x3 x4 ∧ p2 x0 x1 x2 x3 x4 ∧ p3 x0 x1 x2 x3 x4 ∧ p4 x0 x1 x2 x3 x4) (c : ∀ x0 x1 x2 x3 x4, p0 x0 x1 x2 x3 x4 → p1 x0 x1 x2 x3 x4 → p2 x0 x1 x2 x3 x4 → p3 x0 x1 x2 x3 x4 → p4 x0 x1 x2 x3 x4 → G) : G := e5_1 h fun x0 x1 x2 x3 x4 h => e0_5 h (c x0 x1 x2 x3 x4)
theorem e5_6 {a0 a1 a2 a3 a4 : Sort _} {p0 p1 p2 p3 p4 p5 : a0 → a1 → a2 → a3 → a4 → Prop} {G : Prop} (h : ∃ x0 x1 x2 x3 x4, p0 x0 x1 x2 x3 x4 ∧ p1 x0 x1 x2 x3 x4 ∧ p2 x0 x1 x2 x3 x4 ∧ p3 x0 x1 x2 x3 x4 ∧ p4 x0 x1 x2 x3 x4 ∧ p5 x0 x1 x2 x3 x4) (c : ∀ x0 x1 x2 x3 x4, p0 x0 x1 x2 x3 x4 → p1 x0 x1 x2 x3 x4 → p2 x0 x1 x2 x3 x4 → p3 x0 x1 x2 x3 x4 → p4 x0 x1 x2 x3 x4 → p5 x0 x1 x2 x3 x4 → G) : G := e5_1 h fun x0 x1 x2 x3 x4 h => e0_6 h (c x0 x1 x2 x3 x4)
theorem e5_8 {a0 a1 a2 a3 a4 : Sort _} {p0 p1 p2 p3 p4 p5 p6 p7 : a0 → a1 → a2 → a3 → a4 → Prop} {G : Prop} (h : ∃ x0 x1 x2 x3 x4, p0 x0 x1 x2 x3 x4 ∧ p1 x0 x1 x2 x3 x4 ∧ p2 x0 x1 x2 x3 x4 ∧ p3 x0 x1 x2 x3 x4 ∧ p4 x0 x1 x2 x3 x4 ∧ p5 x0 x1 x2 x3 x4 ∧ p6 x0 x1 x2 x3 x4 ∧ p7 x0 x1 x2 x3 x4) (c : ∀ x0 x1 x2 x3 x4, p0 x0 x1 x2 x3 x4 → p1 x0 x1 x2 x3 x4 → p2 x0 x1 x2 x3 x4 → p3 x0 x1 x2 x3 x4 → p4 x0 x1 x2 x3 x4 → p5 x0 x1 x2 x3 x4 → p6 x0 x1 x2 x3 x4 → p7 x0 x1 x2 x3 x4 → G) : G := e5_1 h fun x0 x1 x2 x3 x4 h => e0_8 h (c x0 x1 x2 x3 x4)
theorem e5_9 {a0 a1 a2 a3 a4 : Sort _} {p0 p1 p2 p3 p4 p5 p6 p7 p8 : a0 → a1 → a2 → a3 → a4 → Prop} {G : Prop} (h : ∃ x0 x1 x2 x3 x4, p0 x0 x1 x2 x3 x4 ∧ p1 x0 x1 x2 x3 x4 ∧ p2 x0 x1 x2 x3 x4 ∧ p3 x0 x1 x2 x3 x4 ∧ p4 x0 x1 x2 x3 x4 ∧ p5 x0 x1 x2 x3 x4 ∧ p6 x0 x1 x2 x3 x4 ∧ p7 x0 x1 x2 x3 x4 ∧ p8 x0 x1 x2 x3 x4) (c : ∀ x0 x1 x2 x3 x4, p0 x0 x1 x2 x3 x4 → p1 x0 x1 x2 x3 x4 → p2 x0 x1 x2 x3 x4 → p3 x0 x1 x2 x3 x4 → p4 x0 x1 x2 x3 x4 → p5 x0 x1 x2 x3 x4 → p6 x0 x1 x2 x3 x4 → p7 x0 x1 x2 x3 x4 → p8 x0 x1 x2 x3 x4 → G) : G := e5_1 h fun x0 x1 x2 x3 x4 h => e0_9 h (c x0 x1 x2 x3 x4)
theorem e6_5 {a0 a1 a2 a3 a4 a5 : Sort _} {p0 p1 p2 p3 p4 : a0 → a1 → a2 → a3 → a4 → a5 → Prop} {G : Prop} (h : ∃ x0 x1 x2 x3 x4 x5, p0 x0 x1 x2 x3 x4 x5 ∧ p1 x0 x1 x2 x3 x4 x5 ∧ p2 x0 x1 x2 x3 x4 x5 ∧ p3 x0 x1 x2 x3 x4 x5 ∧ p4 x0 x1 x2 x3 x4 x5) (c : ∀ x0 x1 x2 x3 x4 x5, p0 x0 x1 x2 x3 x4 x5 → p1 x0 x1 x2 x3 x4 x5 → p2 x0 x1 x2 x3 x4 x5 → p3 x0 x1 x2 x3 x4 x5 → p4 x0 x1 x2 x3 x4 x5 → G) : G := e6_1 h fun x0 x1 x2 x3 x4 x5 h => e0_5 h (c x0 x1 x2 x3 x4 x5)
theorem e6_7 {a0 a1 a2 a3 a4 a5 : Sort _} {p0 p1 p2 p3 p4 p5 p6 : a0 → a1 → a2 → a3 → a4 → a5 → Prop} {G : Prop} (h : ∃ x0 x1 x2 x3 x4 x5, p0 x0 x1 x2 x3 x4 x5 ∧ p1 x0 x1 x2 x3 x4 x5 ∧ p2 x0 x1 x2 x3 x4 x5 ∧ p3 x0 x1 x2 x3 x4 x5 ∧ p4 x0 x1 x2 x3 x4 x5 ∧ p5 x0 x1 x2 x3 x4 x5 ∧ p6 x0 x1 x2 x3 x4 x5) (c : ∀ x0 x1 x2 x3 x4 x5, p0 x0 x1 x2 x3 x4 x5 → p1 x0 x1 x2 x3 x4 x5 → p2 x0 x1 x2 x3 x4 x5 → p3 x0 x1 x2 x3 x4 x5 → p4 x0 x1 x2 x3 x4 x5 → p5 x0 x1 x2 x3 x4 x5 → p6 x0 x1 x2 x3 x4 x5 → G) : G := e6_1 h fun x0 x1 x2 x3 x4 x5 h => e0_7 h (c x0 x1 x2 x3 x4 x5)
theorem e6_10 {a0 a1 a2 a3 a4 a5 : Sort _} {p0 p1 p2 p3 p4 p5 p6 p7 p8 p9 : a0 → a1 → a2 → a3 → a4 → a5 → Prop} {G : Prop} (h : ∃ x0 x1 x2 x3 x4 x5, p0 x0 x1 x2 x3 x4 x5 ∧ p1 x0 x1 x2 x3 x4 x5 ∧ p2 x0 x1 x2 x3 x4 x5 ∧ p3 x0 x1 x2 x3 x4 x5 ∧ p4 x0 x1 x2 x3 x4 x5 ∧ p5 x0 x1 x2 x3 x4 x5 ∧ p6 x0 x1 x2 x3 x4 x5 ∧ p7 x0 x1 x2 x3 x4 x5 ∧ p8 x0 x1 x2 x3 x4 x5 ∧ p9 x0 x1 x2 x3 x4 x5) (c : ∀ x0 x1 x2 x3 x4 x5, p0 x0 x1 x2 x3 x4 x5 → p1 x0 x1 x2 x3 x4 x5 → p2 x0 x1 x2 x3 x4 x5 → p3 x0 x1 x2 x3 x4 x5 → p4 x0 x1 x2 x3 x4 x5 → p5 x0 x1 x2 x3 x4 x5 → p6 x0 x1 x2 x3 x4 x5 → p7 x0 x1 x2 x3 x4 x5 → p8 x0 x1 x2 x3 x4 x5 → p9 x0 x1 x2 x3 x4 x5 → G) : G := e6_1 h fun x0 x1 x2 x3 x4 x5 h => e0_10 h (c x0 x1 x2 x3 x4 x5)
theorem e10_7 {a0 a1 a2 a3 a4 a5 a6 a7 a8 a9 : Sort _} {p0 p1 p2 p3 p4 p5 p6 : a0 → a1 → a2 → a3 → a4 → a5 → a6 → a7 → a8 → a9 → Prop} {G : Prop} (h : ∃ x0 x1 x2 x3 x4 x5 x6 x7 x8 x9, p0 x0 x1 x2 x3 x4 x5 x6 x7 x8 x9 ∧ p1 x0 x1 x2 x3 x4 x5 x6 x7 x8 x9 ∧ p2 x0 x1 x2 x3 x4 x5 x6 x7 x8 x9 ∧ p3 x0 x1 x2 x3 x4 x5 x6 x7 x8 x9 ∧ p4 x0 x1 x2 x3 x4 x5 x6 x7 x8 x9 ∧ p5 x0 x1 x2 x3 x4 x5 x6 x7 x8 x9 ∧ p6 x0 x1 x2 x3 x4 x5 x6 x7 x8 x9) (c : ∀ x0 x1 x2 x3 x4 x5 x6 x7 x8 x9, p0 x0 x1 x2 x3 x4 x5 x6 x7 x8 x9 → p1 x0 x1 x2 x3 x4 x5 x6 x7 x8 x9 → p2 x0 x1 x2 x3 x4 x5 x6 x7 x8 x9 → p3 x0 x1 x2 x3 x4 x5 x6 x7 x8 x9 → p4 x0 x1 x2 x3 x4 x5 x6 x7 x8 x9 → p5 x0 x1 x2 x3 x4 x5 x6 x7 x8 x9 → p6 x0 x1 x2 x3 x4 x5 x6 x7 x8 x9 → G) : G := e10_1 h fun x0 x1 x2 x3 x4 x5 x6 x7 x8 x9 h => e0_7 h (c x0 x1 x2 x3 x4 x5 x6 x7 x8 x9)
theorem e10_18 {a0 a1 a2 a3 a4 a5 a6 a7 a8 a9 : Sort _} {p0 p1 p2 p3 p4 p5 p6 p7 p8 p9 p10 p11 p12 p13 p14 p15 p16 p17 : a0 → a1 → a2 → a3 → a4 → a5 → a6 → a7 → a8 → a9 → Prop} {G : Prop} (h : ∃ x0 x1 x2 x3 x4 x5 x6 x7 x8 x9, p0 x0 x1 x2 x3 x4 x5 x6 x7 x8 x9 ∧ p1 x0 x1 x2 x3 x4 x5 x6 x7 x8 x9 ∧ p2 x0 x1 x2 x3 x4 x5 x6 x7 x8 x9 ∧ p3 x0 x1 x2 x3 x4 x5 x6 x7 x8 x9 ∧ p4 x0 x1 x2 x3 x4 x5 x6 x7 x8 x9 ∧ p5 x0 x1 x2 x3 x4 x5 x6 x7 x8 x9 ∧ p6 x0 x1 x2 x3 x4 x5 x6 x7 x8 x9 ∧ p7 x0 x1 x2 x3 x4 x5 x6 x7 x8 x9 ∧ p8 x0 x1 x2 x3 x4 x5 x6 x7 x8 x9 ∧ p9 x0 x1 x2 x3 x4 x5 x6 x7 x8 x9 ∧ p10 x0 x1 x2 x3 x4 x5 x6 x7 x8 x9 ∧ p11 x0 x1 x2 x3 x4 x5 x6 x7 x8 x9 ∧ p12 x0 x1 x2 x3 x4 x5 x6 x7 x8 x9 ∧ p13 x0 x1 x2 x3 x4 x5 x6 x7 x8 x9 ∧ p14 x0 x1 x2 x3 x4 x5 x6 x7 x8 x9 ∧ p15 x0 x1 x2 x3 x4 x5 x6 x7 x8 x9 ∧ p16 x0 x1 x2 x3 x4 x5 x6 x7 x8 x9 ∧ p17 x0 x1 x2 x3 x4 x5 x6 x7 x8 x9) (c : ∀ x0 x1 x2 x3 x4 x5 x6 x7 x8 x9, p0 x0 x1 x2 x3 x4 x5 x6 x7 x8 x9 → p1 x0 x1 x2 x3 x4 x5 x6 x7 x8 x9 → p2 x0 x1 x2 x3 x4 x5 x6 x7 x8 x9 → p3 x0 x1 x2 x3 x4 x5 x6 x7 x8 x9 → p4 x0 x1 x2 x3 x4 x5 x6 x7 x8 x9 → p5 x0 x1 x2 x3 x4 x5 x6 x7 x8 x9 → p6 x0 x1 x2 x3 x4 x5 x6 x7 x8 x9 → p7 x0 x1 x2 x3 x4 x5 x6 x7 x8 x9 → p8 x0 x1 x2 x3 x4 x5 x6 x7 x8 x9 → p9 x0 x1 x2 x3 x4 x5 x6 x7 x8 x9 → p10 x0 x1 x2 x3 x4 x5 x6 x7 x8 x9 → p11 x0 x1 x2 x3 x4 x5 x6 x7 x8 x9 → p12 x0 x1 x2 x3 x4 x5 x6 x7 x8 x9 → p13 x0 x1 x2 x3 x4 x5 x6 x7 x8 x9 → p14 x0 x1 x2 x3 x4 x5 x6 x7 x8 x9 → p15 x0 x1 x2 x3 x4 x5 x6 x7 x8 x9 → p16 x0 x1 x2 x3 x4 x5 x6 x7 x8 x9 → p17 x0 x1 x2 x3 x4 x5 x6 x7 x8 x9 → G) : G := e10_1 h fun x0 x1 x2 x3 x4 x5 x6 x7 x8 x9 h => e0_18 h (c x0 x1 x2 x3 x4 x5 x6 x7 x8 x9)
theorem i0_3 {p0 p1 p2 : Prop} (h0 : p0) (h1 : p1) (h2 : p2) : p0 ∧ p1 ∧ p2 := ⟨h0, h1, h2⟩
theorem i0_4 {p0 p1 p2 p3 : Prop} (h0 : p0) (h1 : p1) (h2 : p2) (h3 : p3) : p0 ∧ p1 ∧ p2 ∧ p3 := ⟨h0, h1, h2, h3⟩
theorem i0_5 {p0 p1 p2 p3 p4 : Prop} (h0 : p0) (h1 : p1) (h2 : p2) (h3 : p3) (h4 : p4) : p0 ∧ p1 ∧ p2 ∧ p3 ∧ p4 := ⟨h0, h1, h2, h3, h4⟩
theorem i0_6 {p0 p1 p2 p3 p4 p5 : Prop} (h0 : p0) (h1 : p1) (h2 : p2) (h3 : p3) (h4 : p4) (h5 : p5) : p0 ∧ p1 ∧ p2 ∧ p3 ∧ p4 ∧ p5 := ⟨h0, h1, h2, h3, h4, h5⟩
theorem i0_7 {p0 p1 p2 p3 p4 p5 p6 : Prop} (h0 : p0) (h1 : p1) (h2 : p2) (h3 : p3) (h4 : p4) (h5 : p5) (h6 : p6) : p0 ∧ p1 ∧ p2 ∧ p3 ∧ p4 ∧ p5 ∧ p6 := ⟨h0, h1, h2, h3, h4, h5, h6⟩
theorem i1_1 {a0 : Sort _} {p0 : a0 → Prop} (x0 : a0) (h0 : p0 x0) : ∃ x0, p0 x0 := ⟨x0, h0⟩
theorem i2_1 {a0 a1 : Sort _} {p0 : a0 → a1 → Prop} (x0 : a0) (x1 : a1) (h0 : p0 x0 x1) : ∃ x0 x1, p0 x0 x1 := ⟨x0, x1, h0⟩
theorem i3_1 {a0 a1 a2 : Sort _} {p0 : a0 → a1 → a2 → Prop} (x0 : a0) (x1 : a1) (x2 : a2) (h0 : p0 x0 x1 x2) : ∃ x0 x1 x2, p0 x0 x1 x2 := ⟨x0, x1, x2, h0⟩
theorem i4_1 {a0 a1 a2 a3 : Sort _} {p0 : a0 → a1 → a2 → a3 → Prop} (x0 : a0) (x1 : a1) (x2 : a2) (x3 : a3) (h0 : p0 x0 x1 x2 x3) : ∃ x0 x1 x2 x3, p0 x0 x1 x2 x3 := ⟨x0, x1, x2, x3, h0⟩
theorem i5_1 {a0 a1 a2 a3 a4 : Sort _} {p0 : a0 → a1 → a2 → a3 → a4 → Prop} (x0 : a0) (x1 : a1) (x2 : a2) (x3 : a3) (x4 : a4) (h0 : p0 x0 x1 x2 x3 x4) : ∃ x0 x1 x2 x3 x4, p0 x0 x1 x2 x3 x4 := ⟨x0, x1, x2, x3, x4, h0⟩
theorem i6_1 {a0 a1 a2 a3 a4 a5 : Sort _} {p0 : a0 → a1 → a2 → a3 → a4 → a5 → Prop} (x0 : a0) (x1 : a1) (x2 : a2) (x3 : a3) (x4 : a4) (x5 : a5) (h0 : p0 x0 x1 x2 x3 x4 x5) : ∃ x0 x1 x2 x3 x4 x5, p0 x0 x1 x2 x3 x4 x5 := ⟨x0, x1, x2, x3, x4, x5, h0⟩
theorem i7_1 {a0 a1 a2 a3 a4 a5 a6 : Sort _} {p0 : a0 → a1 → a2 → a3 → a4 → a5 → a6 → Prop} (x0 : a0) (x1 : a1) (x2 : a2) (x3 : a3) (x4 : a4) (x5 : a5) (x6 : a6) (h0 : p0 x0 x1 x2 x3 x4 x5 x6) : ∃ x0 x1 x2 x3 x4 x5 x6, p0 x0 x1 x2 x3 x4 x5 x6 := ⟨x0, x1, x2, x3, x4, x5, x6, h0⟩
theorem i10_1 {a0 a1 a2 a3 a4 a5 a6 a7 a8 a9 : Sort _} {p0 : a0 → a1 → a2 → a3 → a4 → a5 → a6 → a7 → a8 → a9 → Prop} (x0 : a0) (x1 : a1) (x2 : a2) (x3 : a3) (x4 : a4) (x5 : a5) (x6 : a6) (x7 : a7) (x8 : a8) (x9 : a9) (h0 : p0 x0 x1 x2 x3 x4 x5 x6 x7 x8 x9) : ∃ x0 x1 x2 x3 x4 x5 x6 x7 x8 x9, p0 x0 x1 x2 x3 x4 x5 x6 x7 x8 x9 := ⟨x0, x1, x2, x3, x4, x5, x6, x7, x8, x9, h0⟩
theorem i1_2 {a0 : Sort _} {p0 p1 : a0 → Prop} (x0 : a0) (h0 : p0 x0) (h1 : p1 x0) : ∃ x0, p0 x0 ∧ p1 x0 := i1_1 x0 ⟨h0, h1⟩
theorem i1_3 {a0 : Sort _} {p0 p1 p2 : a0 → Prop} (x0 : a0) (h0 : p0 x0) (h1 : p1 x0) (h2 : p2 x0) : ∃ x0, p0 x0 ∧ p1 x0 ∧ p2 x0 := i1_1 x0 ⟨h0, h1, h2⟩
theorem i1_4 {a0 : Sort _} {p0 p1 p2 p3 : a0 → Prop} (x0 : a0) (h0 : p0 x0) (h1 : p1 x0) (h2 : p2 x0) (h3 : p3 x0) : ∃ x0, p0 x0 ∧ p1 x0 ∧ p2 x0 ∧ p3 x0 := i1_1 x0 ⟨h0, h1, h2, h3⟩
theorem i1_8 {a0 : Sort _} {p0 p1 p2 p3 p4 p5 p6 p7 : a0 → Prop} (x0 : a0) (h0 : p0 x0) (h1 : p1 x0) (h2 : p2 x0) (h3 : p3 x0) (h4 : p4 x0) (h5 : p5 x0) (h6 : p6 x0) (h7 : p7 x0) : ∃ x0, p0 x0 ∧ p1 x0 ∧ p2 x0 ∧ p3 x0 ∧ p4 x0 ∧ p5 x0 ∧ p6 x0 ∧ p7 x0 := i1_1 x0 ⟨h0, h1, h2, h3, h4, h5, h6, h7⟩
theorem i2_2 {a0 a1 : Sort _} {p0 p1 : a0 → a1 → Prop} (x0 : a0) (x1 : a1) (h0 : p0 x0 x1) (h1 : p1 x0 x1) : ∃ x0 x1, p0 x0 x1 ∧ p1 x0 x1 := i2_1 x0 x1 ⟨h0, h1⟩
theorem i2_3 {a0 a1 : Sort _} {p0 p1 p2 : a0 → a1 → Prop} (x0 : a0) (x1 : a1) (h0 : p0 x0 x1) (h1 : p1 x0 x1) (h2 : p2 x0 x1) : ∃ x0 x1, p0 x0 x1 ∧ p1 x0 x1 ∧ p2 x0 x1 := i2_1 x0 x1 ⟨h0, h1, h2⟩
theorem i2_4 {a0 a1 : Sort _} {p0 p1 p2 p3 : a0 → a1 → Prop} (x0 : a0) (x1 : a1) (h0 : p0 x0 x1) (h1 : p1 x0 x1) (h2 : p2 x0 x1) (h3 : p3 x0 x1) : ∃ x0 x1, p0 x0 x1 ∧ p1 x0 x1 ∧ p2 x0 x1 ∧ p3 x0 x1 := i2_1 x0 x1 ⟨h0, h1, h2, h3⟩
theorem i2_5 {a0 a1 : Sort _} {p0 p1 p2 p3 p4 : a0 → a1 → Prop} (x0 : a0) (x1 : a1) (h0 : p0 x0 x1) (h1 : p1 x0 x1) (h2 : p2 x0 x1) (h3 : p3 x0 x1) (h4 : p4 x0 x1) : ∃ x0 x1, p0 x0 x1 ∧ p1 x0 x1 ∧ p2 x0 x1 ∧ p3 x0 x1 ∧ p4 x0 x1 := i2_1 x0 x1 ⟨h0, h1, h2, h3, h4⟩
theorem i2_7 {a0 a1 : Sort _} {p0 p1 p2 p3 p4 p5 p6 : a0 → a1 → Prop} (x0 : a0) (x1 : a1) (h0 : p0 x0 x1) (h1 : p1 x0 x1) (h2 : p2 x0 x1) (h3 : p3 x0 x1) (h4 : p4 x0 x1) (h5 : p5 x0 x1) (h6 : p6 x0 x1) : ∃ x0 x1, p0 x0 x1 ∧ p1 x0 x1 ∧ p2 x0 x1 ∧ p3 x0 x1 ∧ p4 x0 x1 ∧ p5 x0 x1 ∧ p6 x0 x1 := i2_1 x0 x1 ⟨h0, h1, h2, h3, h4, h5, h6⟩
theorem i2_10 {a0 a1 : Sort _} {p0 p1 p2 p3 p4 p5 p6 p7 p8 p9 : a0 → a1 → Prop} (x0 : a0) (x1 : a1) (h0 : p0 x0 x1) (h1 : p1 x0 x1) (h2 : p2 x0 x1) (h3 : p3 x0 x1) (h4 : p4 x0 x1) (h5 : p5 x0 x1) (h6 : p6 x0 x1) (h7 : p7 x0 x1) (h8 : p8 x0 x1) (h9 : p9 x0 x1) : ∃ x0 x1, p0 x0 x1 ∧ p1 x0 x1 ∧ p2 x0 x1 ∧ p3 x0 x1 ∧ p4 x0 x1 ∧ p5 x0 x1 ∧ p6 x0 x1 ∧ p7 x0 x1 ∧ p8 x0 x1 ∧ p9 x0 x1 := i2_1 x0 x1 ⟨h0, h1, h2, h3, h4, h5, h6, h7, h8, h9⟩
theorem i3_2 {a0 a1 a2 : Sort _} {p0 p1 : a0 → a1 → a2 → Prop} (x0 : a0) (x1 : a1) (x2 : a2) (h0 : p0 x0 x1 x2) (h1 : p1 x0 x1 x2) : ∃ x0 x1 x2, p0 x0 x1 x2 ∧ p1 x0 x1 x2 := i3_1 x0 x1 x2 ⟨h0, h1⟩
theorem i3_4 {a0 a1 a2 : Sort _} {p0 p1 p2 p3 : a0 → a1 → a2 → Prop} (x0 : a0) (x1 : a1) (x2 : a2) (h0 : p0 x0 x1 x2) (h1 : p1 x0 x1 x2) (h2 : p2 x0 x1 x2) (h3 : p3 x0 x1 x2) : ∃ x0 x1 x2, p0 x0 x1 x2 ∧ p1 x0 x1 x2 ∧ p2 x0 x1 x2 ∧ p3 x0 x1 x2 := i3_1 x0 x1 x2 ⟨h0, h1, h2, h3⟩
theorem i3_6 {a0 a1 a2 : Sort _} {p0 p1 p2 p3 p4 p5 : a0 → a1 → a2 → Prop} (x0 : a0) (x1 : a1) (x2 : a2) (h0 : p0 x0 x1 x2) (h1 : p1 x0 x1 x2) (h2 : p2 x0 x1 x2) (h3 : p3 x0 x1 x2) (h4 : p4 x0 x1 x2) (h5 : p5 x0 x1 x2) : ∃ x0 x1 x2, p0 x0 x1 x2 ∧ p1 x0 x1 x2 ∧ p2 x0 x1 x2 ∧ p3 x0 x1 x2 ∧ p4 x0 x1 x2 ∧ p5 x0 x1 x2 := i3_1 x0 x1 x2 ⟨h0, h1, h2, h3, h4, h5⟩
theorem i3_7 {a0 a1 a2 : Sort _} {p0 p1 p2 p3 p4 p5 p6 : a0 → a1 → a2 → Prop} (x0 : a0) (x1 : a1) (x2 : a2) (h0 : p0 x0 x1 x2) (h1 : p1 x0 x1 x2) (h2 : p2 x0 x1 x2) (h3 : p3 x0 x1 x2) (h4 : p4 x0 x1 x2) (h5 : p5 x0 x1 x2) (h6 : p6 x0 x1 x2) : ∃ x0 x1 x2, p0 x0 x1 x2 ∧ p1 x0 x1 x2 ∧ p2 x0 x1 x2 ∧ p3 x0 x1 x2 ∧ p4 x0 x1 x2 ∧ p5 x0 x1 x2 ∧ p6 x0 x1 x2 := i3_1 x0 x1 x2 ⟨h0, h1, h2, h3, h4, h5, h6⟩
theorem i3_8 {a0 a1 a2 : Sort _} {p0 p1 p2 p3 p4 p5 p6 p7 : a0 → a1 → a2 → Prop} (x0 : a0) (x1 : a1) (x2 : a2) (h0 : p0 x0 x1 x2) (h1 : p1 x0 x1 x2) (h2 : p2 x0 x1 x2) (h3 : p3 x0 x1 x2) (h4 : p4 x0 x1 x2) (h5 : p5 x0 x1 x2) (h6 : p6 x0 x1 x2) (h7 : p7 x0 x1 x2) : ∃ x0 x1 x2, p0 x0 x1 x2 ∧ p1 x0 x1 x2 ∧ p2 x0 x1 x2 ∧ p3 x0 x1 x2 ∧ p4 x0 x1 x2 ∧ p5 x0 x1 x2 ∧ p6 x0 x1 x2 ∧ p7 x0 x1 x2 := i3_1 x0 x1 x2 ⟨h0, h1, h2, h3, h4, h5, h6, h7⟩
theorem i3_11 {a0 a1 a2 : Sort _} {p0 p1 p2 p3 p4 p5 p6 p7 p8 p9 p10 : a0 → a1 → a2 → Prop} (x0 : a0) (x1 : a1) (x2 : a2) (h0 : p0 x0 x1 x2) (h1 : p1 x0 x1 x2) (h2 : p2 x0 x1 x2) (h3 : p3 x0 x1 x2) (h4 : p4 x0 x1 x2) (h5 : p5 x0 x1 x2) (h6 : p6 x0 x1 x2) (h7 : p7 x0 x1 x2) (h8 : p8 x0 x1 x2) (h9 : p9 x0 x1 x2) (h10 : p10 x0 x1 x2) : ∃ x0 x1 x2, p0 x0 x1 x2 ∧ p1 x0 x1 x2 ∧ p2 x0 x1 x2 ∧ p3 x0 x1 x2 ∧ p4 x0 x1 x2 ∧ p5 x0 x1 x2 ∧ p6 x0 x1 x2 ∧ p7 x0 x1 x2 ∧ p8 x0 x1 x2 ∧ p9 x0 x1 x2 ∧ p10 x0 x1 x2 := i3_1 x0 x1 x2 ⟨h0, h1, h2, h3, h4, h5, h6, h7, h8, h9, h10⟩
theorem i4_4 {a0 a1 a2 a3 : Sort _} {p0 p1 p2 p3 : a0 → a1 → a2 → a3 → Prop} (x0 : a0) (x1 : a1) (x2 : a2) (x3 : a3) (h0 : p0 x0 x1 x2 x3) (h1 : p1 x0 x1 x2 x3) (h2 : p2 x0 x1 x2 x3) (h3 : p3 x0 x1 x2 x3) : ∃ x0 x1 x2 x3, p0 x0 x1 x2 x3 ∧ p1 x0 x1 x2 x3 ∧ p2 x0 x1 x2 x3 ∧ p3 x0 x1 x2 x3 := i4_1 x0 x1 x2 x3 ⟨h0, h1, h2, h3⟩
theorem i4_6 {a0 a1 a2 a3 : Sort _} {p0 p1 p2 p3 p4 p5 : a0 → a1 → a2 → a3 → Prop} (x0 : a0) (x1 : a1) (x2 : a2) (x3 : a3) (h0 : p0 x0 x1 x2 x3) (h1 : p1 x0 x1 x2 x3) (h2 : p2 x0 x1 x2 x3) (h3 : p3 x0 x1 x2 x3) (h4 : p4 x0 x1 x2 x3) (h5 : p5 x0 x1 x2 x3) : ∃ x0 x1 x2 x3, p0 x0 x1 x2 x3 ∧ p1 x0 x1 x2 x3 ∧ p2 x0 x1 x2 x3 ∧ p3 x0 x1 x2 x3 ∧ p4 x0 x1 x2 x3 ∧ p5 x0 x1 x2 x3 := i4_1 x0 x1 x2 x3 ⟨h0, h1, h2, h3, h4, h5⟩
theorem i4_7 {a0 a1 a2 a3 : Sort _} {p0 p1 p2 p3 p4 p5 p6 : a0 → a1 → a2 → a3 → Prop} (x0 : a0) (x1 : a1) (x2 : a2) (x3 : a3) (h0 : p0 x0 x1 x2 x3) (h1 : p1 x0 x1 x2 x3) (h2 : p2 x0 x1 x2 x3) (h3 : p3 x0 x1 x2 x3) (h4 : p4 x0 x1 x2 x3) (h5 : p5 x0 x1 x2 x3) (h6 : p6 x0 x1 x2 x3) : ∃ x0 x1 x2 x3, p0 x0 x1 x2 x3 ∧ p1 x0 x1 x2 x3 ∧ p2 x0 x1 x2 x3 ∧ p3 x0 x1 x2 x3 ∧ p4 x0 x1 x2 x3 ∧ p5 x0 x1 x2 x3 ∧ p6 x0 x1 x2 x3 := i4_1 x0 x1 x2 x3 ⟨h0, h1, h2, h3, h4, h5, h6⟩
theorem i4_8 {a0 a1 a2 a3 : Sort _} {p0 p1 p2 p3 p4 p5 p6 p7 : a0 → a1 → a2 → a3 → Prop} (x0 : a0) (x1 : a1) (x2 : a2) (x3 : a3) (h0 : p0 x0 x1 x2 x3) (h1 : p1 x0 x1 x2 x3) (h2 : p2 x0 x1 x2 x3) (h3 : p3 x0 x1 x2 x3) (h4 : p4 x0 x1 x2 x3) (h5 : p5 x0 x1 x2 x3) (h6 : p6 x0 x1 x2 x3) (h7 : p7 x0 x1 x2 x3) : ∃ x0 x1 x2 x3, p0 x0 x1 x2 x3 ∧ p1 x0 x1 x2 x3 ∧ p2 x0 x1 x2 x3 ∧ p3 x0 x1 x2 x3 ∧ p4 x0 x1 x2 x3 ∧ p5 x0 x1 x2 x3 ∧ p6 x0 x1 x2 x3 ∧ p7 x0 x1 x2 x3 := i4_1 x0 x1 x2 x3 ⟨h0, h1, h2, h3, h4, h5, h6, h7⟩
theorem i4_11 {a0 a1 a2 a3 : Sort _} {p0 p1 p2 p3 p4 p5 p6 p7 p8 p9 p10 : a0 → a1 → a2 → a3 → Prop} (x0 : a0) (x1 : a1) (x2 : a2) (x3 : a3) (h0 : p0 x0 x1 x2 x3) (h1 : p1 x0 x1 x2 x3) (h2 : p2 x0 x1 x2 x3) (h3 : p3 x0 x1 x2 x3) (h4 : p4 x0 x1 x2 x3) (h5 : p5 x0 x1 x2 x3) (h6 : p6 x0 x1 x2 x3) (h7 : p7 x0 x1 x2 x3) (h8 : p8 x0 x1 x2 x3) (h9 : p9 x0 x1 x2 x3) (h10 : p10 x0 x1 x2 x3) : ∃ x0 x1 x2 x3, p0 x0 x1 x2 x3 ∧ p1 x0 x1 x2 x3 ∧ p2 x0 x1 x2 x3 ∧ p3 x0 x1 x2 x3 ∧ p4 x0 x1 x2 x3 ∧ p5 x0 x1 x2 x3 ∧ p6 x0 x1 x2 x3 ∧ p7 x0 x1 x2 x3 ∧ p8 x0 x1 x2 x3 ∧ p9 x0 x1 x2 x3 ∧ p10 x0 x1 x2 x3 := i4_1 x0 x1 x2 x3 ⟨h0, h1, h2, h3, h4, h5, h6, h7, h8, h9, h10⟩
theorem i5_3 {a0 a1 a2 a3 a4 : Sort _} {p0 p1 p2 : a0 → a1 → a2 → a3 → a4 → Prop} (x0 : a0) (x1 : a1) (x2 : a2) (x3 : a3) (x4 : a4) (h0 : p0 x0 x1 x2 x3 x4) (h1 : p1 x0 x1 x2 x3 x4) (h2 : p2 x0 x1 x2 x3 x4) : ∃ x0 x1 x2 x3 x4, p0 x0 x1 x2 x3 x4 ∧ p1 x0 x1 x2 x3 x4 ∧ p2 x0 x1 x2 x3 x4 := i5_1 x0 x1 x2 x3 x4 ⟨h0, h1, h2⟩
theorem i5_6 {a0 a1 a2 a3 a4 : Sort _} {p0 p1 p2 p3 p4 p5 : a0 → a1 → a2 → a3 → a4 → Prop} (x0 : a0) (x1 : a1) (x2 : a2) (x3 : a3) (x4 : a4) (h0 : p0 x0 x1 x2 x3 x4) (h1 : p1 x0 x1 x2 x3 x4) (h2 : p2 x0 x1 x2 x3 x4) (h3 : p3 x0 x1 x2 x3 x4) (h4 : p4 x0 x1 x2 x3 x4) (h5 : p5 x0 x1 x2 x3 x4) : ∃ x0 x1 x2 x3 x4, p0 x0 x1 x2 x3 x4 ∧ p1 x0 x1 x2 x3 x4 ∧ p2 x0 x1 x2 x3 x4 ∧ p3 x0 x1 x2 x3 x4 ∧ p4 x0 x1 x2 x3 x4 ∧ p5 x0 x1 x2 x3 x4 := i5_1 x0 x1 x2 x3 x4 ⟨h0, h1, h2, h3, h4, h5⟩
theorem i5_8 {a0 a1 a2 a3 a4 : Sort _} {p0 p1 p2 p3 p4 p5 p6 p7 : a0 → a1 → a2 → a3 → a4 → Prop} (x0 : a0) (x1 : a1) (x2 : a2) (x3 : a3) (x4 : a4) (h0 : p0 x0 x1 x2 x3 x4) (h1 : p1 x0 x1 x2 x3 x4) (h2 : p2 x0 x1 x2 x3 x4) (h3 : p3 x0 x1 x2 x3 x4) (h4 : p4 x0 x1 x2 x3 x4) (h5 : p5 x0 x1 x2 x3 x4) (h6 : p6 x0 x1 x2 x3 x4) (h7 : p7 x0 x1 x2 x3 x4) : ∃ x0 x1 x2 x3 x4, p0 x0 x1 x2 x3 x4 ∧ p1 x0 x1 x2 x3 x4 ∧ p2 x0 x1 x2 x3 x4 ∧ p3 x0 x1 x2 x3 x4 ∧ p4 x0 x1 x2 x3 x4 ∧ p5 x0 x1 x2 x3 x4 ∧ p6 x0 x1 x2 x3 x4 ∧ p7 x0 x1 x2 x3 x4 := i5_1 x0 x1 x2 x3 x4 ⟨h0, h1, h2, h3, h4, h5, h6, h7⟩
theorem i5_9 {a0 a1 a2 a3 a4 : Sort _} {p0 p1 p2 p3 p4 p5 p6 p7 p8 : a0 → a1 → a2 → a3 → a4 → Prop} (x0 : a0) (x1 : a1) (x2 : a2) (x3 : a3) (x4 : a4) (h0 : p0 x0 x1 x2 x3 x4) (h1 : p1 x0 x1 x2 x3 x4) (h2 : p2 x0 x1 x2 x3 x4) (h3 : p3 x0 x1 x2 x3 x4) (h4 : p4 x0 x1 x2 x3 x4) (h5 : p5 x0 x1 x2 x3 x4) (h6 : p6 x0 x1 x2 x3 x4) (h7 : p7 x0 x1 x2 x3 x4) (h8 : p8 x0 x1 x2 x3 x4) : ∃ x0 x1 x2 x3 x4, p0 x0 x1 x2 x3 x4 ∧ p1 x0 x1 x2 x3 x4 ∧ p2 x0 x1 x2 x3 x4 ∧ p3 x0 x1 x2 x3 x4 ∧ p4 x0 x1 x2 x3 x4 ∧ p5 x0 x1 x2 x3 x4 ∧ p6 x0 x1 x2 x3 x4 ∧ p7 x0 x1 x2 x3 x4 ∧ p8 x0 x1 x2 x3 x4 := i5_1 x0 x1 x2 x3 x4 ⟨h0, h1, h2, h3, h4, h5, h6, h7, h8⟩
theorem i6_5 {a0 a1 a2 a3 a4 a5 : Sort _} {p0 p1 p2 p3 p4 : a0 → a1 → a2 → a3 → a4 → a5 → Prop} (x0 : a0) (x1 : a1) (x2 : a2) (x3 : a3) (x4 : a4) (x5 : a5) (h0 : p0 x0 x1 x2 x3 x4 x5) (h1 : p1 x0 x1 x2 x3 x4 x5) (h2 : p2 x0 x1 x2 x3 x4 x5) (h3 : p3 x0 x1 x2 x3 x4 x5) (h4 : p4 x0 x1 x2 x3 x4 x5) : ∃ x0 x1 x2 x3 x4 x5, p0 x0 x1 x2 x3 x4 x5 ∧ p1 x0 x1 x2 x3 x4 x5 ∧ p2 x0 x1 x2 x3 x4 x5 ∧ p3 x0 x1 x2 x3 x4 x5 ∧ p4 x0 x1 x2 x3 x4 x5 := i6_1 x0 x1 x2 x3 x4 x5 ⟨h0, h1, h2, h3, h4⟩
theorem i6_7 {a0 a1 a2 a3 a4 a5 : Sort _} {p0 p1 p2 p3 p4 p5 p6 : a0 → a1 → a2 → a3 → a4 → a5 → Prop} (x0 : a0) (x1 : a1) (x2 : a2) (x3 : a3) (x4 : a4) (x5 : a5) (h0 : p0 x0 x1 x2 x3 x4 x5) (h1 : p1 x0 x1 x2 x3 x4 x5) (h2 : p2 x0 x1 x2 x3 x4 x5) (h3 : p3 x0 x1 x2 x3 x4 x5) (h4 : p4 x0 x1 x2 x3 x4 x5) (h5 : p5 x0 x1 x2 x3 x4 x5) (h6 : p6 x0 x1 x2 x3 x4 x5) : ∃ x0 x1 x2 x3 x4 x5, p0 x0 x1 x2 x3 x4 x5 ∧ p1 x0 x1 x2 x3 x4 x5 ∧ p2 x0 x1 x2 x3 x4 x5 ∧ p3 x0 x1 x2 x3 x4 x5 ∧ p4 x0 x1 x2 x3 x4 x5 ∧ p5 x0 x1 x2 x3 x4 x5 ∧ p6 x0 x1 x2 x3 x4 x5 := i6_1 x0 x1 x2 x3 x4 x5 ⟨h0, h1, h2, h3, h4, h5, h6⟩
theorem i6_10 {a0 a1 a2 a3 a4 a5 : Sort _} {p0 p1 p2 p3 p4 p5 p6 p7 p8 p9 : a0 → a1 → a2 → a3 → a4 → a5 → Prop} (x0 : a0) (x1 : a1) (x2 : a2) (x3 : a3) (x4 : a4) (x5 : a5) (h0 : p0 x0 x1 x2 x3 x4 x5) (h1 : p1 x0 x1 x2 x3 x4 x5) (h2 : p2 x0 x1 x2 x3 x4 x5) (h3 : p3 x0 x1 x2 x3 x4 x5) (h4 : p4 x0 x1 x2 x3 x4 x5) (h5 : p5 x0 x1 x2 x3 x4 x5) (h6 : p6 x0 x1 x2 x3 x4 x5) (h7 : p7 x0 x1 x2 x3 x4 x5) (h8 : p8 x0 x1 x2 x3 x4 x5) (h9 : p9 x0 x1 x2 x3 x4 x5) : ∃ x0 x1 x2 x3 x4 x5, p0 x0 x1 x2 x3 x4 x5 ∧ p1 x0 x1 x2 x3 x4 x5 ∧ p2 x0 x1 x2 x3 x4 x5 ∧ p3 x0 x1 x2 x3 x4 x5 ∧ p4 x0 x1 x2 x3 x4 x5 ∧ p5 x0 x1 x2 x3 x4 x5 ∧ p6 x0 x1 x2 x3 x4 x5 ∧ p7 x0 x1 x2 x3 x4 x5 ∧ p8 x0 x1 x2 x3 x4 x5 ∧ p9 x0 x1 x2 x3 x4 x5 := i6_1 x0 x1 x2 x3 x4 x5 ⟨h0, h1, h2, h3, h4, h5, h6, h7, h8, h9⟩
theorem i7_5 {a0 a1 a2 a3 a4 a5 a6 : Sort _} {p0 p1 p2 p3 p4 : a0 → a1 → a2 → a3 → a4 → a5 → a6 → Prop} (x0 : a0) (x1 : a1) (x2 : a2) (x3 : a3) (x4 : a4) (x5 : a5) (x6 : a6) (h0 : p0 x0 x1 x2 x3 x4 x5 x6) (h1 : p1 x0 x1 x2 x3 x4 x5 x6) (h2 : p2 x0 x1 x2 x3 x4 x5 x6) (h3 : p3 x0 x1 x2 x3 x4 x5 x6) (h4 : p4 x0 x1 x2 x3 x4 x5 x6) : ∃ x0 x1 x2 x3 x4 x5 x6, p0 x0 x1 x2 x3 x4 x5 x6 ∧ p1 x0 x1 x2 x3 x4 x5 x6 ∧ p2 x0 x1 x2 x3 x4 x5 x6 ∧ p3 x0 x1 x2 x3 x4 x5 x6 ∧ p4 x0 x1 x2 x3 x4 x5 x6 := i7_1 x0 x1 x2 x3 x4 x5 x6 ⟨h0, h1, h2, h3, h4⟩
theorem i10_18 {a0 a1 a2 a3 a4 a5 a6 a7 a8 a9 : Sort _} {p0 p1 p2 p3 p4 p5 p6 p7 p8 p9 p10 p11 p12 p13 p14 p15 p16 p17 : a0 → a1 → a2 → a3 → a4 → a5 → a6 → a7 → a8 → a9 → Prop} (x0 : a0) (x1 : a1) (x2 : a2) (x3 : a3) (x4 : a4) (x5 : a5) (x6 : a6) (x7 : a7) (x8 : a8) (x9 : a9) (h0 : p0 x0 x1 x2 x3 x4 x5 x6 x7 x8 x9) (h1 : p1 x0 x1 x2 x3 x4 x5 x6 x7 x8 x9) (h2 : p2 x0 x1 x2 x3 x4 x5 x6 x7 x8 x9) (h3 : p3 x0 x1 x2 x3 x4 x5 x6 x7 x8 x9) (h4 : p4 x0 x1 x2 x3 x4 x5 x6 x7 x8 x9) (h5 : p5 x0 x1 x2 x3 x4 x5 x6 x7 x8 x9) (h6 : p6 x0 x1 x2 x3 x4 x5 x6 x7 x8 x9) (h7 : p7 x0 x1 x2 x3 x4 x5 x6 x7 x8 x9) (h8 : p8 x0 x1 x2 x3 x4 x5 x6 x7 x8 x9) (h9 : p9 x0 x1 x2 x3 x4 x5 x6 x7 x8 x9) (h10 : p10 x0 x1 x2 x3 x4 x5 x6 x7 x8 x9) (h11 : p11 x0 x1 x2 x3 x4 x5 x6 x7 x8 x9) (h12 : p12 x0 x1 x2 x3 x4 x5 x6 x7 x8 x9) (h13 : p13 x0 x1 x2 x3 x4 x5 x6 x7 x8 x9) (h14 : p14 x0 x1 x2 x3 x4 x5 x6 x7 x8 x9) (h15 : p15 x0 x1 x2 x3 x4 x5 x6 x7 x8 x9) (h16 : p16 x0 x1 x2 x3 x4 x5 x6 x7 x8 x9) (h17 : p17 x0 x1 x2 x3 x4 x5 x6 x7 x8 x9) : ∃ x0 x1 x2 x3 x4 x5 x6 x7 x8 x9, p0 x0 x1 x2 x3 x4 x5 x6 x7 x8 x9 ∧ p1 x0 x1 x2 x3 x4 x5 x6 x7 x8 x9 ∧ p2 x0 x1 x2 x3 x4 x5 x6 x7 x8 x9 ∧ p3 x0 x1 x2 x3 x4 x5 x6 x7 x8 x9 ∧ p4 x0 x1 x2 x3 x4 x5 x6 x7 x8 x9 ∧ p5 x0 x1 x2 x3 x4 x5 x6 x7 x8 x9 ∧ p6 x0 x1 x2 x3 x4 x5 x6 x7 x8 x9 ∧ p7 x0 x1 x2 x3 x4 x5 x6 x7 x8 x9 ∧ p8 x0 x1 x2 x3 x4 x5 x6 x7 x8 x9 ∧ p9 x0 x1 x2 x3 x4 x5 x6 x7 x8 x9 ∧ p10 x0 x1 x2 x3 x4 x5 x6 x7 x8 x9 ∧ p11 x0 x1 x2 x3 x4 x5 x6 x7 x8 x9 ∧ p12 x0 x1 x2 x3 x4 x5 x6 x7 x8 x9 ∧ p13 x0 x1 x2 x3 x4 x5 x6 x7 x8 x9 ∧ p14 x0 x1 x2 x3 x4 x5 x6 x7 x8 x9 ∧ p15 x0 x1 x2 x3 x4 x5 x6 x7 x8 x9 ∧ p16 x0 x1 x2 x3 x4 x5 x6 x7 x8 x9 ∧ p17 x0 x1 x2 x3 x4 x5 x6 x7 x8 x9 := i10_1 x0 x1 x2 x3 x4 x5 x6 x7 x8 x9 ⟨h0, h1, h2, h3, h4, h5, h6, h7, h8, h9, h10, h11, h12, h13, h14, h15, h16, h17⟩
end
section
theorem ne_of_lt_all {l : List (Addr × Obj)} {d x : Addr} (h : ∀ p ∈ l, p.1 < d) (hx : @LE.le Nat _ d x) : ∀ p ∈ l, p.1 ≠ x := fun p hp => Nat.ne_of_lt (Nat.lt_of_lt_of_le (h p hp) hx)
theorem mem_of {p : Addr × Obj} {l : List (Addr × Obj)} (h : p ∈ l) : List.Mem p l := h
theorem ne_fresh {x d : Nat} {b : Addr} {o : Obj} {l : List (Addr × Obj)} (hm : (b, o) ∈ l) (hl : ∀ p ∈ l, p.1 < d) (hx : @LE.le Nat _ d x) : @Ne Nat x b := fun e => absurd (hl _ hm) (Nat.not_lt.mpr (Nat.le_trans hx (Nat.le_of_eq e)))
noncomputable abbrev SK (w : World) : KeyKind PySem.Challenge.rw_ik0081_01.prog w Str := strKind PySem.Challenge.rw_ik0081_01.prog w
noncomputable def rep (a : Addr) (o : Obj) (l : List (Addr × Obj)) : List (Addr × Obj) := l.map fun p => if p.1 = a then (a, o) else p
theorem rep_keys (a : Addr) (o : Obj) (l : List (Addr × Obj)) : (rep a o l).map (·.1) = l.map (·.1) := by
 induction l with
 | nil => rfl
 | cons p r ih =>
  show (if p.1 = a then (a, o) else p).1 :: (rep a o r).map (·.1) = p.1 :: r.map (·.1)
  rw [ih]
  by_cases h : p.1 = a
  ·rw [if_pos h, h]
  ·rw [if_neg h]
theorem rep_off {a : Addr} {o : Obj} {l : List (Addr × Obj)} (h : ∀ p ∈ l, p.1 ≠ a) : rep a o l = l := by
 induction l with
 | nil => rfl
 | cons p r ih =>
  show (if p.1 = a then (a, o) else p) :: rep a o r = p :: r
  rw [if_neg (h p (.head _)), ih fun q hq => h q (.tail _ hq)]
theorem mem_rep_self {a : Addr} {o o' : Obj} {l : List (Addr × Obj)} (h : (a, o) ∈ l) : (a, o') ∈ rep a o' l :=
 List.mem_map.mpr ⟨_, h, if_pos rfl⟩
theorem mem_rep_ne {a b : Addr} {o o' : Obj} {l : List (Addr × Obj)} (h : (b, o) ∈ l) (hn : b ≠ a) : (b, o) ∈ rep a o' l :=
 List.mem_map.mpr ⟨_, h, if_neg hn⟩
theorem mem_rep_ne' {a : Addr} {p : Addr × Obj} {o' : Obj} {l : List (Addr × Obj)} (h : p ∈ l) (hn : p.1 ≠ a) : p ∈ rep a o' l :=
 List.mem_map.mpr ⟨_, h, if_neg hn⟩
noncomputable abbrev ND (l : List (Addr × Obj)) : Prop := (l.map (·.1)).Nodup
theorem ND.rep {a : Addr} {o : Obj} {l : List (Addr × Obj)} (h : ND l) : ND (rep a o l) := by
 show ((Mine.rep a o l).map (·.1)).Nodup
 rw [rep_keys]; exact h
theorem ND.cons {a : Addr} {o : Obj} {l : List (Addr × Obj)} (h : ND l) (k : ∀ p ∈ l, p.1 < a) : ND ((a, o) :: l) := by
 show (a :: l.map (·.1)).Nodup
 refine List.nodup_cons.mpr ⟨fun q => ?_, h⟩
 refine e1_2 (List.mem_map.mp q) ?_
 intro p hp e
 exact absurd (k p hp) (e ▸ Nat.lt_irrefl _)
theorem ND.tail {p : Addr × Obj} {l : List (Addr × Obj)} (h : ND (p :: l)) : ND l := (List.nodup_cons.mp h).2
theorem ND.head {p : Addr × Obj} {l : List (Addr × Obj)} (h : ND (p :: l)) : ∀ q ∈ l, q.1 ≠ p.1 := fun q hq e =>
 (List.nodup_cons.mp h).1 (List.mem_map.mpr ⟨q, hq, e⟩)
theorem ND.uniq {l : List (Addr × Obj)} (h : ND l) : ∀ {a : Addr} {o o' : Obj}, (a, o) ∈ l → (a, o') ∈ l → o = o' := by
 induction l with
 | nil => intro a o o' h1; cases h1
 | cons p r ih =>
  intro a o o' h1 h2
  cases h1 with
  | head =>
   cases h2 with
   | head => rfl
   | tail _ h2 => exact (h.head (a, o') h2 rfl).elim
  | tail _ h1 =>
   cases h2 with
   | head => exact (h.head (a, o) h1 rfl).elim
   | tail _ h2 => exact ih h.tail h1 h2
theorem ND.ne {l : List (Addr × Obj)} (h : ND l) {a b : Addr} {o o' : Obj} (h1 : (a, o) ∈ l) (h2 : (b, o') ∈ l) (hn : o ≠ o') : a ≠ b := by
 intro e
 subst e
 exact hn (h.uniq h1 h2)
theorem ND.neC {l : List (Addr × Obj)} (h : ND l) {a b : Addr} {o o' : Obj} (h1 : (a, o) ∈ l) (h2 : (b, o') ∈ l) (hn : o.cls ≠ o'.cls) : a ≠ b :=
 h.ne h1 h2 fun e => hn (by rw [e])
theorem upd_rep {a : Addr} {o o' : Obj} {l : List (Addr × Obj)} (h : ND l) (hm : (a, o) ∈ l) : Upd a o o' l (rep a o' l) := by
 induction l with
 | nil => cases hm
 | cons p r ih =>
  cases hm with
  | head =>
   have e : rep a o' ((a, o) :: r) = (a, o') :: r := by
    show (if a = a then (a, o') else (a, o)) :: rep a o' r = _
    rw [if_pos rfl, rep_off h.head]
   rw [e]
   exact .head h.head
  | tail _ hm =>
   have hne : p.1 ≠ a := fun e => h.head _ hm e.symm
   have e : rep a o' (p :: r) = p :: rep a o' r := by
    show (if p.1 = a then (a, o') else p) :: rep a o' r = _
    rw [if_neg hne]
   rw [e]
   exact .tail hne (ih h.tail hm)
theorem updF_rep {a : Addr} {o : Obj} {l : List (Addr × Obj)} (h : ND l) (hm : (a, o) ∈ l) : UpdF a o l (fun o' => rep a o' l) := by
 induction l with
 | nil => cases hm
 | cons p r ih =>
  cases hm with
  | head =>
   have e : (fun o' => rep a o' ((a, o) :: r)) = fun o' => (a, o') :: r := by
    funext o'
    show (if a = a then (a, o') else (a, o)) :: rep a o' r = _
    rw [if_pos rfl, rep_off h.head]
   rw [e]
   exact .head h.head
  | tail _ hm =>
   have hne : p.1 ≠ a := fun e => h.head _ hm e.symm
   have e : (fun o' => rep a o' (p :: r)) = fun o' => p :: rep a o' r := by
    funext o'
    show (if p.1 = a then (a, o') else p) :: rep a o' r = _
    rw [if_neg hne]
   rw [e]
   exact .tail hne (ih h.tail hm)
noncomputable def fname : Nat → Str
 | 0 => Str.ofString "/s/ba"
 | 1 => Str.ofString "/s/b/c"
 | 2 => Str.ofString "/s/b/e"
 | 3 => Str.ofString "/t"
 | _ => Str.ofString "/s/b/d"
theorem fname_inj : ∀ i < 5, ∀ j < 5, fname i = fname j → i = j := by decide +kernel
inductive FilesAre : List Value → List Nat → Prop
 | nil : FilesAre [] []
 | cons {t : Tok} {j : Nat} {vs : List Value} {js : List Nat} : FilesAre vs js → FilesAre (.str (fname j) t :: vs) (j :: js)
theorem FilesAre.length {vs : List Value} {js : List Nat} (h : FilesAre vs js) : vs.length = js.length := by
 induction h with
 | nil => rfl
 | cons _ ih => simp [ih]
theorem FilesAre.get {vs : List Value} {js : List Nat} (h : FilesAre vs js) : ∀ {i : Nat} {j : Nat}, js[i]? = some j → ∃ t, vs[i]? = some (.str (fname j) t) := by
 induction h with
 | nil => intro i j e; cases e
 | cons _ ih =>
  intro i j e
  cases i with
  | zero => cases e; exact ⟨_, rfl⟩
  | succ i => exact ih (i := i) e
theorem FilesAre.snoc {vs : List Value} {js : List Nat} (h : FilesAre vs js) (j : Nat) (t : Tok) : FilesAre (vs ++ [.str (fname j) t]) (js ++ [j]) := by
 induction h with
 | nil => exact .cons .nil
 | cons _ ih => exact .cons ih
structure G where
 dS : Addr
 D : Addr
 ord : List Nat
 I : Nat → Addr
 dI : Nat → Addr
 Lx : Nat → Addr
 np : Nat → Int
 su : Nat → List Nat
 rdy : Option (Addr × List Nat)
 po : Int
 nf : Int
noncomputable abbrev nodeObj (dI : Addr) (x : Str) (t1 : Tok) (n : Int) (t2 : Tok) (l : Addr) : Obj := { cls := .ref 47, dict := some dI, data := .plain, slots := #[some (.str x t1), some (.int n t2), some (.ref l)] }
noncomputable def G.rdyV (g : G) : Value := match g.rdy with | none => .none | some (R, _) => .ref R
noncomputable abbrev sdict (w : World) (t1 t2 t3 t4 : Tok) (D : Addr) (rv : Value) (p : Int) (tp : Tok) (n : Int) (tn : Tok) : Obj :=
 dictOf [⟨PyData.keyHash w.params (Str.ofString "_node2info"), .str (Str.ofString "_node2info") t1, .ref D⟩, ⟨PyData.keyHash w.params (Str.ofString "_ready_nodes"), .str (Str.ofString "_ready_nodes") t2, rv⟩,
  ⟨PyData.keyHash w.params (Str.ofString "_npassedout"), .str (Str.ofString "_npassedout") t3, .int p tp⟩, ⟨PyData.keyHash w.params (Str.ofString "_nfinished"), .str (Str.ofString "_nfinished") t4, .int n tn⟩] 4
structure SIn (w : World) (Sx : Addr) (news : List (Addr × Obj)) (g : G) : Prop where
 self : (Sx, instObj 144 g.dS) ∈ news
 dict : ∃ t1 t2 t3 t4 tp tn, (g.dS, sdict w t1 t2 t3 t4 g.D g.rdyV g.po tp g.nf tn) ∈ news
 tab : ∃ oD, (g.D, oD) ∈ news ∧ oD.IsDictOf (SK w) (g.ord.map fun j => (fname j, Value.ref (g.I j)))
 node : ∀ j ∈ g.ord, ∃ t1 t2, (g.I j, nodeObj (g.dI j) (fname j) t1 (g.np j) t2 (g.Lx j)) ∈ news
 ndict : ∀ j ∈ g.ord, (g.dI j, dictOf [] 0) ∈ news
 list : ∀ j ∈ g.ord, ∃ vs n, FilesAre vs (g.su j) ∧ (g.Lx j, listOf vs.toArray n) ∈ news
 ready : ∀ R js, g.rdy = some (R, js) → ∃ vs n, FilesAre vs js ∧ (R, listOf vs.toArray n) ∈ news
 lo : ∀ j ∈ g.ord, j < 5
 nodup : g.ord.Nodup
 apart : ∀ i ∈ g.ord, ∀ j ∈ g.ord, g.Lx i = g.Lx j → i = j
 apartR : ∀ R js, g.rdy = some (R, js) → ∀ j ∈ g.ord, R ≠ g.Lx j
 sm : g.D ≠ sysModules
 apD : g.D ≠ g.dS
 apI : ∀ j ∈ g.ord, g.D ≠ g.dI j
theorem valueAt_ord {f : Nat → Value} : ∀ {l : List Nat} {j : Nat}, (∀ i ∈ l, i < 5) → j < 5 → valueAt (l.map fun i => (fname i, f i)) (fname j) = if j ∈ l then some (f j) else none
 | [], _, _, _ => rfl
 | i :: r, j, hl, hj => by
  have hi := hl i (.head _)
  rw [List.map_cons]
  by_cases e : i = j
  ·subst e
   simp [valueAt]
  ·have hne : fname i ≠ fname j := fun q => e (fname_inj i hi j hj q)
   have ih := valueAt_ord (f := f) (l := r) (j := j) (fun k hk => hl k (.tail _ hk)) hj
   have e' : ¬ j = i := fun q => e q.symm
   simp only [List.mem_cons, e', false_or]
   rw [← ih]
   simp [valueAt, hne]
theorem erase_lt {n : Nat} {l : List Nat} (hd : l.Nodup) (h : ∀ i ∈ l, i < n + 1) : ∀ i ∈ l.erase n, i < n := fun i hi => by
 have h1 := (List.Nodup.mem_erase_iff hd).mp hi
 have := h i h1.2
 have := h1.1
 exact o65 ‹_› ‹_›
theorem nodup_len : ∀ (n : Nat) (l : List Nat), l.Nodup → (∀ i ∈ l, i < n) → l.length ≤ n
 | 0, [], _, _ => Nat.le_refl _
 | 0, i :: _, _, h => absurd (h i (.head _)) (Nat.not_lt_zero _)
 | n + 1, l, hd, h => by
  have hf : (l.erase n).length ≤ n := nodup_len n _ (hd.erase n) (erase_lt hd h)
  have hc : l.length ≤ (l.erase n).length + 1 := by
   rw [List.length_erase]
   split <;> (first | exact Nat.sub_le_iff_le_add.mp (Nat.le_refl _) | exact Nat.le_succ _)
  exact Nat.le_trans hc (Nat.succ_le_succ hf)
theorem ord_len {w : World} {Sx : Addr} {news : List (Addr × Obj)} {g : G} (H : SIn w Sx news g) : g.ord.length ≤ 5 := nodup_len 5 _ H.nodup H.lo
end
section
theorem bind_join {fd : FuncData} {a0 v : Arg} {x : Value} {rest : List Value} (hp : fd.params = { posonlyargs := [], args := [a0], vararg := some v, kwonlyargs := [], kw_defaults := [], kwarg := none, defaults := [] }) (hd : fd.defaults = .none) (ha : a0.arg = Str.ofString "a") :
  bindArgs fd ⟨x :: rest, []⟩ = (newTuple rest >>= fun t => pure [(a0.arg, x), (v.arg, t)]) := by
 cases fd; cases hp; cases hd; cases a0; cases ha
 cases rest <;> rfl
theorem bind_done {fd : FuncData} {a0 v : Arg} {x : Value} {rest : List Value} (hp : fd.params = { posonlyargs := [], args := [a0], vararg := some v, kwonlyargs := [], kw_defaults := [], kwarg := none, defaults := [] }) (hd : fd.defaults = .none) (ha : a0.arg = Str.ofString "self") :
  bindArgs fd ⟨x :: rest, []⟩ = (newTuple rest >>= fun t => pure [(a0.arg, x), (v.arg, t)]) := by
 cases fd; cases hp; cases hd; cases a0; cases ha
 cases rest <;> rfl
theorem bind_add {fd : FuncData} {a0 a1 v : Arg} {x y : Value} {rest : List Value} (hp : fd.params = { posonlyargs := [], args := [a0, a1], vararg := some v, kwonlyargs := [], kw_defaults := [], kwarg := none, defaults := [] }) (hd : fd.defaults = .none) (ha : a0.arg = Str.ofString "self") (hb : a1.arg = Str.ofString "node") :
  bindArgs fd ⟨x :: y :: rest, []⟩ = (newTuple rest >>= fun t => pure [(a0.arg, x), (a1.arg, y), (v.arg, t)]) := by
 cases fd; cases hp; cases hd; cases a0; cases ha; cases a1; cases hb
 cases rest <;> rfl
section
variable {prog : Program} {w : World} {A A₀ : Around} {s : Shared} {K : Frag} {L : Addr} {h₀ base : Heap} {m mg mb : Str → Option Value} {news : List (Addr × Obj)} {p : Program} {loose : List Str} {mean : ExcName → Option Value}
theorem code_rest {env : Env} {outer : List Env} {R : Result → Shared → Prop} {name qual : Str} {params : Arguments} {body : List Stmt} {scope : Scope} {dV kV doc pm cdv ct oc : Value} {an od : Option Addr} {osl : Array (Option Value)} {f : Addr} {args : Args} {vs : List Value} {binds : Value → List (Str × Value)}
  (B : Below A₀ base outer h₀) (F : Fr h₀ L s.heap m) (X₀ : K.In h₀) (N : News h₀ L s.heap news) (T : Top p loose mean mg mb h₀) (hA : A.frames = some (env :: outer)) (hf : env.frame = some L) (hke : env.scope.kind = .function)
  (ho : K.lookup f = some ⟨oc, od, .func (fnOf name qual params body scope dV kV doc pm an cdv ct), osl⟩) (hcd : codeIn K cdv qual = true) (hroom : A.depth < recursionLimit)
  (hb : bindArgs (fnOf name qual params body scope dV kV doc pm an cdv ct) args = (newTuple vs >>= fun t => pure (binds t))) (hz : vs.length ≤ sizeLine)
  (hloc : ∀ D, ∀ y ∈ binds D, scope.names.lookup y.1 = some .local)
  (h : ∀ D g L' h₁ tk, (∀ p ∈ news, p.1 < D) → Fr h₀ L g m → Fr g L' h₁ (fun y => (binds (.ref D)).reverse.lookup y) → News g L' h₁ ((D, ({ cls := .type "tuple", data := .seq vs.toArray } : Obj)) :: news) → Below A base (env :: outer) g → K.In g → Top p loose mean mg mb g →
   wpAny (model prog w) (A.deeper (envOf qual scope L' f cdv)) (execs body (envOf qual scope L' f cdv))
    (fun fl s' => LeaveK h₀ L m g R (match fl with | .ret v => v | _ => .none) s')
    (fun e s' => wpAny (model prog w) (A.deeper (envOf qual scope L' f cdv)) (leaving (envOf qual scope L' f cdv) e) (fun _ s'' => R (.error e) s'') (fun e' s'' => R (.error e') s'') s')
    { s with heap := h₁, toks := tk })
  (hco : scope.isCoroutine = false) (hgen : scope.isGenerator = false) (hk : scope.kind = .function)
  (hcell : ∀ x ∈ scope.names, x.2 ≠ .cell) : codeAny (model prog w) A (.call (.ref f) args) R s := by
 refine codeAny_call_function (fd := fnOf name qual params body scope dV kV doc pm an cdv ct) (body := body) hroom ((X₀.keeps F.keep) _ _ ho) rfl hco hgen rfl (codeRec_of (X₀.keeps F.keep) hcd) ?_
 rw [hb]
 refine wpAny_bind (newTuple_N F N (fun h' F' N' => wpAny_pure ?_) hz)
 exact kp_frame (cl := []) (s := { s with heap := h' }) B F' N' T.nolimit hA hf hke (hloc _) (fun g L' h₁ FG FL NG BG st => h _ g L' h₁ _ (fun p hp => Heap.lt_size (N p hp).1) FG FL NG BG (X₀.keeps st) (T.keeps st)) hcell hk
end
end
section
noncomputable def drp (a : Addr) (l : List (Addr × Obj)) : List (Addr × Obj) := l.filter fun p => decide (p.1 ≠ a)
theorem mem_drp {a : Addr} {l : List (Addr × Obj)} {p : Addr × Obj} : p ∈ drp a l ↔ p ∈ l ∧ p.1 ≠ a := by
 unfold drp
 rw [List.mem_filter, decide_eq_true_eq]
theorem ND.drp {a : Addr} {l : List (Addr × Obj)} (h : ND l) : ND (drp a l) := by
 refine List.Nodup.sublist ?_ h
 exact List.Sublist.map _ List.filter_sublist
theorem codeAny_forLoopC {prog : Program} {w : World} {A : Around} {R : Result → Shared → Prop} {target : PySem.Expr} {it : Value} {body orelse : List Stmt} {env : Env} {s : Shared} (I : Nat → Shared → Prop)
  (turn : ∀ n s (P0 : Shared → Prop), (∀ m s', m < n → I m s' → P0 s') → I n s → wpAny (model prog w) A (pyNext it) (fun r s₁ => match r with
   | none => wpAny (model prog w) A (execs orelse env) (fun f s₃ => R (.ok f) s₃) (notedBy (model prog w) A env fun e s' => R (.error e) s') s₁
   | some v => wpAny (model prog w) A (assign target env v) (fun _ s₂ => wpAny (model prog w) A (execs body env) (fun f s₃ => match f with
     | .next | .cont => P0 s₃
     | .brk => R (.ok .next) s₃
     | .ret v => R (.ok (.ret v)) s₃) (notedBy (model prog w) A env fun e s' => R (.error e) s') s₂) (notedBy (model prog w) A env fun e s' => R (.error e) s') s₁) (notedBy (model prog w) A env fun e s' => R (.error e) s') s)
  (n : Nat) (h : I n s) (ht : ∀ v, letOwnedTupleGo target it v = pure () := by intro _; rfl) : codeAny (model prog w) A (.forLoop target it body orelse env) R s :=
 codeAny_forLoop I (fun n s hI => turn n s (fun s' => ∃ m, m < n ∧ I m s') (fun m s' h1 h2 => ⟨m, h1, h2⟩) hI) n h ht
section
variable {prog : Program} {w : World} {A : Around} {s : Shared} {env : Env} {h₀ : Heap}
theorem codeAny_forLed {R : Result → Shared → Prop} {x : Str} {px : Pos} {body : List Stmt} {I : Addr} {fp : List Addr} {n : Nat} {P : Nat → Value → Prop} {St : Nat → Heap → Prop} {m : Str → Option Value}
  {news : List (Addr × Obj)} (W : Walks prog w A I fp [I] n P St) (hx : env.kindOf x = some .local)
  (hp : (env.scope.kind == .class || (env.scope.kind == .module && env.locals != env.globals)) = false)
  (hIL : I ≠ env.locals) (hI0 : h₀.get? I = none) (hLf : env.locals ∉ fp)
  (J : Nat → (Str → Option Value) → List (Addr × Obj) → Prop)
  (hst : ∀ i m₁ news₁ h, i ≤ n → J i m₁ news₁ → News h₀ env.locals h news₁ → St i h)
  (hget : ∀ i h, St i h → ∃ o, h.get? I = some o)
  (F : Fr h₀ env.locals s.heap m) (N : News h₀ env.locals s.heap news) (h0 : J 0 m news)
  (turn : ∀ i v m₁ news₁ h tk o', i < n → P i v → J i m₁ news₁ → St (i + 1) h → h.get? I = some o' →
   Fr h₀ env.locals h (fun y => if y = x then some v else m₁ y) → News h₀ env.locals h (rep I o' news₁) →
   wpAny (model prog w) A (execs body env) (fun f s₂ => match f with
    | .ret v => R (.ok (.ret v)) s₂
    | .brk => R (.ok .next) s₂
    | _ => ∃ h' tk' m₂ news₂, s₂ = { s with heap := h', toks := tk' } ∧ Fr h₀ env.locals h' m₂ ∧ News h₀ env.locals h' news₂ ∧ J (i + 1) m₂ news₂) (notedBy (model prog w) A env fun e s' => R (.error e) s') { s with heap := h, toks := tk })
  (hR : ∀ h' tk m' news', Fr h₀ env.locals h' m' → News h₀ env.locals h' (drp I news') → J n m' news' → R (.ok .next) { s with heap := h', toks := tk }) :
  codeAny (model prog w) A (.forLoop (.Name x px) (.ref I) body [] env) R s := by
 refine codeAny_forLoopC
  (fun k s' => ∃ h' tk m' news' i, s' = { s with heap := h', toks := tk } ∧ Fr h₀ env.locals h' m' ∧ News h₀ env.locals h' news' ∧ J i m' news' ∧ i ≤ n ∧ k = n + 1 - i) ?_ (n + 1)
  ⟨s.heap, s.toks, m, news, 0, rfl, F, N, h0, Nat.zero_le _, rfl⟩
 intro k s' P0 hP0 hR0
 refine e5_6 hR0 ?_
 (try clear hR0); intro h' tk m' news' i hz1 F' N' hJ hi hz2
 subst hz1
 subst hz2
 have hst' := hst i m' news' h' hi hJ N'
 have keepF : ∀ h₁ : Heap, (∀ b o, b ∉ [I] → h'.get? b = some o → h₁.get? b = some o) → Fr h₀ env.locals h₁ m' := fun h₁ hk₁ =>
  ⟨F'.ns.at' fun o e => hk₁ _ o (fun q => hIL (List.mem_singleton.mp q).symm) e, fun b o e => hk₁ b o (fun q => by rw [List.mem_singleton.mp q, hI0] at e; cases e) (F'.keep b o e), F'.above⟩
 by_cases hlt : i < n
 ·refine W.item i _ _ _ hlt hst' fun v h₁ tk₁ hP hst₁ hk₁ => ?_
  refine e1_1 (hget _ _ hst₁) ?_
  intro o' ho'
  have F₁ := keepF h₁ hk₁
  have N₁ : News h₀ env.locals h₁ (rep I o' news') := by
   intro p hp
   refine e1_2 (List.mem_map.mp hp) ?_
   intro q hq e
   by_cases hqI : q.1 = I
   ·rw [if_pos hqI] at e
    subst e
    exact i0_3 ho' hIL hI0
   ·rw [if_neg hqI] at e
    subst e
    exact ⟨hk₁ _ _ (fun z => hqI (List.mem_singleton.mp z)) (N' q hq).1, (N' q hq).2⟩
  refine wpAny_assign_Name (wpAny_storeName_local hx F₁.ns (fun h₂ hn₂ hs₂ => ?_) hp)
  have F₂ := F₁.set hn₂ hs₂
  have N₂ := News.set N₁ hs₂
  have hst₂ : St (i + 1) h₂ := W.frame _ _ _ hst₁ fun b hb o e => (hs₂.2 b fun q => hLf (q ▸ hb)).trans e
  have hg₂ : h₂.get? I = some o' := (hs₂.2 I hIL).trans ho'
  refine wpAny_mono (turn i v m' news' h₂ _ o' hlt hP hJ hst₂ hg₂ F₂ N₂) (fun f s₃ h₃ => ?_) fun _ _ e => e
  cases f with
  | ret v => exact h₃
  | brk => exact h₃
  | cont =>
   refine e4_4 h₃ ?_
   (try clear h₃); intro h₃' tk₃ m₂ news₂ hz1 F₃ N₃ hJ₃
   subst hz1
   exact hP0 (n + 1 - (i + 1)) _ (by exact o3 ‹_›) (i5_6 h₃' tk₃ m₂ news₂ (i + 1) rfl F₃ N₃ hJ₃ hlt rfl)
  | next =>
   refine e4_4 h₃ ?_
   (try clear h₃); intro h₃' tk₃ m₂ news₂ hz2 F₃ N₃ hJ₃
   subst hz2
   exact hP0 (n + 1 - (i + 1)) _ (by exact o3 ‹_›) (i5_6 h₃' tk₃ m₂ news₂ (i + 1) rfl F₃ N₃ hJ₃ hlt rfl)
 ·have hin : i = n := by exact o62 hi hlt
  subst hin
  refine W.done _ _ _ hst' fun h₁ tk₁ hk₁ => wpAny_execs_nil ?_
  refine hR h₁ tk₁ m' news' (keepF h₁ hk₁) (fun p hp => ?_) hJ
  refine e0_2 (mem_drp.mp hp) ?_
  intro hp1 hp2
  exact ⟨hk₁ _ _ (fun z => hp2 (List.mem_singleton.mp z)) (N' p hp1).1, (N' p hp1).2⟩
theorem For_led {E : Value → Shared → Prop} {Q : Flow → Shared → Prop} {x : Str} {px pos : Pos} {iter : Expr} {body : List Stmt}
  (h : wpAny (model prog w) A (eval iter env) (fun xv s₁ => wpAny (model prog w) A (pyIter xv) (fun it s₂ =>
   codeAny (model prog w) A (.forLoop (.Name x px) it body [] env) (fun r s' => match r with | .ok f => Q f s' | .error e => cameBackBy (model prog w) A env E e s') s₂) E s₁) E s)
  (hs : ∀ x, foldedSetIterable iter env x = pure x := by intro _; rfl) :
  wpAny (model prog w) A (exec (.For (.Name x px) iter body [] pos) env) Q E s := wpAny_For h hs
theorem iter_seqLed {E : Value → Shared → Prop} {Q : Flow → Shared → Prop} {x : Str} {px : Pos} {body : List Stmt} {tup : Bool} {l : Addr} {its : Array Value} {o : Obj} {m : Str → Option Value} {news : List (Addr × Obj)}
  (hh : A.handled = none) (hx : env.kindOf x = some .local)
  (hp : (env.scope.kind == .class || (env.scope.kind == .module && env.locals != env.globals)) = false)
  (J : Nat → (Str → Option Value) → List (Addr × Obj) → Prop)
  (hc : o.cls = .type (if tup then "tuple" else "list")) (hdat : ∃ n, o.data = .seq its n)
  (F : Fr h₀ env.locals s.heap m) (N : News h₀ env.locals s.heap news) (hnd : ND news) (hl : (l, o) ∈ news)
  (hJl : ∀ i m₁ news₁, J i m₁ news₁ → (l, o) ∈ news₁)
  (hJ : J 0 m news)
  (turn : ∀ I i v m₁ news₁ h tk o', (∀ p ∈ news, p.1 ≠ I) → its[i]? = some v → ND ((I, o') :: news₁) → J i m₁ news₁ →
   Fr h₀ env.locals h (fun y => if y = x then some v else m₁ y) → News h₀ env.locals h ((I, o') :: news₁) →
   wpAny (model prog w) A (execs body env) (fun f s₂ => match f with
    | .ret v => Q (.ret v) s₂
    | .brk => Q .next s₂
    | _ => ∃ h' tk' m₂ news₂, s₂ = { s with heap := h', toks := tk' } ∧ Fr h₀ env.locals h' m₂ ∧ News h₀ env.locals h' news₂ ∧ ND news₂ ∧ (I, o') ∈ news₂ ∧ J (i + 1) m₂ (drp I news₂)) E { s with heap := h, toks := tk })
  (done : ∀ m₁ news₁ h tk, ND news₁ → J its.size m₁ news₁ → Fr h₀ env.locals h m₁ → News h₀ env.locals h news₁ → Q .next { s with heap := h, toks := tk })
  (hE : PassesOwn (model prog w) A env E := by passes_own) :
  wpAny (model prog w) A (pyIter (.ref l)) (fun it s₂ =>
   codeAny (model prog w) A (.forLoop (.Name x px) it body [] env) (fun r s' => match r with | .ok f => Q f s' | .error e => cameBackBy (model prog w) A env E e s') s₂) E s := by
 refine e1_1 hdat ?_
 (try clear hdat); intro nn hdat
 have hgl := (N _ hl).1
 have hlt : l < s.heap.objs.size := Heap.lt_size hgl
 have hne : l ≠ s.heap.objs.size := Nat.ne_of_lt hlt
 refine e3_2 (id F.ns) ?_
 intro oL _ _ hoL _
 have hIL : s.heap.objs.size ≠ env.locals := (Nat.ne_of_lt (Heap.lt_size hoL)).symm
 have hLl : env.locals ≠ l := (N _ hl).2.1.symm
 have hI0 : h₀.get? s.heap.objs.size = none := by
  cases q : h₀.get? s.heap.objs.size with
  | none => rfl
  | some ob => exact absurd (Heap.lt_size (F.keep _ _ q)) (Nat.lt_irrefl _)
 have fresh : ∀ p ∈ news, p.1 ≠ s.heap.objs.size := fun p hp => Nat.ne_of_lt (Heap.lt_size (N p hp).1)
 have core : ∀ (ob : Obj) (itIs : Nat → Obj → Prop) (St : Nat → Heap → Prop),
   (∀ i h, St i h ↔ (∃ o₁, h.get? s.heap.objs.size = some o₁ ∧ itIs i o₁) ∧ ∃ o₂, h.get? l = some o₂ ∧ o₂.cls = o.cls ∧ ∃ n, o₂.data = .seq its n) → itIs 0 ob → ob.isFreed = false →
   Walks prog w A s.heap.objs.size [s.heap.objs.size, l] [s.heap.objs.size] its.size (fun i v => its[i]? = some v) St →
   codeAny (model prog w) A (.forLoop (.Name x px) (.ref s.heap.objs.size) body [] env) (fun r s' => match r with | .ok f => Q f s' | .error e => cameBackBy (model prog w) A env E e s') { s with heap := s.heap.push ob } := by
  intro ob itIs St hSt h0i hfr W
  refine codeAny_forLed (R := fun r s' => match r with | .ok f => Q f s' | .error e => cameBackBy (model prog w) A env E e s') (s := { s with heap := s.heap.push ob }) (news := (s.heap.objs.size, ob) :: news) W hx hp hIL hI0 (fun hm => ?_)
   (fun i m₁ news₁ => ND news₁ ∧ (∃ o₁, (s.heap.objs.size, o₁) ∈ news₁ ∧ itIs i o₁) ∧ J i m₁ (drp s.heap.objs.size news₁)) ?_ ?_ (F.push _) (N.push F _ hfr) ?_ ?_ ?_
  ·rcases List.mem_cons.mp hm with e | e
   ·exact hIL e.symm
   ·exact hLl (List.mem_singleton.mp e)
  ·intro i m₁ news₁ h _ hR0 N₁
   refine e0_3 hR0 ?_
   (try clear hR0); intro _ hz3 hj
   obtain ⟨o₁, ho₁, hi₁⟩ := hz3
   refine (hSt i h).mpr ⟨⟨o₁, (N₁ _ ho₁).1, hi₁⟩, ⟨o, (N₁ _ (mem_drp.mp (hJl _ _ _ hj)).1).1, rfl, nn, hdat⟩⟩
  ·intro i h q
   refine e0_2 ((hSt i h).mp q) ?_
   intro hz3 _
   refine e1_2 hz3 ?_
   (try clear hz3); intro o₁ h1 _
   exact ⟨o₁, h1⟩
  ·refine i0_3 (hnd.cons fun p hp => Heap.lt_size (N p hp).1) ⟨ob, .head _, h0i⟩ ?_
   have e : drp s.heap.objs.size ((s.heap.objs.size, ob) :: news) = news := by
    unfold drp
    rw [List.filter_cons_of_neg (by simp)]
    exact List.filter_eq_self.mpr fun p hp => by simpa using fresh p hp
   rw [e]; exact hJ
  ·intro i v m₁ news₁ h tk o' hi hP hR0 hst₁ hg₁ F₁ N₁
   refine e0_3 hR0 ?_
   (try clear hR0); intro hnd₁ hz4 hj
   obtain ⟨o₁, ho₁, hi₁⟩ := hz4
   have N₁' : News h₀ env.locals h ((s.heap.objs.size, o') :: drp s.heap.objs.size news₁) := by
    intro p hp
    rcases List.mem_cons.mp hp with rfl | hp
    ·exact N₁ _ (mem_rep_self ho₁)
    ·exact N₁ _ (mem_rep_ne' (mem_drp.mp hp).1 (mem_drp.mp hp).2)
   have hnd₁' : ND ((s.heap.objs.size, o') :: drp s.heap.objs.size news₁) := by
    show (_ :: (drp s.heap.objs.size news₁).map (·.1)).Nodup
    refine List.nodup_cons.mpr ⟨fun q => ?_, hnd₁.drp⟩
    refine e1_2 (List.mem_map.mp q) ?_
    intro p hp e
    exact (mem_drp.mp hp).2 e
   refine wpAny_passesOwn hE (wpAny_mono (turn s.heap.objs.size i v m₁ _ h tk o' fresh hP hnd₁' hj F₁ N₁') (fun f s₂ h₂ => ?_) fun _ _ e => e)
   have it' : itIs (i + 1) o' := by
    refine e0_2 ((hSt _ _).mp hst₁) ?_
    intro hz4 _
    refine e1_2 hz4 ?_
    (try clear hz4); intro o₂ h1 h2
    rw [hg₁] at h1
    cases h1
    exact h2
   cases f with
   | ret v => exact h₂
   | brk => exact h₂
   | next =>
    refine e4_6 h₂ ?_
    (try clear h₂); intro h' tk' m₂ news₂ e F₂ N₂ hnd₂ hm₂ hj₂
    exact i4_6 h' tk' m₂ news₂ e F₂ N₂ hnd₂ ⟨o', hm₂, it'⟩ hj₂
   | cont =>
    refine e4_6 h₂ ?_
    (try clear h₂); intro h' tk' m₂ news₂ e F₂ N₂ hnd₂ hm₂ hj₂
    exact i4_6 h' tk' m₂ news₂ e F₂ N₂ hnd₂ ⟨o', hm₂, it'⟩ hj₂
  ·intro h' tk m' news' F' N' hR0
   refine e0_3 hR0 ?_
   (try clear hR0); intro hnd' _ hj
   exact done m' _ h' tk hnd'.drp hj F' N'
 cases tup with
 | false =>
  have hl' : s.heap.IsList l its := ⟨o, hgl, hc, nn, hdat⟩
  refine wpAny_pyIter_list hl' ?_
  refine core { cls := .type "list_iterator", data := .fields #[.ref l, .int 0 0] } (fun i o₁ => o₁.cls = .type "list_iterator" ∧ o₁.data = .fields #[.ref l, .int i 0]) _ (fun i h => ?_) ⟨rfl, rfl⟩ rfl (Walks.list hh _ l hne its)
  constructor
  ·intro hR0
   refine e0_2 hR0 ?_
   (try clear hR0); intro hz5 hz6
   obtain ⟨o₁, a, b, c⟩ := hz5
   obtain ⟨o₂, d, e, f⟩ := hz6
   exact ⟨⟨o₁, a, b, c⟩, ⟨o₂, d, e.trans hc.symm, f⟩⟩
  ·intro hR0
   refine e0_2 hR0 ?_
   (try clear hR0); intro hz7 hz8
   obtain ⟨o₁, a, b, c⟩ := hz7
   obtain ⟨o₂, d, e, f⟩ := hz8
   exact ⟨⟨o₁, a, b, c⟩, ⟨o₂, d, e.trans hc, f⟩⟩
 | true =>
  have hl' : s.heap.IsTuple l its := ⟨o, hgl, hc, nn, hdat⟩
  refine wpAny_pyIter_tuple hl' ?_
  refine core { cls := .type "tuple_iterator", data := .fields #[.ref l, .int 0 0] } (fun i o₁ => o₁.cls = .type "tuple_iterator" ∧ o₁.data = .fields #[.ref l, .int i 0]) _ (fun i h => ?_) ⟨rfl, rfl⟩ rfl (Walks.tuple hh _ l hne its)
  constructor
  ·intro hR0
   refine e0_2 hR0 ?_
   (try clear hR0); intro hz9 hz10
   obtain ⟨o₁, a, b, c⟩ := hz9
   obtain ⟨o₂, d, e, f⟩ := hz10
   exact ⟨⟨o₁, a, b, c⟩, ⟨o₂, d, e.trans hc.symm, f⟩⟩
  ·intro hR0
   refine e0_2 hR0 ?_
   (try clear hR0); intro hz11 hz12
   obtain ⟨o₁, a, b, c⟩ := hz11
   obtain ⟨o₂, d, e, f⟩ := hz12
   exact ⟨⟨o₁, a, b, c⟩, ⟨o₂, d, e.trans hc, f⟩⟩
end
section
variable {prog : Program} {w : World} {A : Around} {E : Value → Shared → Prop} {s : Shared} {h₀ : Heap} {L : Addr} {news : List (Addr × Obj)}
theorem len_tupL {l : Addr} {vs : List Value} {n : Nat} {Q : Value → Shared → Prop} (N : News h₀ L s.heap news) (hm : (l, ({ cls := .type "tuple", data := .seq vs.toArray n } : Obj)) ∈ news) (hz : vs.length ≤ 1048576)
  (h : Q (.int vs.length (s.toks + 1)) { s with toks := s.toks + 1 + 1 }) : wpAny (model prog w) A (call (.builtin "len") [.ref l]) Q E s :=
 len_tuple (items := vs.toArray) (N.isTup hm) (by rw [List.size_toArray]; (exact rm5 hz (by decide))) (by rw [List.size_toArray]; exact h)
theorem len_lstL {l : Addr} {vs : List Value} {n : Nat} {Q : Value → Shared → Prop} (N : News h₀ L s.heap news) (hm : (l, W.listOf vs.toArray n) ∈ news) (hz : vs.length ≤ 1048576)
  (h : Q (.int vs.length (s.toks + 1)) { s with toks := s.toks + 1 + 1 }) : wpAny (model prog w) A (call (.builtin "len") [.ref l]) Q E s :=
 len_list (items := vs.toArray) ⟨_, (N _ hm).1, rfl, n, rfl⟩ (by rw [List.size_toArray]; (exact rm5 hz (by decide))) (by rw [List.size_toArray]; exact h)
end
theorem map2 {A B : Str} {a b a' b' : Option Value} {m : Str → Option Value} : (fun y => if y = A then a' else if y = B then b' else (if y = A then a else if y = B then b else m y)) = fun y => if y = A then a' else if y = B then b' else m y := by
 funext y
 by_cases h1 : y = A
 ·simp only [if_pos h1]
 ·by_cases h2 : y = B
  ·simp only [if_neg h1, if_pos h2]
  ·simp only [if_neg h1, if_neg h2]
theorem map1 {A : Str} {a a' : Option Value} {m : Str → Option Value} : (fun y => if y = A then a' else (if y = A then a else m y)) = fun y => if y = A then a' else m y := by
 funext y
 by_cases h1 : y = A
 ·simp only [if_pos h1]
 ·simp only [if_neg h1]
theorem map1x {A : Str} {a' a b b' : Option Value} {m : Str → Option Value} : (fun y => if y = A then a' else (if y = A then a else if y = A then b else m y)) = fun y => if y = A then a' else if y = A then b' else m y := by
 funext y
 by_cases h1 : y = A
 ·simp only [if_pos h1]
 ·simp only [if_neg h1]
noncomputable def TurnP (Q : Flow → Shared → Prop) (s : Shared) (K : Heap → (Str → Option Value) → List (Addr × Obj) → Prop) (f : Flow) (s₂ : Shared) : Prop :=
 match f with
 | .ret v => Q (.ret v) s₂
 | .brk => Q .next s₂
 | _ => ∃ h' tk' m₂ news₂, s₂ = { s with heap := h', toks := tk' } ∧ K h' m₂ news₂
section
variable {prog : Program} {w : World} {A : Around} {s : Shared} {env : Env} {h₀ : Heap}
theorem iter_seq1 {E : Value → Shared → Prop} {Q : Flow → Shared → Prop} {x y : Str} {px : Pos} {body : List Stmt} {tup : Bool} {l : Addr} {its : Array Value} {o : Obj} {m : Str → Option Value} {news : List (Addr × Obj)}
  (hh : A.handled = none) (hx : env.kindOf x = some .local)
  (hp : (env.scope.kind == .class || (env.scope.kind == .module && env.locals != env.globals)) = false)
  (J : Nat → List (Addr × Obj) → Prop)
  (hc : o.cls = .type (if tup then "tuple" else "list")) (hdat : ∃ n, o.data = .seq its n)
  (F : Fr h₀ env.locals s.heap m) (N : News h₀ env.locals s.heap news) (hnd : ND news) (hl : (l, o) ∈ news)
  (hJl : ∀ i news₁, J i news₁ → (l, o) ∈ news₁)
  (hJ : J 0 news)
  (turn : ∀ I i v u1 u2 news₁ h tk o', (∀ p ∈ news, p.1 ≠ I) → its[i]? = some v → ND ((I, o') :: news₁) → J i news₁ →
   Fr h₀ env.locals h (fun z => if z = x then some v else (if z = y then u1 else if z = x then u2 else m z)) → News h₀ env.locals h ((I, o') :: news₁) →
   wpAny (model prog w) A (execs body env) (TurnP Q s (fun h' m₂ news₂ => Fr h₀ env.locals h' m₂ ∧ News h₀ env.locals h' news₂ ∧ ND news₂ ∧ (I, o') ∈ news₂ ∧ (∃ u1 u2, m₂ = fun z => if z = y then u1 else if z = x then u2 else m z) ∧ J (i + 1) (drp I news₂))) E { s with heap := h, toks := tk })
  (done : ∀ u1 u2 news₁ h tk, ND news₁ → J its.size news₁ → Fr h₀ env.locals h (fun z => if z = y then u1 else if z = x then u2 else m z) → News h₀ env.locals h news₁ → Q .next { s with heap := h, toks := tk })
  (hE : PassesOwn (model prog w) A env E := by passes_own) :
  wpAny (model prog w) A (pyIter (.ref l)) (fun it s₂ =>
   codeAny (model prog w) A (.forLoop (.Name x px) it body [] env) (fun r s' => match r with | .ok f => Q f s' | .error e => cameBackBy (model prog w) A env E e s') s₂) E s := by
 refine iter_seqLed hh hx hp (fun i m₁ news₁ => (∃ u1 u2, m₁ = fun z => if z = y then u1 else if z = x then u2 else m z) ∧ J i news₁) hc hdat F N hnd hl (fun i _ news₁ h => hJl i news₁ h.2) ⟨⟨m y, m x, ?_⟩, hJ⟩ ?_ ?_ hE
 ·funext z
  by_cases h1 : z = y
  ·rw [if_pos h1, h1]
  ·rw [if_neg h1]
   by_cases h2 : z = x
   ·rw [if_pos h2, h2]
   ·rw [if_neg h2]
 ·intro I i v m₁ news₁ h tk o' hI hv hn hR0 F₁ N₁
  refine e0_2 hR0 ?_
  (try clear hR0); intro hz13 hj
  obtain ⟨u1, u2, rfl⟩ := hz13
  refine wpAny_mono (turn I i v u1 u2 news₁ h tk o' hI hv hn hj F₁ N₁) (fun f s₂ h₂ => ?_) fun _ _ e => e
  cases f with
  | ret v => exact h₂
  | brk => exact h₂
  | next =>
   refine e4_7 h₂ ?_
   (try clear h₂); intro h' tk' m₂ news₂ a b c d e f g
   exact i4_7 h' tk' m₂ news₂ a b c d e f g
  | cont =>
   refine e4_7 h₂ ?_
   (try clear h₂); intro h' tk' m₂ news₂ a b c d e f g
   exact i4_7 h' tk' m₂ news₂ a b c d e f g
 ·intro m₁ news₁ h tk hn hR0 F₁ N₁
  refine e0_2 hR0 ?_
  (try clear hR0); intro hz14 hj
  obtain ⟨u1, u2, rfl⟩ := hz14
  exact done u1 u2 news₁ h tk hn hj F₁ N₁
end
noncomputable def ovn : List Str → (Nat → Option Value) → (Str → Option Value) → Str → Option Value
 | [], _, m => m
 | A :: r, u, m => fun z => if z = A then u r.length else ovn r u m z
noncomputable def MapOk (names : List Str) (m₂ m : Str → Option Value) : Prop := ∀ z, z ∉ names → m₂ z = m z
theorem ovn_off (u : Nat → Option Value) (m : Str → Option Value) : ∀ (names : List Str) (z : Str), z ∉ names → ovn names u m z = m z
 | [], _, _ => rfl
 | A :: r, z, h => by
  show (if z = A then u r.length else ovn r u m z) = m z
  rw [if_neg (fun e : z = A => h (by rw [e]; exact .head _)), ovn_off u m r z (fun e => h (.tail _ e))]
theorem MapOk.base {names : List Str} {u : Nat → Option Value} {m : Str → Option Value} : MapOk names (ovn names u m) m := fun z hz => ovn_off u m names z hz
theorem MapOk.set {names : List Str} {A : Str} {v : Option Value} {m₁ m : Str → Option Value} (hA : A ∈ names) (h : MapOk names m₁ m) : MapOk names (fun z => if z = A then v else m₁ z) m := fun z hz => by
 show (if z = A then v else m₁ z) = m z
 rw [if_neg (fun e : z = A => hz (by rw [e]; exact hA)), h z hz]
theorem MapOk.sub {small names : List Str} {u : Nat → Option Value} {m₁ m : Str → Option Value} (hs : ∀ z ∈ small, z ∈ names) (h : MapOk names m₁ m) : MapOk names (ovn small u m₁) m := fun z hz => (ovn_off u m₁ small z (fun q => hz (hs z q))).trans (h z hz)
theorem MapOk.is {m₂ m : Str → Option Value} : ∀ {names : List Str}, MapOk names m₂ m → ∃ u, m₂ = ovn names u m := by
 have key : ∀ (names : List Str) (f : Str → Option Value), (∀ z, z ∉ names → f z = m z) → ∃ u, f = ovn names u m := by
  intro names
  induction names with
  | nil => intro f h; exact ⟨fun _ => none, funext fun z => h z (by simp)⟩
  | cons A r ih =>
   intro f h
   obtain ⟨u, hu⟩ := ih (fun z => if z = A then m z else f z) fun z hz => by
    by_cases e : z = A
    ·rw [if_pos e]
    ·rw [if_neg e]
     exact h z fun q => (List.mem_cons.mp q).elim e hz
   refine ⟨fun n => if n = r.length then f A else u n, ?_⟩
   funext z
   have same : ∀ (l : List Str), l.length ≤ r.length → ovn l (fun n => if n = r.length then f A else u n) m z = ovn l u m z := by
    intro l
    induction l with
    | nil => intro _; rfl
    | cons B l ih2 =>
     intro hl
     show (if z = B then (if l.length = r.length then f A else u l.length) else ovn l _ m z) = if z = B then u l.length else ovn l u m z
     rw [List.length_cons] at hl
     have hl2 : ¬ l.length = r.length := by exact fun hom => o140 hl hom
     rw [if_neg hl2, ih2 (by exact o128 hl)]
   show f z = if z = A then (if r.length = r.length then f A else u r.length) else ovn r _ m z
   by_cases e : z = A
   ·rw [if_pos e, if_pos rfl, e]
   ·rw [if_neg e, same r (Nat.le_refl _), ← hu]
    show f z = if z = A then m z else f z
    rw [if_neg e]
 intro names h
 exact key names m₂ h
section
variable {prog : Program} {w : World} {A : Around} {s : Shared} {env : Env} {h₀ : Heap}
theorem iter_seqN {E : Value → Shared → Prop} {Q : Flow → Shared → Prop} {x : Str} {px : Pos} {body : List Stmt} {tup : Bool} {l : Addr} {its : Array Value} {o : Obj} {m : Str → Option Value} {news : List (Addr × Obj)} (names : List Str)
  (hh : A.handled = none) (hx : env.kindOf x = some .local)
  (hp : (env.scope.kind == .class || (env.scope.kind == .module && env.locals != env.globals)) = false)
  (J : Nat → List (Addr × Obj) → Prop)
  (hc : o.cls = .type (if tup then "tuple" else "list")) (hdat : ∃ n, o.data = .seq its n)
  (F : Fr h₀ env.locals s.heap m) (N : News h₀ env.locals s.heap news) (hnd : ND news) (hl : (l, o) ∈ news)
  (hJl : ∀ i news₁, J i news₁ → (l, o) ∈ news₁)
  (hJ : J 0 news)
  (turn : ∀ I i v u news₁ h tk o', (∀ p ∈ news, p.1 ≠ I) → its[i]? = some v → ND ((I, o') :: news₁) → J i news₁ →
   Fr h₀ env.locals h (fun z => if z = x then some v else ovn names u m z) → News h₀ env.locals h ((I, o') :: news₁) →
   wpAny (model prog w) A (execs body env) (TurnP Q s (fun h' m₂ news₂ => Fr h₀ env.locals h' m₂ ∧ News h₀ env.locals h' news₂ ∧ ND news₂ ∧ (I, o') ∈ news₂ ∧ MapOk names m₂ m ∧ J (i + 1) (drp I news₂))) E { s with heap := h, toks := tk })
  (done : ∀ u news₁ h tk, ND news₁ → J its.size news₁ → Fr h₀ env.locals h (ovn names u m) → News h₀ env.locals h news₁ → Q .next { s with heap := h, toks := tk })
  (hE : PassesOwn (model prog w) A env E := by passes_own) :
  wpAny (model prog w) A (pyIter (.ref l)) (fun it s₂ =>
   codeAny (model prog w) A (.forLoop (.Name x px) it body [] env) (fun r s' => match r with | .ok f => Q f s' | .error e => cameBackBy (model prog w) A env E e s') s₂) E s := by
 refine iter_seqLed hh hx hp (fun i m₁ news₁ => (∃ u, m₁ = ovn names u m) ∧ J i news₁) hc hdat F N hnd hl (fun i _ news₁ h => hJl i news₁ h.2) ⟨MapOk.is fun _ _ => rfl, hJ⟩ ?_ ?_ hE
 ·intro I i v m₁ news₁ h tk o' hI hv hn hR0 F₁ N₁
  refine e0_2 hR0 ?_
  (try clear hR0); intro hz15 hj
  obtain ⟨u, rfl⟩ := hz15
  refine wpAny_mono (turn I i v u news₁ h tk o' hI hv hn hj F₁ N₁) (fun f s₂ h₂ => ?_) fun _ _ e => e
  cases f with
  | ret v => exact h₂
  | brk => exact h₂
  | next =>
   refine e4_7 h₂ ?_
   (try clear h₂); intro h' tk' m₂ news₂ a b c d e f g
   exact i4_7 h' tk' m₂ news₂ a b c d e f.is g
  | cont =>
   refine e4_7 h₂ ?_
   (try clear h₂); intro h' tk' m₂ news₂ a b c d e f g
   exact i4_7 h' tk' m₂ news₂ a b c d e f.is g
 ·intro m₁ news₁ h tk hn hR0 F₁ N₁
  refine e0_2 hR0 ?_
  (try clear hR0); intro hz16 hj
  obtain ⟨u, rfl⟩ := hz16
  exact done u news₁ h tk hn hj F₁ N₁
end
end
section
theorem meets_bool_new_list (l : Addr) : Meets (Builtin.«bool.__new__» ⟨[.type "bool", .ref l], []⟩) (fun _ R s => ∃ items, s.heap.IsList l items ∧ (items.size : Int) < 2 ^ 63 ∧ R (.ok (.ret (.bool (!items.isEmpty)))) { s with toks := s.toks + 1 + 1 }) :=
 Meets.of_wp fun prog w A R s hs => by
  refine e1_3 hs ?_
  (try clear hs); intro items hl hf hq
  obtain ⟨hp, g, d, tk, os⟩ := s
  have f1 := F.conv_sub_bool
  unfold Builtin.«bool.__new__»
  repeat (any_goals (first | assumption | (refine wpAny_truthy_list hl hf ?_) | wp_step))
  exact i1_2 _ rfl hq
section
variable {prog : Program} {w : World} {A : Around} {E : Value → Shared → Prop} {s : Shared} {h₀ : Heap} {L : Addr} {news : List (Addr × Obj)}
theorem call_bool_lst {l : Addr} {vs : List Value} {n : Nat} {Q : Value → Shared → Prop} (N : News h₀ L s.heap news) (hm : (l, W.listOf vs.toArray n) ∈ news) (hz : vs.length ≤ 1048576)
  (h : Q (.bool (!vs.isEmpty)) { s with toks := s.toks + 1 + 1 }) : wpAny (model prog w) A (call (.type "bool") [.ref l]) Q E s := by
 refine call_bool_1 (meets_bool_new_list l) ⟨vs.toArray, ⟨_, (N _ hm).1, rfl, n, rfl⟩, by rw [List.size_toArray]; (exact rm5 hz (by decide)), ?_⟩
 refine ⟨rfl, ?_⟩
 have e : vs.toArray.isEmpty = vs.isEmpty := by cases vs <;> rfl
 rw [e]; exact h
theorem truthy_lst {l : Addr} {vs : List Value} {n : Nat} {Q : Bool → Shared → Prop} (N : News h₀ L s.heap news) (hm : (l, W.listOf vs.toArray n) ∈ news) (hz : vs.length ≤ 1048576)
  (h : Q (!vs.isEmpty) { s with toks := s.toks + 1 + 1 }) : wpAny (model prog w) A (truthy (.ref l)) Q E s := by
 have e : vs.toArray.isEmpty = vs.isEmpty := by cases vs <;> rfl
 exact wpAny_truthy_list (items := vs.toArray) ⟨_, (N _ hm).1, rfl, n, rfl⟩ (by rw [List.size_toArray]; (exact rm5 hz (by decide))) (by rw [e]; exact h)
theorem News.keeps {h h' : Heap} (N : News h₀ L h news) (hk : ∀ b o, h.get? b = some o → h'.get? b = some o) : News h₀ L h' news := fun p hp => ⟨hk _ _ (N p hp).1, (N p hp).2⟩
theorem tuple_lst {m : Str → Option Value} {l : Addr} {vs : List Value} {n : Nat} {Q : Value → Shared → Prop} (F : Fr h₀ L s.heap m) (N : News h₀ L s.heap news) (hm : (l, W.listOf vs.toArray n) ∈ news) (hz : vs.length ≤ 1048576)
  (h : ∀ t h', Fr h₀ L h' m → News h₀ L h' ((t, ({ cls := .type "tuple", data := .seq vs.toArray } : Obj)) :: news) → (∀ p ∈ news, p.1 < t) → Q (.ref t) { s with heap := h' }) : wpAny (model prog w) A (call (.type "tuple") [.ref l]) Q E s := by
 refine call_tuple_list (items := vs.toArray) ⟨_, (N _ hm).1, rfl, n, rfl⟩ (fun h' hk => ?_) (by rw [List.size_toArray, sizeLine_eq]; (exact Nat.le_trans hz (by decide)))
 have F' := F.after hk
 have N' := News.keeps N hk
 exact h _ _ (F'.push _) (N'.push F' _) fun p hp => Heap.lt_size (N' p hp).1
theorem rep_update {h : Heap} {a : Addr} {o : Obj} {f : Obj → Obj} (N : News h₀ L h news) (hm : (a, o) ∈ news) (hf : (f o).isFreed = false) : News h₀ L (h.update a f) (rep a (f o) news) := by
 have hs : Heap.SameBut a h (h.update a f) := Heap.SameBut.update ..
 have z := N _ hm
 have ge : (h.update a f).get? a = some (f o) := by first | exact Heap.get?_update_self f z.1 hf | exact Heap.get?_update_self _ z.1 hf
 intro p hp
 refine e1_2 (List.mem_map.mp hp) ?_
 intro q hq e
 by_cases hqa : q.1 = a
 ·rw [if_pos hqa] at e
  subst e
  exact ⟨ge, z.2⟩
 ·rw [if_neg hqa] at e
  subst e
  exact ⟨(hs.2 _ hqa).trans (N q hq).1, (N q hq).2⟩
theorem clear_lst {m : Str → Option Value} {l : Addr} {vs : List Value} {n : Nat} {Q : Value → Shared → Prop} (F : Fr h₀ L s.heap m) (N : News h₀ L s.heap news) (hm : (l, W.listOf vs.toArray n) ∈ news) (hz : vs.length ≤ 1048576)
  (h : ∀ k h', Fr h₀ L h' m → News h₀ L h' (rep l (W.listOf #[] k) news) → Q .none { s with heap := h' }) : wpAny (model prog w) A (call (.builtin "list.clear") [.ref l]) Q E s := by
 have z := N _ hm
 have hsz : vs.toArray.size ≤ sizeLine := by rw [List.size_toArray, sizeLine_eq]; exact Nat.le_trans hz (by decide)
 obtain ⟨k, hk⟩ : ∃ k, Obj.mapSeq (fun _ => #[]) (W.listOf vs.toArray n) = W.listOf #[] k := by
  unfold Obj.mapSeq W.listOf
  exact ⟨_, rfl⟩
 refine call_meets PySem.F.slot_list_clear ⟨_, z.1, rfl⟩ PySem.F.entry_list_clear (PySem.F.args_list_clear_1 _) (PySem.AutoSeq1.list_clear_list_0 l vs.toArray n hsz) ⟨z.1, ?_⟩
 have N' := rep_update (f := Obj.mapSeq fun _ => #[]) N hm (by rw [hk]; rfl)
 rw [hk] at N'
 exact h k _ (F.change (Heap.SameBut.update ..) z.2.1 z.2.2) N'
end
end
section
variable {Sx : Addr}
noncomputable def Own (Sx : Addr) (g : G) (b : Addr) : Prop := b = Sx ∨ b = g.dS ∨ b = g.D ∨ (∃ j ∈ g.ord, b = g.I j ∨ b = g.dI j ∨ b = g.Lx j) ∨ ∃ R js, g.rdy = some (R, js) ∧ b = R
theorem SIn.of {w : World} {news news' : List (Addr × Obj)} {g : G} (H : SIn w Sx news g) (h : ∀ p ∈ news, Own Sx g p.1 → p ∈ news') : SIn w Sx news' g where
 self := h _ H.self (.inl rfl)
 dict := e6_1 H.dict fun t1 t2 t3 t4 tp tn e => i6_1 t1 t2 t3 t4 tp tn (h _ e (.inr (.inl rfl)))
 tab := e1_2 H.tab fun oD e k => i1_2 oD (h _ e (.inr (.inr (.inl rfl)))) k
 node := fun j hj => e2_1 (H.node j hj) fun t1 t2 e => i2_1 t1 t2 (h _ e (.inr (.inr (.inr (.inl ⟨j, hj, .inl rfl⟩)))))
 ndict := fun j hj => h _ (H.ndict j hj) (.inr (.inr (.inr (.inl ⟨j, hj, .inr (.inl rfl)⟩))))
 list := fun j hj => e2_2 (H.list j hj) fun vs n k e => i2_2 vs n k (h _ e (.inr (.inr (.inr (.inl ⟨j, hj, .inr (.inr rfl)⟩)))))
 ready := fun R js e => e2_2 (H.ready R js e) fun vs n k q => i2_2 vs n k (h _ q (.inr (.inr (.inr (.inr ⟨R, js, e, rfl⟩)))))
 lo := H.lo
 nodup := H.nodup
 apart := H.apart
 apartR := H.apartR
 sm := H.sm
 apD := H.apD
 apI := H.apI
structure Ab where
 ord : List Nat
 np : Nat → Int
 su : Nat → List Nat
noncomputable def G.ab (g : G) : Ab := ⟨g.ord, g.np, g.su⟩
noncomputable def set1 {α : Type} (f : Nat → α) (j : Nat) (v : α) : Nat → α := fun i => if i = j then v else f i
@[simp] theorem set1_self {α : Type} (f : Nat → α) (j : Nat) (v : α) : set1 f j v j = v := if_pos rfl
theorem set1_ne {α : Type} (f : Nat → α) {i j : Nat} (v : α) (h : i ≠ j) : set1 f j v i = f i := if_neg h
noncomputable def Ab.node (a : Ab) (j : Nat) : Ab := if j ∈ a.ord then a else ⟨a.ord ++ [j], set1 a.np j 0, set1 a.su j []⟩
structure Post (w : World) (Sx : Addr) (news : List (Addr × Obj)) (g : G) (news' : List (Addr × Obj)) (g' : G) : Prop where
 nd : ND news'
 sin : SIn w Sx news' g'
 keep : ∀ p ∈ news, ¬ Own Sx g p.1 → p ∈ news' ∧ ¬ Own Sx g' p.1
theorem Post.refl {w : World} {news : List (Addr × Obj)} {g : G} (hn : ND news) (H : SIn w Sx news g) : Post w Sx news g news g := ⟨hn, H, fun _ hp hf => ⟨hp, hf⟩⟩
theorem Post.trans {w : World} {n1 n2 n3 : List (Addr × Obj)} {g1 g2 g3 : G} (h : Post w Sx n1 g1 n2 g2) (k : Post w Sx n2 g2 n3 g3) : Post w Sx n1 g1 n3 g3 :=
 ⟨k.nd, k.sin, fun p hp hf => k.keep p (h.keep p hp hf).1 (h.keep p hp hf).2⟩
noncomputable def G.addNode (g : G) (j : Nat) (I d l : Addr) : G := { g with ord := g.ord ++ [j], I := set1 g.I j I, dI := set1 g.dI j d, Lx := set1 g.Lx j l, np := set1 g.np j 0, su := set1 g.su j [] }
theorem sin_new {w : World} {news : List (Addr × Obj)} {g : G} {j : Nat} {I' d' l' : Addr} {oD oD' : Obj} {t1 t2 : Tok} (H : SIn w Sx news g) (hnd : ND news) (hj : j ∉ g.ord) (hj5 : j < 5) (hD : (g.D, oD) ∈ news)
  (hdo : oD'.IsDictOf (SK w) (stored (g.ord.map fun j => (fname j, Value.ref (g.I j))) (fname j) (.ref I')))
  (l1 : ∀ p ∈ news, p.1 < d') (l2 : @LT.lt Nat _ d' I') (l3 : @LT.lt Nat _ I' l') :
  Post w Sx news g ((l', listOf #[] 0) :: (I', nodeObj d' (fname j) t1 0 t2 l') :: (d', dictOf [] 0) :: rep g.D oD' news) (g.addNode j I' d' l') := by
 have a1 : ∀ {a o}, (a, o) ∈ news → @LT.lt Nat _ a d' := fun hm => l1 _ hm
 have up : ∀ p ∈ rep g.D oD' news, @LT.lt Nat _ p.1 d' := fun p hp => by
  have : p.1 ∈ (rep g.D oD' news).map (·.1) := List.mem_map_of_mem hp
  rw [rep_keys] at this
  refine e1_2 (List.mem_map.mp this) ?_
  intro q hq e
  exact e ▸ l1 q hq
 refine e1_2 H.tab ?_
 intro oD2 hD2 hk
 have hoD : oD = oD2 := hnd.uniq hD hD2
 have hcD : oD.cls = .type "dict" := by
  refine e2_2 hk ?_
  (try clear hk); intro _ _ he _
  rw [hoD]; exact he.1
 have neD : ∀ {a : Addr} {o : Obj}, (a, o) ∈ news → o.cls ≠ .type "dict" → a ≠ g.D := fun hm hc =>
  hnd.neC hm hD fun e => hc (e.trans hcD)
 have old : ∀ {p : Addr × Obj}, p ∈ news → p.1 ≠ g.D → p ∈ (l', listOf #[] 0) :: (I', nodeObj d' (fname j) t1 0 t2 l') :: (d', dictOf [] 0) :: rep g.D oD' news := fun hm hn =>
  .tail _ (.tail _ (.tail _ (mem_rep_ne' hm hn)))
 have hst : stored (g.ord.map fun j => (fname j, Value.ref (g.I j))) (fname j) (.ref I') = (g.addNode j I' d' l').ord.map fun i => (fname i, Value.ref ((g.addNode j I' d' l').I i)) := by
  have hno : ¬ (List.any (g.ord.map fun j => (fname j, Value.ref (g.I j))) (fun kv => decide (kv.1 = fname j))) = true := by
   intro h
   refine e1_2 (List.any_eq_true.mp h) ?_
   intro kv hkv hd
   refine e1_2 (List.mem_map.mp hkv) ?_
   intro i hi hz1
   subst hz1
   have := fname_inj i (H.lo i hi) j hj5 (of_decide_eq_true hd)
   exact hj (this ▸ hi)
  unfold stored
  rw [if_neg hno]
  show _ = (g.ord ++ [j]).map fun i => (fname i, Value.ref (set1 g.I j I' i))
  rw [List.map_append]
  congr 1
  ·exact List.map_congr_left fun i hi => by rw [set1_ne (i := i) (j := j) _ _ (fun e : i = j => hj (e ▸ hi))]
  ·simp
 rw [hst] at hdo
 have nj : ∀ {i : Nat}, i ∈ g.ord → i ≠ j := fun hi e => hj (e ▸ hi)
 have lt2 : @LT.lt Nat _ d' l' := Nat.lt_trans l2 l3
 refine ⟨?_, ?_, ?_⟩
 ·refine ND.cons (ND.cons (ND.cons hnd.rep up) fun p hp => ?_) fun p hp => ?_
  ·rcases List.mem_cons.mp hp with rfl | hp
   ·exact l2
   ·exact Nat.lt_trans (up p hp) l2
  ·rcases List.mem_cons.mp hp with rfl | hp
   ·exact l3
   ·rcases List.mem_cons.mp hp with rfl | hp
    ·exact lt2
    ·exact Nat.lt_trans (up p hp) lt2
 ·refine ⟨old H.self (neD H.self (by simp [instObj])), ?_, ⟨oD', .tail _ (.tail _ (.tail _ (mem_rep_self hD))), hdo⟩, ?_, ?_, ?_, ?_, ?_, ?_, ?_, ?_, H.sm, H.apD, ?_⟩
  ·refine e6_1 H.dict ?_
   intro u1 u2 u3 u4 u5 u6 e
   exact i6_1 u1 u2 u3 u4 u5 u6 (old e H.apD.symm)
  ·intro i hi
   rcases List.mem_append.mp hi with hi | hi
   ·refine e2_1 (H.node i hi) ?_
    intro u1 u2 e
    refine i2_1 u1 u2 ?_
    simp only [G.addNode, set1_ne _ _ (nj hi)]
    exact old e (neD e (by simp))
   ·obtain rfl := List.mem_singleton.mp hi
    refine i2_1 t1 t2 ?_
    simp only [G.addNode, set1_self]
    exact .tail _ (.head _)
  ·intro i hi
   rcases List.mem_append.mp hi with hi | hi
   ·simp only [G.addNode, set1_ne _ _ (nj hi)]
    exact old (H.ndict i hi) (H.apI i hi).symm
   ·obtain rfl := List.mem_singleton.mp hi
    simp only [G.addNode, set1_self]
    exact .tail _ (.tail _ (.head _))
  ·intro i hi
   rcases List.mem_append.mp hi with hi | hi
   ·refine e2_2 (H.list i hi) ?_
    intro vs n hf e
    refine i2_2 vs n ?_ ?_
    ·simp only [G.addNode, set1_ne _ _ (nj hi)]; exact hf
    ·simp only [G.addNode, set1_ne _ _ (nj hi)]
     exact old e (neD e (by simp [W.listOf]))
   ·obtain rfl := List.mem_singleton.mp hi
    refine i2_2 ([]) 0 ?_ ?_
    ·simp only [G.addNode, set1_self]; exact .nil
    ·simp only [G.addNode, set1_self]; exact .head _
  ·intro R js e
   refine e2_2 (H.ready R js e) ?_
   intro vs n hf q
   exact i2_2 vs n hf (old q (neD q (by simp [W.listOf])))
  ·intro i hi
   rcases List.mem_append.mp hi with hi | hi
   ·exact H.lo i hi
   ·obtain rfl := List.mem_singleton.mp hi
    exact hj5
  ·exact List.nodup_append.mpr ⟨H.nodup, List.nodup_cons.mpr ⟨by simp, List.nodup_nil⟩, fun a ha b hb e => by
    obtain rfl := List.mem_singleton.mp hb
    exact hj (e ▸ ha)⟩
  ·intro a ha b hb e
   rcases List.mem_append.mp ha with ha1 | ha1 <;> rcases List.mem_append.mp hb with hb1 | hb1
   ·simp only [G.addNode, set1_ne _ _ (nj ha1), set1_ne _ _ (nj hb1)] at e
    exact H.apart a ha1 b hb1 e
   ·have hbj := List.mem_singleton.mp hb1
    simp only [G.addNode, set1_ne _ _ (nj ha1), hbj, set1_self] at e
    refine e2_2 (H.list a ha1) ?_
    intro _ _ _ q
    exact absurd (a1 q) (Nat.not_lt.mpr (e ▸ Nat.le_of_lt lt2))
   ·have haj := List.mem_singleton.mp ha1
    simp only [G.addNode, set1_ne _ _ (nj hb1), haj, set1_self] at e
    refine e2_2 (H.list b hb1) ?_
    intro _ _ _ q
    exact absurd (a1 q) (Nat.not_lt.mpr (e ▸ Nat.le_of_lt lt2))
   ·rw [List.mem_singleton.mp ha1, List.mem_singleton.mp hb1]
  ·intro R js e i hi
   refine e2_2 (H.ready R js e) ?_
   intro _ _ _ q
   rcases List.mem_append.mp hi with hi | hi
   ·simp only [G.addNode, set1_ne _ _ (nj hi)]
    exact H.apartR R js e i hi
   ·obtain rfl := List.mem_singleton.mp hi
    simp only [G.addNode, set1_self]
    exact fun z => absurd (a1 q) (Nat.not_lt.mpr (z ▸ Nat.le_of_lt lt2))
  ·intro i hi
   rcases List.mem_append.mp hi with hi | hi
   ·simp only [G.addNode, set1_ne _ _ (nj hi)]
    exact H.apI i hi
   ·obtain rfl := List.mem_singleton.mp hi
    simp only [G.addNode, set1_self]
    exact fun z => absurd (a1 hD) (Nat.not_lt.mpr (z ▸ Nat.le_refl _))
 ·intro p hp hf
  refine ⟨old hp fun e => hf (.inr (.inr (.inl e))), ?_⟩
  rintro (e | e | e | ⟨i, hi, e⟩ | e)
  ·exact hf (.inl e)
  ·exact hf (.inr (.inl e))
  ·exact hf (.inr (.inr (.inl e)))
  ·rcases List.mem_append.mp hi with hi | hi
   ·simp only [G.addNode, set1_ne _ _ (nj hi)] at e
    exact hf (.inr (.inr (.inr (.inl ⟨i, hi, e⟩))))
   ·obtain rfl := List.mem_singleton.mp hi
    simp only [G.addNode, set1_self] at e
    have := l1 p hp
    rcases e with e | e | e
    ·exact absurd this (Nat.not_lt.mpr (e ▸ Nat.le_of_lt l2))
    ·exact absurd this (Nat.not_lt.mpr (e ▸ Nat.le_refl _))
    ·exact absurd this (Nat.not_lt.mpr (e ▸ Nat.le_of_lt lt2))
  ·exact hf (.inr (.inr (.inr (.inr e))))
theorem not_own {w : World} {news : List (Addr × Obj)} {g : G} {Dt : Addr} (H : SIn w Sx news g) (l0 : ∀ p ∈ news, p.1 ≠ Dt) : ¬ Own Sx g Dt := by
 rintro (e | e | e | ⟨i, hi, e⟩ | ⟨R, js', e1, e⟩)
 ·exact l0 _ H.self e.symm
 ·refine e6_1 H.dict ?_
  intro _ _ _ _ _ _ q
  exact l0 _ q e.symm
 ·refine e1_2 H.tab ?_
  intro _ q _
  exact l0 _ q e.symm
 ·refine e2_1 (H.node i hi) ?_
  intro _ _ q1
  refine e2_2 (H.list i hi) ?_
  intro _ _ _ q2
  rcases e with e | e | e
  ·exact l0 _ q1 e.symm
  ·exact l0 _ (H.ndict i hi) e.symm
  ·exact l0 _ q2 e.symm
 ·refine e2_2 (H.ready R js' e1) ?_
  intro _ _ _ q
  exact l0 _ q e.symm
theorem not_own_fresh {w : World} {news : List (Addr × Obj)} {g : G} {Dt : Addr} (H : SIn w Sx news g) (lt₁ : ∀ p ∈ news, p.1 < Dt) : ¬ Own Sx g Dt :=
 not_own H fun p hp => Nat.ne_of_lt (lt₁ p hp)
theorem tab_cls {w : World} {news : List (Addr × Obj)} {g : G} {oD : Obj} (H : SIn w Sx news g) (hnd : ND news) (hD : (g.D, oD) ∈ news) : oD.cls = .type "dict" := by
 refine e1_2 H.tab ?_
 intro oD2 hD2 hk
 refine e2_2 hk ?_
 (try clear hk); intro _ _ he _
 rw [hnd.uniq hD hD2]; exact he.1
theorem node_inj {w : World} {news : List (Addr × Obj)} {g : G} (H : SIn w Sx news g) (hnd : ND news) {i j : Nat} (hi : i ∈ g.ord) (hj : j ∈ g.ord) (e : g.I i = g.I j) : i = j := by
 refine e2_1 (H.node i hi) ?_
 intro _ _ q1
 refine e2_1 (H.node j hj) ?_
 intro _ _ q2
 rw [e] at q1
 have := hnd.uniq q1 q2
 refine fname_inj i (H.lo i hi) j (H.lo j hj) ?_
 injection this with _ _ _ h4
 injection h4 with h4
 injection h4 with h5
 injection h5 with h5
 injection h5
theorem sin_np {w : World} {news : List (Addr × Obj)} {g : G} {k : Nat} {v : Int} {t1 t2 : Tok} (H : SIn w Sx news g) (hnd : ND news) (hk : k ∈ g.ord) :
  Post w Sx news g (rep (g.I k) (nodeObj (g.dI k) (fname k) t1 v t2 (g.Lx k)) news) { g with np := set1 g.np k v } := by
 refine e2_1 (H.node k hk) ?_
 intro u1 u2 hm
 have ne : ∀ {p : Addr × Obj}, p ∈ news → p.2.cls ≠ .ref 47 → p ∈ rep (g.I k) (nodeObj (g.dI k) (fname k) t1 v t2 (g.Lx k)) news := fun {p} hp hc =>
  mem_rep_ne' hp (hnd.neC (o := p.2) hp hm hc)
 refine ⟨hnd.rep, ⟨ne H.self (by simp [instObj]), ?_, ?_, ?_, fun i hi => ne (H.ndict i hi) (by simp [dictOf]), ?_, ?_, H.lo, H.nodup, H.apart, H.apartR, H.sm, H.apD, H.apI⟩, fun p hp hf => ⟨?_, hf⟩⟩
 ·refine e6_1 H.dict ?_
  intro a1 a2 a3 a4 a5 a6 e
  exact i6_1 a1 a2 a3 a4 a5 a6 (ne e (by simp [dictOf]))
 ·refine e1_2 H.tab ?_
  intro oD e q
  exact i1_2 oD (ne e (by rw [tab_cls H hnd e]; simp)) q
 ·intro i hi
  by_cases e : i = k
  ·subst e
   refine i2_1 t1 t2 ?_
   simp only [set1_self]
   exact mem_rep_self hm
  ·refine e2_1 (H.node i hi) ?_
   intro a1 a2 q
   refine i2_1 a1 a2 ?_
   simp only [set1_ne _ _ e]
   exact mem_rep_ne q fun z => e (node_inj H hnd hi hk z)
 ·intro i hi
  refine e2_2 (H.list i hi) ?_
  intro vs n q e
  exact i2_2 vs n q (ne e (by simp [W.listOf]))
 ·intro R js e
  refine e2_2 (H.ready R js e) ?_
  intro vs n q r
  exact i2_2 vs n q (ne r (by simp [W.listOf]))
 ·exact mem_rep_ne' hp fun e => hf (.inr (.inr (.inr (.inl ⟨k, hk, .inl e⟩))))
theorem sin_su {w : World} {news : List (Addr × Obj)} {g : G} {j : Nat} {vs : List Value} {js : List Nat} {n : Nat} (H : SIn w Sx news g) (hnd : ND news) (hj : j ∈ g.ord) (hf : FilesAre vs js) :
  Post w Sx news g (rep (g.Lx j) (W.listOf vs.toArray n) news) { g with su := set1 g.su j js } := by
 refine e2_2 (H.list j hj) ?_
 intro us m hus hm
 have ne : ∀ {p : Addr × Obj}, p ∈ news → p.2.cls ≠ .type "list" → p ∈ rep (g.Lx j) (W.listOf vs.toArray n) news := fun {p} hp hc =>
  mem_rep_ne' hp (hnd.neC (o := p.2) hp hm hc)
 refine ⟨hnd.rep, ⟨ne H.self (by simp [instObj]), ?_, ?_, ?_, fun i hi => ne (H.ndict i hi) (by simp [dictOf]), ?_, ?_, H.lo, H.nodup, H.apart, H.apartR, H.sm, H.apD, H.apI⟩, fun p hp hf => ⟨?_, hf⟩⟩
 ·refine e6_1 H.dict ?_
  intro a1 a2 a3 a4 a5 a6 e
  exact i6_1 a1 a2 a3 a4 a5 a6 (ne e (by simp [dictOf]))
 ·refine e1_2 H.tab ?_
  intro oD e q
  exact i1_2 oD (ne e (by rw [tab_cls H hnd e]; simp)) q
 ·intro i hi
  refine e2_1 (H.node i hi) ?_
  intro a1 a2 q
  exact i2_1 a1 a2 (ne q (by simp))
 ·intro i hi
  by_cases e : i = j
  ·subst e
   refine i2_2 vs n ?_ (mem_rep_self hm)
   simp only [set1_self]
   exact hf
  ·refine e2_2 (H.list i hi) ?_
   intro us' m' q r
   refine i2_2 us' m' ?_ (mem_rep_ne r fun z => e (H.apart i hi j hj z))
   simp only [set1_ne _ _ e]
   exact q
 ·intro R js e
  refine e2_2 (H.ready R js e) ?_
  intro us' m' q r
  exact i2_2 us' m' q (mem_rep_ne r (H.apartR R js e j hj))
 ·exact mem_rep_ne' hp fun e => hf (.inr (.inr (.inr (.inl ⟨j, hj, .inr (.inr e)⟩))))
theorem sin_rdy {w : World} {news : List (Addr × Obj)} {g : G} {R : Addr} {vs : List Value} {js0 js : List Nat} {n : Nat} (H : SIn w Sx news g) (hnd : ND news) (hr : g.rdy = some (R, js0)) (hf : FilesAre vs js) :
  Post w Sx news g (rep R (W.listOf vs.toArray n) news) { g with rdy := some (R, js) } := by
 refine e2_2 (H.ready R js0 hr) ?_
 intro us m hus hm
 have ne : ∀ {p : Addr × Obj}, p ∈ news → p.2.cls ≠ .type "list" → p ∈ rep R (W.listOf vs.toArray n) news := fun {p} hp hc =>
  mem_rep_ne' hp (hnd.neC (o := p.2) hp hm hc)
 have hown : ∀ b, Own Sx { g with rdy := some (R, js) } b → Own Sx g b := by
  rintro b (e | e | e | e | ⟨R', js', e1, e⟩)
  ·exact .inl e
  ·exact .inr (.inl e)
  ·exact .inr (.inr (.inl e))
  ·exact .inr (.inr (.inr (.inl e)))
  ·cases e1
   exact .inr (.inr (.inr (.inr ⟨R, js0, hr, e⟩)))
 have hrv : g.rdyV = ({ g with rdy := some (R, js) } : G).rdyV := by simp only [G.rdyV, hr]
 refine ⟨hnd.rep, ⟨ne H.self (by simp [instObj]), ?_, ?_, ?_, fun i hi => ne (H.ndict i hi) (by simp [dictOf]), ?_, ?_, H.lo, H.nodup, H.apart, ?_, H.sm, H.apD, H.apI⟩, fun p hp hf => ⟨?_, fun q => hf (hown _ q)⟩⟩
 ·refine e6_1 H.dict ?_
  intro a1 a2 a3 a4 a5 a6 e
  rw [hrv] at e
  exact i6_1 a1 a2 a3 a4 a5 a6 (ne e (by simp [dictOf]))
 ·refine e1_2 H.tab ?_
  intro oD e q
  exact i1_2 oD (ne e (by rw [tab_cls H hnd e]; simp)) q
 ·intro i hi
  refine e2_1 (H.node i hi) ?_
  intro a1 a2 q
  exact i2_1 a1 a2 (ne q (by simp))
 ·intro i hi
  refine e2_2 (H.list i hi) ?_
  intro us' m' q r
  exact i2_2 us' m' q (mem_rep_ne r fun z => H.apartR R js0 hr i hi z.symm)
 ·intro R' js' e
  cases e
  exact i2_2 vs n hf (mem_rep_self hm)
 ·intro R' js' e i hi
  cases e
  exact H.apartR R js0 hr i hi
 ·exact mem_rep_ne' hp fun e => hf (.inr (.inr (.inr (.inr ⟨R, js0, hr, e⟩))))
theorem sin_dict {w : World} {news : List (Addr × Obj)} {g : G} {rdy : Option (Addr × List Nat)} {p n : Int} {t1 t2 t3 t4 tp tn : Tok} (H : SIn w Sx news g) (hnd : ND news)
  (hrd : rdy = g.rdy ∨ ∃ R js vs k, rdy = some (R, js) ∧ FilesAre vs js ∧ (R, W.listOf vs.toArray k) ∈ news ∧ ∀ j ∈ g.ord, R ≠ g.Lx j)
 :
  ND (rep g.dS (sdict w t1 t2 t3 t4 g.D ({ g with rdy := rdy, po := p, nf := n } : G).rdyV p tp n tn) news) ∧
  SIn w Sx (rep g.dS (sdict w t1 t2 t3 t4 g.D ({ g with rdy := rdy, po := p, nf := n } : G).rdyV p tp n tn) news) { g with rdy := rdy, po := p, nf := n } := by
 refine e6_1 H.dict ?_
 intro a1 a2 a3 a4 a5 a6 hm
 have ne : ∀ {q : Addr × Obj}, q ∈ news → q.2.cls ≠ .type "dict" → q ∈ rep g.dS (sdict w t1 t2 t3 t4 g.D ({ g with rdy := rdy, po := p, nf := n } : G).rdyV p tp n tn) news := fun {q} hq hc =>
  mem_rep_ne' hq (hnd.neC (o := q.2) hq hm hc)
 refine ⟨hnd.rep, ⟨ne H.self (by simp [instObj]), ⟨t1, t2, t3, t4, tp, tn, mem_rep_self hm⟩, ?_, ?_, ?_, ?_, ?_, H.lo, H.nodup, H.apart, ?_, H.sm, H.apD, H.apI⟩⟩
 ·refine e1_2 H.tab ?_
  intro oD e q
  exact i1_2 oD (mem_rep_ne e H.apD) q
 ·intro i hi
  refine e2_1 (H.node i hi) ?_
  intro b1 b2 q
  exact i2_1 b1 b2 (ne q (by simp))
 ·intro i hi
  refine mem_rep_ne (H.ndict i hi) (hnd.ne (H.ndict i hi) hm ?_)
  intro e
  injection e with _ _ e3 _
  injection e3 with e3
  simp at e3
 ·intro i hi
  refine e2_2 (H.list i hi) ?_
  intro us' m' q r
  exact i2_2 us' m' q (ne r (by simp [W.listOf]))
 ·intro R js e
  rcases hrd with hrd | ⟨R', js', vs, k, e1, e2, e3, _⟩
  ·refine e2_2 (H.ready R js (hrd ▸ e)) ?_
   intro us' m' q r
   exact i2_2 us' m' q (ne r (by simp [W.listOf]))
  ·rw [show rdy = some (R', js') from e1] at e
   cases e
   exact i2_2 vs k e2 (ne e3 (by simp [W.listOf]))
 ·intro R js e
  rcases hrd with hrd | ⟨R', js', vs, k, e1, e2, e3, e4⟩
  ·exact H.apartR R js (hrd ▸ e)
  ·rw [show rdy = some (R', js') from e1] at e
   cases e
   exact e4
theorem SIn.cons {w : World} {news : List (Addr × Obj)} {g : G} {q : Addr × Obj} (H : SIn w Sx news g) : SIn w Sx (q :: news) g := H.of fun _ hp _ => .tail _ hp
theorem SIn.drp {w : World} {news : List (Addr × Obj)} {g : G} {I : Addr} (H : SIn w Sx news g) (hI : ¬ Own Sx g I) : SIn w Sx (drp I news) g := H.of fun p hp ho => mem_drp.mpr ⟨hp, fun e => hI (e ▸ ho)⟩
theorem Post.drp {w : World} {news news' : List (Addr × Obj)} {g g' : G} {I : Addr} {o : Obj} (P : Post w Sx ((I, o) :: news) g news' g') (hn : ND ((I, o) :: news)) (hI : ¬ Own Sx g I) : Post w Sx news g (drp I news') g' where
 nd := P.nd.drp
 sin := P.sin.drp (P.keep _ (.head _) hI).2
 keep := fun p hp hf => ⟨mem_drp.mpr ⟨(P.keep p (.tail _ hp) hf).1, hn.head p hp⟩, (P.keep p (.tail _ hp) hf).2⟩
theorem Post.conv {w : World} {news news' : List (Addr × Obj)} {g g' : G} {q : Addr × Obj} (P : Post w Sx (q :: news) g news' g') : Post w Sx news g news' g' := ⟨P.nd, P.sin, fun p hp hf => P.keep p (.tail _ hp) hf⟩
theorem post_np {w : World} {n0 n1 : List (Addr × Obj)} {g g1 : G} {k : Nat} {v : Int} {t1 t2 : Tok} {h₀ h : Heap} {L : Addr} (P : Post w Sx n0 g n1 g1) (hk : k ∈ g1.ord) (_N : News h₀ L h (rep (g1.I k) (nodeObj (g1.dI k) (fname k) t1 v t2 (g1.Lx k)) n1)) :
  Post w Sx n0 g (rep (g1.I k) (nodeObj (g1.dI k) (fname k) t1 v t2 (g1.Lx k)) n1) { g1 with np := set1 g1.np k v } := P.trans (sin_np P.sin P.nd hk)
theorem post_su {w : World} {n0 n1 : List (Addr × Obj)} {g g1 : G} {j k : Nat} {vs : List Value} {js : List Nat} {n : Nat} {t : Tok} {h₀ h : Heap} {L : Addr} (P : Post w Sx n0 g n1 g1) (hj : j ∈ g1.ord) (hf : FilesAre vs js) (_N : News h₀ L h (rep (g1.Lx j) (W.listOf (vs.toArray.push (.str (fname k) t)) (n + 1)) n1)) :
  Post w Sx n0 g (rep (g1.Lx j) (W.listOf (vs.toArray.push (.str (fname k) t)) (n + 1)) n1) { g1 with su := set1 g1.su j (js ++ [k]) } := by
 rw [List.push_toArray]
 exact P.trans (sin_su P.sin P.nd hj (hf.snoc k t))
theorem post_rdy {w : World} {n0 n1 : List (Addr × Obj)} {g g1 : G} {R : Addr} {vs : List Value} {js0 js : List Nat} {n : Nat} {h₀ h : Heap} {L : Addr} (P : Post w Sx n0 g n1 g1) (hr : g1.rdy = some (R, js0)) (hf : FilesAre vs js) (_N : News h₀ L h (rep R (W.listOf vs.toArray n) n1)) :
  Post w Sx n0 g (rep R (W.listOf vs.toArray n) n1) { g1 with rdy := some (R, js) } := P.trans (sin_rdy P.sin P.nd hr hf)
theorem post_dict {w : World} {n0 n1 : List (Addr × Obj)} {g g1 : G} {p n : Int} {t1 t2 t3 t4 tp tn : Tok} {rv : Value} {h₀ h : Heap} {L : Addr} (P : Post w Sx n0 g n1 g1) (hrv : g1.rdyV = rv) (_N : News h₀ L h (rep g1.dS (sdict w t1 t2 t3 t4 g1.D rv p tp n tn) n1)) :
  Post w Sx n0 g (rep g1.dS (sdict w t1 t2 t3 t4 g1.D rv p tp n tn) n1) { g1 with po := p, nf := n } := by
 subst hrv
 have z := sin_dict (t1 := t1) (t2 := t2) (t3 := t3) (t4 := t4) (tp := tp) (tn := tn) (p := p) (n := n) P.sin P.nd (rdy := g1.rdy) (.inl rfl)
 exact P.trans ⟨z.1, z.2, fun q hq hf => ⟨mem_rep_ne' hq fun e => hf (.inr (.inl e)), hf⟩⟩
theorem post_npE {w : World} {n0 n1 : List (Addr × Obj)} {g g1 : G} {k : Nat} {v : Int} {t1 t2 : Tok} {h₀ h : Heap} {L : Addr} (P : Post w Sx n0 g n1 g1) (hk : k ∈ g1.ord) (N : News h₀ L h (rep (g1.I k) (nodeObj (g1.dI k) (fname k) t1 v t2 (g1.Lx k)) n1)) :
  ∃ n2, News h₀ L h n2 ∧ Post w Sx n0 g n2 { g1 with np := set1 g1.np k v } ∧ ∀ p ∈ n1, p.1 ≠ g1.I k → p ∈ n2 := ⟨_, N, post_np P hk N, fun _ hp hn => mem_rep_ne' hp hn⟩
theorem post_rdyE {w : World} {n0 n1 : List (Addr × Obj)} {g g1 : G} {R : Addr} {vs : List Value} {js0 js : List Nat} {n k : Nat} {t : Tok} {h₀ h : Heap} {L : Addr} (P : Post w Sx n0 g n1 g1) (hr : g1.rdy = some (R, js0)) (hf : FilesAre vs js) (N : News h₀ L h (rep R (W.listOf (vs.toArray.push (.str (fname k) t)) n) n1)) :
  ∃ n2, News h₀ L h n2 ∧ Post w Sx n0 g n2 { g1 with rdy := some (R, js ++ [k]) } ∧ ∀ p ∈ n1, p.1 ≠ R → p ∈ n2 := by
 rw [List.push_toArray] at N
 exact i1_3 _ N (post_rdy P hr (hf.snoc k t) N) (fun _ hp hn => mem_rep_ne' hp hn)
theorem post_dictE {w : World} {n0 n1 : List (Addr × Obj)} {g g1 : G} {p n : Int} {t1 t2 t3 t4 tp tn : Tok} {rv : Value} {h₀ h : Heap} {L : Addr} (P : Post w Sx n0 g n1 g1) (hrv : g1.rdyV = rv) (N : News h₀ L h (rep g1.dS (sdict w t1 t2 t3 t4 g1.D rv p tp n tn) n1)) :
  ∃ n2, News h₀ L h n2 ∧ Post w Sx n0 g n2 { g1 with po := p, nf := n } ∧ ∀ q ∈ n1, q.1 ≠ g1.dS → q ∈ n2 := ⟨_, N, post_dict P hrv N, fun _ hp hn => mem_rep_ne' hp hn⟩
end
section
theorem li_next : typeLookup (.type "list_iterator") "__next__" = pure (some (.builtin "list_iterator.__next__")) := by rw [typeLookup_type, builtinLookup_eq_fast]; kernel_rfl
theorem li_ga : typeLookup (.type "list_iterator") "__getattribute__" = pure (some (.builtin "object.__getattribute__")) := by rw [typeLookup_type, builtinLookup_eq_fast]; kernel_rfl
theorem li_gattr : typeLookup (.type "list_iterator") "__getattr__" = pure none := by rw [typeLookup_type, builtinLookup_eq_fast]; kernel_rfl
theorem li_tnext : typeOf (.builtin "list_iterator.__next__") = pure (.type "wrapper_descriptor") := by show builtinType _ = _; rw [builtinType_eq_fast]; kernel_rfl
theorem wd_get : typeLookup (.type "wrapper_descriptor") "__get__" = pure (some (.builtin "wrapper_descriptor.__get__")) := by rw [typeLookup_type, builtinLookup_eq_fast]; kernel_rfl
theorem wd_set : typeLookup (.type "wrapper_descriptor") "__set__" = pure none := by rw [typeLookup_type, builtinLookup_eq_fast]; kernel_rfl
theorem wd_del : typeLookup (.type "wrapper_descriptor") "__delete__" = pure none := by rw [typeLookup_type, builtinLookup_eq_fast]; kernel_rfl
theorem wd_plain : plainId "wrapper_descriptor.__get__" = true := by decide +kernel
theorem wd_entry : entryFor table "wrapper_descriptor.__get__" = some Builtin.«wrapper_descriptor.__get__» := entryFor_of_tree (by kernel_rfl)
theorem wd_check (it : Addr) : checkBuiltinCall "wrapper_descriptor.__get__" ⟨[.builtin "list_iterator.__next__", .ref it, .type "list_iterator"], []⟩ = pure () := by kernel_rfl
noncomputable abbrev liObj (l : Addr) (i : Nat) : Obj := { cls := .type "list_iterator", data := .fields #[.ref l, .int i 0] }
noncomputable abbrev mwObj (it : Addr) : Obj := { cls := .type "method-wrapper", data := .fields #[.builtin "list_iterator.__next__", .ref it] }
theorem li_sub : isSubtype (.type "list_iterator") (.type (".".intercalate ("list_iterator.__next__".cutAt '.').dropLast)) = pure true := by rw [isSubtype_type]; kernel_rfl
theorem meets_ga (it l : Addr) (i : Nat) (u : Tok) :
  Meets (Builtin.«object.__getattribute__» ⟨[.ref it, .str "__next__" u], []⟩) (fun A R s => s.heap.get? it = some (liObj l i) ∧ R (.ok (.ret (.ref s.heap.objs.size))) { s with heap := s.heap.push (mwObj it) }) :=
 Meets.of_wp fun prog w A R s hs => by
  obtain ⟨hp, g, d, tk, os⟩ := s
  refine e0_2 hs ?_
  (try clear hs); intro hx hs
  have hT : (⟨hp, g, d, tk, os⟩ : Shared).TypeIs (.ref it) "list_iterator" := ⟨_, hx, rfl⟩
  have f1 := li_next
  have f2 := li_tnext
  have f3 := wd_get
  have f4 := wd_set
  have f5 := wd_del
  unfold Builtin.«object.__getattribute__»
  repeat (any_goals (first | assumption | wp_step))
  refine codeAny_call_builtin (b := Builtin.«wrapper_descriptor.__get__») wd_plain wd_entry (wpAny_of_eq (wd_check it) ?_)
  unfold Builtin.«wrapper_descriptor.__get__»
  repeat (any_goals (first | assumption | wp_step))
  refine wpAny_of_eq li_sub ?_
  dsimp only
  refine wpAny_ite_false rfl (wpAny_pure ?_)
  repeat (any_goals (first | assumption | wp_step))
  all_goals exact ⟨_, rfl, hs⟩
theorem li_slotga : Slot "list_iterator" "__getattribute__" "object.__getattribute__" := by
 first
 | exact .of (owner := "object") (n := "__getattribute__") li_ga (by decide +kernel) (by decide +kernel) (by decide +kernel) (by first | exact .inl (by decide +kernel) | exact .inr (by decide +kernel)) (by rw [isSubtype_type]; kernel_rfl)
theorem li_gaentry : entryFor table "object.__getattribute__" = some Builtin.«object.__getattribute__» := entryFor_of_tree (by kernel_rfl)
theorem li_gaargs (a b : Value) : argsOk "object.__getattribute__" ⟨[a, b], []⟩ := by unfold argsOk; kernel_rfl
theorem getAttr_next {prog : Program} {w : World} {A : Around} {E : Value → Shared → Prop} {s : Shared} {it l : Addr} {i : Nat} {Q : Value → Shared → Prop}
  (hx : s.heap.get? it = some (liObj l i)) (h : Q (.ref s.heap.objs.size) { s with heap := s.heap.push (mwObj it), toks := s.toks + 1 }) :
  wpAny (model prog w) A (getAttr (.ref it) (Str.ofString "__next__") true) Q E s := by
 obtain ⟨hp, g, d, tk, os⟩ := s
 have hT : ∀ tk', (⟨hp, g, d, tk', os⟩ : Shared).TypeIs (.ref it) "list_iterator" := fun _ => ⟨_, hx, rfl⟩
 have f3 := li_ga
 have f4 := li_slotga.bind (.ref it)
 have f5 := li_gattr
 unfold getAttr getAttrBy
 repeat (any_goals (first | assumption | exact hT _ | ((with_reducible show wpAny _ _ (call (Value.builtin "object.__getattribute__") _ _) _ _ _); refine call_meets li_slotga (hT _) li_gaentry (li_gaargs _ _) (meets_ga it l i _) ⟨hx, ?_⟩) | wp_step))
 show wpAny _ _ (handedOut _) _ _ _
 unfold handedOut
 repeat (any_goals (first | assumption | wp_step))
theorem li_bound (it : Addr) : checkBoundCall "list_iterator.__next__" ⟨[.ref it], []⟩ = pure () := by unfold checkBoundCall; kernel_rfl
theorem call_mw_core {prog : Program} {w : World} {A : Around} {s : Shared} {it mw : Addr} {R : Result → Shared → Prop}
  (hm : s.heap.get? mw = some (mwObj it)) (h : codeAny (model prog w) A (.builtin "list_iterator.__next__" ⟨[.ref it], []⟩) R s) :
  codeAny (model prog w) A (.call (.ref mw) ⟨[], []⟩) R s := by
 refine codeAny_of_tree ?_
 show wpAny _ _ (callAny (.ref mw) ⟨[], []⟩) _ _ _
 unfold callAny
 refine wpAny_bind (wpAny_load hm ?_)
 dsimp only
 rw [if_pos (by decide)]
 exact wpAny_bind (wpAny_of_eq (li_bound it) (wpAny_pure ⟨Code.quiet_builtin _ (by decide +kernel), h⟩))
section
variable {prog : Program} {w : World} {A : Around} {E : Value → Shared → Prop} {s : Shared} {it l : Addr} {i : Nat} {items : Array Value}
theorem li_item {x : Value} {Q : Fin → Shared → Prop} (hit : s.heap.get? it = some (liObj l i)) (hl : s.heap.IsList l items) (hx : items[i]? = some x)
  (h : Q (.done (.ret x)) { s with heap := s.heap.update it (Obj.mapFields (·.setIfInBounds 1 (rawInt (i + 1)))) }) : wpAny (model prog w) A (Builtin.«list_iterator.__next__» ⟨[.ref it], []⟩) Q E s := by
 obtain ⟨ol, hol, _, nl, hdl⟩ := hl
 show wpAny _ _ (field (.ref it) 0 >>= _) _ _ s
 refine wpAny_bind (wpAny_field hit rfl (x := .ref l) rfl ?_)
 show wpAny _ _ (if (Value.ref l == Value.none) = true then _ else _) _ _ s
 rw [if_neg (show ¬ ((Value.ref l == Value.none) = true) from Bool.false_ne_true)]
 show wpAny _ _ (field (.ref it) 1 >>= _) _ _ s
 refine wpAny_bind (wpAny_field hit rfl (x := .int i 0) rfl ?_)
 show wpAny _ _ (seqItems? (.ref l) >>= _) _ _ s
 refine wpAny_bind (wpAny_seqItems hol hdl ?_)
 simp only [Int.toNat_natCast, hx]
 exact wpAny_bind (wpAny_setField hit rfl (by simp) (wpAny_pure h))
theorem li_end {Q : Fin → Shared → Prop} (hh : A.handled = none) (hit : s.heap.get? it = some (liObj l i)) (hl : s.heap.IsList l items) (hx : items[i]? = none)
  (h : ∀ h' e, Heap.MadeExc (s.heap.update it (Obj.mapFields (·.setIfInBounds 0 .none))) h' e "StopIteration" [] → E (.ref e) { s with heap := h' }) : wpAny (model prog w) A (Builtin.«list_iterator.__next__» ⟨[.ref it], []⟩) Q E s := by
 obtain ⟨ol, hol, _, nl, hdl⟩ := hl
 show wpAny _ _ (field (.ref it) 0 >>= _) _ _ s
 refine wpAny_bind (wpAny_field hit rfl (x := .ref l) rfl ?_)
 show wpAny _ _ (if (Value.ref l == Value.none) = true then _ else _) _ _ s
 rw [if_neg (show ¬ ((Value.ref l == Value.none) = true) from Bool.false_ne_true)]
 show wpAny _ _ (field (.ref it) 1 >>= _) _ _ s
 refine wpAny_bind (wpAny_field hit rfl (x := .int i 0) rfl ?_)
 show wpAny _ _ (seqItems? (.ref l) >>= _) _ _ s
 refine wpAny_bind (wpAny_seqItems hol hdl ?_)
 simp only [Int.toNat_natCast, hx]
 refine wpAny_bind (wpAny_rule (wpAny_bind (wpAny_setField hit rfl (by simp) ?_)))
 show wpAny _ _ (newExc (.type "StopIteration") [] >>= _) _ _ _
 refine wpAny_bind ?_
 simp only [newExc, newTuple]
 refine wpAny_bind (wpAny_newObj_type ?_ (by size_fits))
 refine wpAny_bind (m := firstArgMember _ _) (wpAny_of_eq (a := Value.none) (by first | rfl | (simp only [firstArgMember]; rfl)) ?_)
 refine wpAny_newObj_type ?_ (by size_fits)
 simp only [raiseNew]
 refine wpAny_bind (wpAny_handled ?_)
 rw [hh]
 refine wpAny_bind (wpAny_pure (wpAny_throw ?_))
 refine h _ _ ⟨fun b o hb => Heap.get?_push_of_some _ (Heap.get?_push_of_some _ hb), Heap.get?_none_of_le (by simp), (s.heap.update it (Obj.mapFields (·.setIfInBounds 0 .none))).objs.size, ?_, Heap.get?_none_of_le (Nat.le_refl _), ?_⟩
 ·exact Heap.get?_push_size _ rfl
 ·exact Heap.get?_push_of_some _ (Heap.get?_push_size _ rfl)
variable {h₀ : Heap} {L : Addr} {m : Str → Option Value} {news : List (Addr × Obj)} {mw : Addr} {vs : List Value} {n : Nat}
theorem li_set (l : Addr) (i : Nat) : Obj.mapFields (·.setIfInBounds 1 (rawInt (i + 1))) (liObj l i) = liObj l (i + 1) := by
 unfold liObj Obj.mapFields rawInt
 simp
noncomputable def liDone (i : Nat) : Obj := { cls := .type "list_iterator", data := .fields #[.none, .int i 0] }
theorem li_set0 (l : Addr) (i : Nat) : Obj.mapFields (·.setIfInBounds 0 .none) (liObj l i) = liDone i := by
 unfold liObj Obj.mapFields liDone
 simp
theorem call_mw_item {t : Value} {Q : Value → Shared → Prop} (F : Fr h₀ L s.heap m) (N : News h₀ L s.heap news) (hm : (mw, mwObj it) ∈ news) (hi : (it, liObj l i) ∈ news) (hl : (l, W.listOf vs.toArray n) ∈ news) (hx : vs[i]? = some t)
  (h : ∀ h', Fr h₀ L h' m → News h₀ L h' (rep it (liObj l (i + 1)) news) → Q t { s with heap := h' }) : wpAny (model prog w) A (call (.ref mw) []) Q E s := by
 refine wpAny_call (call_mw_core (N _ hm).1 (codeAny_builtin entry_listiter_next ?_))
 refine li_item (N _ hi).1 (items := vs.toArray) ⟨_, (N _ hl).1, rfl, n, rfl⟩ (by rw [List.getElem?_toArray]; exact hx) ?_
 have N' := rep_update (f := Obj.mapFields (·.setIfInBounds 1 (rawInt (i + 1)))) N hi (by rw [li_set]; rfl)
 rw [li_set] at N'
 exact h _ (F.change (Heap.SameBut.update ..) (N _ hi).2.1 (N _ hi).2.2) N'
theorem call_mw_end {Q : Value → Shared → Prop} (hh : A.handled = none) (F : Fr h₀ L s.heap m) (N : News h₀ L s.heap news) (hm : (mw, mwObj it) ∈ news) (hi : (it, liObj l i) ∈ news) (hl : (l, W.listOf vs.toArray n) ∈ news) (hx : vs[i]? = none)
  (h : ∀ h₁ h' e, Fr h₀ L h₁ m → News h₀ L h₁ (rep it (liDone i) news) → Heap.MadeExc h₁ h' e "StopIteration" [] → E (.ref e) { s with heap := h' }) : wpAny (model prog w) A (call (.ref mw) []) Q E s := by
 refine wpAny_call (call_mw_core (N _ hm).1 (codeAny_builtin entry_listiter_next ?_))
 refine li_end (by exact hh) (N _ hi).1 (items := vs.toArray) ⟨_, (N _ hl).1, rfl, n, rfl⟩ (by rw [List.getElem?_toArray]; exact hx) fun h' e hx => ?_
 have N' := rep_update (f := Obj.mapFields (·.setIfInBounds 0 .none)) N hi (by rw [li_set0]; rfl)
 rw [li_set0] at N'
 exact h _ h' e (F.change (Heap.SameBut.update ..) (N _ hi).2.1 (N _ hi).2.2) N' hx
theorem next_of {Q : Value → Shared → Prop} (F : Fr h₀ L s.heap m) (N : News h₀ L s.heap news) (hi : (it, liObj l i) ∈ news)
  (h : ∀ M h', Fr h₀ L h' m → News h₀ L h' ((M, mwObj it) :: news) → (∀ p ∈ news, p.1 < M) → Q (.ref M) { s with heap := h', toks := s.toks + 1 }) :
  wpAny (model prog w) A (getAttr (.ref it) (Str.ofString "__next__") true) Q E s :=
 getAttr_next (N _ hi).1 (h _ _ (F.push _) (N.push F _) fun p hp => Heap.lt_size (N p hp).1)
theorem iter_lst {Q : Value → Shared → Prop} (F : Fr h₀ L s.heap m) (N : News h₀ L s.heap news) (hl : (l, W.listOf vs.toArray n) ∈ news)
  (h : ∀ I h', Fr h₀ L h' m → News h₀ L h' ((I, liObj l 0) :: news) → (∀ p ∈ news, p.1 < I) → Q (.ref I) { s with heap := h' }) :
  wpAny (model prog w) A (call (.builtin "iter") [.ref l]) Q E s := by
 refine call_function_entry (by decide +kernel) (by decide +kernel) kdk_entry_iter (kdk_args_iter _) ?_
 unfold Builtin.«iter»
 refine wpAny_bind (m := someArgs "iter" 1 2 _) (wpAny_of_eq (a := [Value.ref l]) (by first | rfl | kernel_rfl!) ?_)
 show wpAny _ _ (pyIter (.ref l) >>= _) _ _ _
 refine wpAny_bind (wpAny_pyIter_list (items := vs.toArray) ⟨_, (N _ hl).1, rfl, n, rfl⟩ ?_)
 exact wpAny_pure ⟨_, rfl, h _ _ (F.push _) (News.push F N _ rfl) fun q hq => Heap.lt_size (N q hq).1⟩
theorem li_typeIs (hit : s.heap.get? it = some (liObj l i)) : s.TypeIs (.ref it) "list_iterator" := ⟨_, hit, rfl⟩
theorem next_item {t : Value} {Q : Value → Shared → Prop} (F : Fr h₀ L s.heap m) (N : News h₀ L s.heap news) (hi : (it, liObj l i) ∈ news) (hl : (l, W.listOf vs.toArray n) ∈ news) (hx : vs[i]? = some t)
  (h : ∀ h', Fr h₀ L h' m → News h₀ L h' (rep it (liObj l (i + 1)) news) → Q t { s with heap := h' }) : wpAny (model prog w) A (call (.builtin "next") [.ref it]) Q E s := by
 have hit := li_typeIs (N _ hi).1
 refine call_function_entry (by decide +kernel) (by decide +kernel) kdk_entry_next (kdk_args_next _) ?_
 unfold Builtin.«next»
 refine wpAny_bind (m := someArgs "next" 1 2 _) (wpAny_of_eq (a := [Value.ref it]) (by first | rfl | kernel_rfl!) ?_)
 dsimp only
 refine wpAny_bind (wpAny_specialOf (name := Str.ofString "__next__") hit slot_listiter_next.lookup ?_)
 refine wpAny_ite_split (fun hab => absurd hab (by decide)) (fun _ => ?_)
 refine wpAny_bind (wpAny_callSpecial?_slot (name := Str.ofString "__next__") hit slot_listiter_next
  (wpAny_call_entry slot_listiter_next hit entry_listiter_next ?_ (args_listiter_next _)))
 refine li_item (N _ hi).1 (items := vs.toArray) ⟨_, (N _ hl).1, rfl, n, rfl⟩ (by rw [List.getElem?_toArray]; exact hx) ?_
 refine i1_2 _ rfl (wpAny_pure ⟨_, rfl, ?_⟩)
 have N' := rep_update (f := Obj.mapFields (·.setIfInBounds 1 (rawInt (i + 1)))) N hi (by rw [li_set]; rfl)
 rw [li_set] at N'
 exact h _ (F.change (Heap.SameBut.update ..) (N _ hi).2.1 (N _ hi).2.2) N'
theorem next_end {Q : Value → Shared → Prop} (hh : A.handled = none) (F : Fr h₀ L s.heap m) (N : News h₀ L s.heap news) (hi : (it, liObj l i) ∈ news) (hl : (l, W.listOf vs.toArray n) ∈ news) (hx : vs[i]? = none)
  (h : ∀ h₁ h' e, Fr h₀ L h₁ m → News h₀ L h₁ (rep it (liDone i) news) → Heap.MadeExc h₁ h' e "StopIteration" [] → E (.ref e) { s with heap := h' }) : wpAny (model prog w) A (call (.builtin "next") [.ref it]) Q E s := by
 have hit := li_typeIs (N _ hi).1
 refine call_function_entry (by decide +kernel) (by decide +kernel) kdk_entry_next (kdk_args_next _) ?_
 unfold Builtin.«next»
 refine wpAny_bind (m := someArgs "next" 1 2 _) (wpAny_of_eq (a := [Value.ref it]) (by first | rfl | kernel_rfl!) ?_)
 dsimp only
 refine wpAny_bind (wpAny_specialOf (name := Str.ofString "__next__") hit slot_listiter_next.lookup ?_)
 refine wpAny_ite_split (fun hab => absurd hab (by decide)) (fun _ => ?_)
 refine wpAny_bind (wpAny_callSpecial?_slot (name := Str.ofString "__next__") hit slot_listiter_next
  (wpAny_call_entry slot_listiter_next hit entry_listiter_next ?_ (args_listiter_next _)))
 refine li_end (by exact hh) (N _ hi).1 (items := vs.toArray) ⟨_, (N _ hl).1, rfl, n, rfl⟩ (by rw [List.getElem?_toArray]; exact hx) fun h' e hx => ?_
 have N' := rep_update (f := Obj.mapFields (·.setIfInBounds 0 .none)) N hi (by rw [li_set0]; rfl)
 rw [li_set0] at N'
 exact h _ h' e (F.change (Heap.SameBut.update ..) (N _ hi).2.1 (N _ hi).2.2) N' hx
theorem keeps_mw {M : Model} {mw it : Addr} (h : Heap) (X : h.get? mw = some (mwObj it)) : ∃ k, (k = Keeper.frame ∨ k = Keeper.machine ∨ k = Keeper.boundFrame) ∧ Looks M h (keeperOf (.ref mw)) k :=
 ⟨.machine, .inr (.inl rfl), (Looks.ld (part := none) X).andThen .now⟩
theorem callWith_mw {env : Env} {pos : Pos} {Q : Value → Shared → Prop} (N : News h₀ L s.heap news) (hm : (mw, mwObj it) ∈ news) (h : wpAny (model prog w) A (call (.ref mw) []) Q E s) :
  wpAny (model prog w) A (callWith pos (.ref mw) [] (backTo pos (starEach [] env)) []) Q E s :=
 callWith_of (P := fun h => h.get? mw = some (mwObj it)) rfl keeps_mw (evalArgs_nil3 ⟨(N _ hm).1, h⟩)
end
end
section
section
variable {prog : Program} {w : World} {A₀ : Around} {E : Value → Shared → Prop} {s' : Shared} {base g g₀ h₁ : Heap} {outer : List Env} {L a e : Addr} {m : Str → Option Value} {name : Str} {scope : Scope} {cd : Value}
 {b₀ : Stmt} {suite : List Stmt} {pos np : Pos} {rest : List ExceptHandler} {Q : Flow → Shared → Prop} {news : List (Addr × Obj)} {KF : Frag}
 {p : Program} {loose : List Str} {mean : ExcName → Option Value} {mg mb : Str → Option Value} {x : Str} {X T' : String} {args : List Value}
theorem caught_here0 (hx' : Heap.MadeExc h₁ s'.heap e X args) (F : Fr g L h₁ m) (N : News g L h₁ news) (K : Below A₀ base outer g) (XB : KF.In base) (TB : Top p loose mean mg mb base)
  (D : KtsDicts (outer.filterMap (·.frame)) g) (T0 : KtsTurn (outer.filterMap (·.frame)) g₀ g)
  (ex : nsIn KF mainGlobals x = some none) (hv : bootBuiltins x = some (.type T')) (hn' : x ≠ "__name__")
  (hexc : isSubtype (.type T') (.type "BaseException") = pure true) (hnt : isSubtype (.type ((Manifest.find? T').elim "type" fun y => y.metatype)) (.type "tuple") = pure false) (hsub : isSubtype (.type X) (.type T') = pure true)
  (k : ∀ h' g', KtsTurn (outer.filterMap (·.frame)) g₀ g' → Fr g' L h' m → News g' L h' news → Below A₀ base outer g' → KF.In g' → Top p loose mean mg mb g' → KtsDicts (outer.filterMap (·.frame)) g' →
   wpAny (model prog w) ((A₀.deeper (envOf name scope L a cd)).mark (some (.ref e))) (execs (b₀ :: suite) (envOf name scope L a cd)) Q E { s' with heap := h' })
  (hk : scope.kind = .function) (hx : (envOf name scope L a cd).kindOf x = some .globalImplicit) (hd : (x == ("__debug__" : Str)) = false)
  (hE : PassesOwnAt (model prog w) ((A₀.deeper (envOf name scope L a cd)).mark (some (.ref e))) (A₀.deeper (envOf name scope L a cd)) (envOf name scope L a cd) E := by passes_own) :
  wpAny (model prog w) (A₀.deeper (envOf name scope L a cd)) (noteFrame (.ref e) (envOf name scope L a cd))
   (fun _ s₂ => wpAny (model prog w) (A₀.deeper (envOf name scope L a cd)) (setFlight (.ref e) none) (fun _ s₃ =>
    wpAny (model prog w) (A₀.deeper (envOf name scope L a cd)) (handleBy (.ref e) (envOf name scope L a cd) (.ExceptHandler (some (.Name x np)) none (b₀ :: suite) pos :: rest)) Q E s₃) E s₂) E s' := by
 have K' := K.push (name := name) (a := a) (cd := cd) F hk
 have hin : ∀ env ∈ (envOf name scope L a cd :: outer), ∀ b, env.frame = some b → b ∈ (envOf name scope L a cd :: outer).filterMap (·.frame) := fun env he b hb => List.mem_filterMap.mpr ⟨env, he, hb⟩
 have hLin : L ∈ (envOf name scope L a cd :: outer).filterMap (·.frame) := hin _ (.head _) L rfl
 have st : (hideAll h₁ ((envOf name scope L a cd :: outer).filterMap (·.frame))).StaysIn s'.heap := fun b o q => hx'.keeps b o (of_hideAll _ q)
 have hBG : ∀ b o, h₁.get? b = some o → b ∉ (envOf name scope L a cd :: outer).filterMap (·.frame) → (hideAll h₁ ((envOf name scope L a cd :: outer).filterMap (·.frame))).get? b = some o := fun b o q nm => hideAll_get _ q nm
 have hl : ∀ q ∈ news, (hideAll h₁ ((envOf name scope L a cd :: outer).filterMap (·.frame))).get? q.1 = some q.2 := fun q hq => by
  refine hideAll_get _ (N q hq).1 fun hm => ?_
  refine e1_2 (List.mem_filterMap.mp hm) ?_
  intro env he hf
  rcases List.mem_cons.mp he with rfl | he
  ·exact (N q hq).2.1 (Option.some.inj hf).symm
  ·refine e1_2 ((K.frames.mem (List.mem_filterMap.mpr ⟨env, he, hf⟩)).2) ?_
   intro o ho _
   rw [(N q hq).2.2] at ho; cases ho
 have hnone : (hideAll h₁ ((envOf name scope L a cd :: outer).filterMap (·.frame))).get? e = none := by
  cases q : (hideAll h₁ ((envOf name scope L a cd :: outer).filterMap (·.frame))).get? e with
  | none => rfl
  | some o => have := of_hideAll _ q; rw [hx'.new] at this; cases this
 refine e1_3 hx'.there ?_
 intro t he htn ht
 have hff : s'.heap.FunFrames (hideAll h₁ ((envOf name scope L a cd :: outer).filterMap (·.frame))) (envOf name scope L a cd :: outer) := (funFrames_hide K'.frames hin).of_keeps fun b o hb _ => ⟨o, hx'.keeps b o hb, rfl⟩
 have hsm : h₁.UpToSlots s'.heap := Heap.UpToSlots.of_keeps hx'.keeps
 unfold noteFrame
 simp only [show (envOf name scope L a cd).frame = some L from rfl]
 refine wpAny_bind (wpAny_field he rfl (x := .none) rfl ?_)
 rw [if_neg (by decide)]
 refine wpAny_entryW (a0 := .ref t) (Around.frames_deeper K.stack) hff rfl he st hnone rfl (by show 1 < 6; decide) rfl fun h₄ hN => ?_
 refine e0_4 hN ?_
 (try clear hN); intro k1 k2 k3 hsm₄
 have hheld₄ : Heap.HeldW (hideAll h₁ ((envOf name scope L a cd :: outer).filterMap (·.frame))) (envOf name scope L a cd :: outer) e (.type X) (.ref t) L h₄ := ⟨k1, hnone, k2, k3⟩
 refine wpAny_landsW hheld₄ fun h₅ hheld hsm₅' => ?_
 have hsm₅ : s'.heap.UpToSlots h₅ := Heap.UpToSlots.trans (show Heap.UpToSlots s'.heap h₄ from hsm₄) hsm₅'
 refine e1_3 (kts_ground K F hBG hheld.1 (hsm.trans hsm₅)) ?_
 intro g₅ T₅ F₅ K₅
 have X₅ : KF.In g₅ := XB.keeps K₅.stays
 have P₅ : TopRead p loose mg mb g₅ := topRead_of (TB.keeps K₅.stays)
 refine e1_2 hheld.there ?_
 intro ob hob hobc
 refine wpAny_handleBy_builtin (X := X) (T := T') (b := true) hexc hnt hsub (name_B F₅ X₅ P₅ ex hv hn' ⟨rfl, ⟨ob, hob, hobc⟩, ?_⟩ hk hx hd)
 refine lands_againW hheld fun h₆ hfl₆ hsm₆ => ?_
 refine e1_3 (kts_ground K F hBG hfl₆.1 ((hsm.trans hsm₅).trans hsm₆)) ?_
 intro g₆ T₆ F₆ K₆
 have Nl : News g₆ L h₆ news := fun q hq => ⟨hfl₆.1 _ _ (hl q hq), (N q hq).2.1, T₆.none_ _ (N q hq).2.2⟩
 exact wpAny_passesOwnAt hE (k h₆ g₆ (T0.trans T₆) F₆ Nl K₆ (XB.keeps K₆.stays) (TB.keeps K₆.stays) (D.turn T₆))
end
end
section
structure Gr (A₀ : Around) (base : Heap) (outer : List Env) (KF : Frag) (p : Program) (loose : List Str) (mean : ExcName → Option Value) (mg mb : Str → Option Value) (g₀ g : Heap) : Prop where
 turn : KtsTurn (outer.filterMap (·.frame)) g₀ g
 below : Below A₀ base outer g
 kin : KF.In g
 top : Top p loose mean mg mb g
 dicts : KtsDicts (outer.filterMap (·.frame)) g
noncomputable def TurnG (Q : Flow → Shared → Prop) (s : Shared) (K : Heap → Heap → (Str → Option Value) → List (Addr × Obj) → Prop) (f : Flow) (s₂ : Shared) : Prop :=
 match f with
 | .ret v => Q (.ret v) s₂
 | .brk => Q .next s₂
 | _ => ∃ h' tk' g' m₂ news₂, s₂ = { s with heap := h', toks := tk' } ∧ K h' g' m₂ news₂
theorem turnG {Q : Flow → Shared → Prop} {s : Shared} {K : Heap → Heap → (Str → Option Value) → List (Addr × Obj) → Prop} {h' g' : Heap} {m : Str → Option Value} {nw : List (Addr × Obj)} {tk : Nat} (h : K h' g' m nw) : TurnG Q s K .next { s with heap := h', toks := tk } := ⟨_, _, _, _, _, rfl, h⟩
theorem turnG_w {Q : Flow → Shared → Prop} {s : Shared} {L : Addr} {Gd : Heap → Prop} {σ : Type} {J : Nat → σ → List (Addr × Obj) → (Str → Option Value) → Prop} {n n' : Nat} {σ' : σ} {g' h' : Heap} {m : Str → Option Value} {nw : List (Addr × Obj)} {tk : Nat} (hG : Gd g') (F : Fr g' L h' m) (N : News g' L h' nw) (lt : n' < n) (hJ : J n' σ' nw m) :
  TurnG Q s (fun h' g' m₃ news₂ => Gd g' ∧ Fr g' L h' m₃ ∧ News g' L h' news₂ ∧ ∃ n' σ', n' < n ∧ J n' σ' news₂ m₃) .next { s with heap := h', toks := tk } := turnG ⟨hG, F, N, _, _, lt, hJ⟩
section
variable {prog : Program} {w : World} {A : Around} {s : Shared} {env : Env} {h₀ : Heap}
theorem codeAny_forG {R : Result → Shared → Prop} {x : Str} {px : Pos} {body : List Stmt} {I : Addr} {fp : List Addr} {n : Nat} {P : Nat → Value → Prop} {St : Nat → Heap → Prop} {m : Str → Option Value}
  {news : List (Addr × Obj)} (W : Walks prog w A I fp [I] n P St) (hx : env.kindOf x = some .local)
  (hp : (env.scope.kind == .class || (env.scope.kind == .module && env.locals != env.globals)) = false)
  (hIL : I ≠ env.locals) (Gd : Heap → Prop) (hG0 : Gd h₀) (hI0 : ∀ g, Gd g → g.get? I = none) (hLf : env.locals ∉ fp)
  (J : Nat → (Str → Option Value) → List (Addr × Obj) → Prop)
  (hst : ∀ i m₁ news₁ h g, i ≤ n → Gd g → J i m₁ news₁ → News g env.locals h news₁ → St i h)
  (hget : ∀ i h, St i h → ∃ o, h.get? I = some o)
  (F : Fr h₀ env.locals s.heap m) (N : News h₀ env.locals s.heap news) (h0 : J 0 m news)
  (turn : ∀ i v g m₁ news₁ h tk o', i < n → P i v → J i m₁ news₁ → St (i + 1) h → h.get? I = some o' → Gd g →
   Fr g env.locals h (fun y => if y = x then some v else m₁ y) → News g env.locals h (rep I o' news₁) →
   wpAny (model prog w) A (execs body env) (TurnG (fun f s₂ => R (.ok f) s₂) s fun h' g' m₂ news₂ => Gd g' ∧ Fr g' env.locals h' m₂ ∧ News g' env.locals h' news₂ ∧ J (i + 1) m₂ news₂) (notedBy (model prog w) A env fun e s' => R (.error e) s') { s with heap := h, toks := tk })
  (hR : ∀ g h' tk m' news', Gd g → Fr g env.locals h' m' → News g env.locals h' (drp I news') → J n m' news' → R (.ok .next) { s with heap := h', toks := tk }) :
  codeAny (model prog w) A (.forLoop (.Name x px) (.ref I) body [] env) R s := by
 refine codeAny_forLoopC
  (fun k s' => ∃ h' tk g m' news' i, s' = { s with heap := h', toks := tk } ∧ Gd g ∧ Fr g env.locals h' m' ∧ News g env.locals h' news' ∧ J i m' news' ∧ i ≤ n ∧ k = n + 1 - i) ?_ (n + 1)
  ⟨s.heap, s.toks, h₀, m, news, 0, rfl, hG0, F, N, h0, Nat.zero_le _, rfl⟩
 intro k s' P0 hP0 hR0
 refine e6_7 hR0 ?_
 (try clear hR0); intro h' tk g m' news' i hz1 hG F' N' hJ hi hz2
 subst hz1
 subst hz2
 have hst' := hst i m' news' h' g hi hG hJ N'
 have keepF : ∀ h₁ : Heap, (∀ b o, b ∉ [I] → h'.get? b = some o → h₁.get? b = some o) → Fr g env.locals h₁ m' := fun h₁ hk₁ =>
  ⟨F'.ns.at' fun o e => hk₁ _ o (fun q => hIL (List.mem_singleton.mp q).symm) e, fun b o e => hk₁ b o (fun q => by rw [List.mem_singleton.mp q, hI0 g hG] at e; cases e) (F'.keep b o e), F'.above⟩
 by_cases hlt : i < n
 ·refine W.item i _ _ _ hlt hst' fun v h₁ tk₁ hP hst₁ hk₁ => ?_
  refine e1_1 (hget _ _ hst₁) ?_
  intro o' ho'
  have F₁ := keepF h₁ hk₁
  have N₁ : News g env.locals h₁ (rep I o' news') := by
   intro p hp
   refine e1_2 (List.mem_map.mp hp) ?_
   intro q hq e
   by_cases hqI : q.1 = I
   ·rw [if_pos hqI] at e
    subst e
    exact i0_3 ho' hIL (hI0 g hG)
   ·rw [if_neg hqI] at e
    subst e
    exact ⟨hk₁ _ _ (fun z => hqI (List.mem_singleton.mp z)) (N' q hq).1, (N' q hq).2⟩
  refine wpAny_assign_Name (wpAny_storeName_local hx F₁.ns (fun h₂ hn₂ hs₂ => ?_) hp)
  have F₂ := F₁.set hn₂ hs₂
  have N₂ := News.set N₁ hs₂
  have hst₂ : St (i + 1) h₂ := W.frame _ _ _ hst₁ fun b hb o e => (hs₂.2 b fun q => hLf (q ▸ hb)).trans e
  have hg₂ : h₂.get? I = some o' := (hs₂.2 I hIL).trans ho'
  refine wpAny_mono (turn i v g m' news' h₂ _ o' hlt hP hJ hst₂ hg₂ hG F₂ N₂) (fun f s₃ h₃ => ?_) fun _ _ e => e
  cases f with
  | ret v => exact h₃
  | brk => exact h₃
  | cont =>
   refine e5_5 h₃ ?_
   (try clear h₃); intro h₃' tk₃ g₃ m₂ news₂ hz1 hG₃ F₃ N₃ hJ₃
   subst hz1
   exact hP0 (n + 1 - (i + 1)) _ (by exact o3 ‹_›) (i6_7 h₃' tk₃ g₃ m₂ news₂ (i + 1) rfl hG₃ F₃ N₃ hJ₃ hlt rfl)
  | next =>
   refine e5_5 h₃ ?_
   (try clear h₃); intro h₃' tk₃ g₃ m₂ news₂ hz2 hG₃ F₃ N₃ hJ₃
   subst hz2
   exact hP0 (n + 1 - (i + 1)) _ (by exact o3 ‹_›) (i6_7 h₃' tk₃ g₃ m₂ news₂ (i + 1) rfl hG₃ F₃ N₃ hJ₃ hlt rfl)
 ·have hin : i = n := by exact o62 hi hlt
  subst hin
  refine W.done _ _ _ hst' fun h₁ tk₁ hk₁ => wpAny_execs_nil ?_
  refine hR g h₁ tk₁ m' news' hG (keepF h₁ hk₁) (fun p hp => ?_) hJ
  refine e0_2 (mem_drp.mp hp) ?_
  intro hp1 hp2
  exact ⟨hk₁ _ _ (fun z => hp2 (List.mem_singleton.mp z)) (N' p hp1).1, (N' p hp1).2⟩
theorem iter_keysG {E : Value → Shared → Prop} {Q : Flow → Shared → Prop} {x : Str} {px : Pos} {body : List Stmt} {d : Addr} {o : Obj} {kvs : List (Str × Value)} {m : Str → Option Value} {news : List (Addr × Obj)} (names : List Str)
  (hh : A.handled = none) (hx : env.kindOf x = some .local)
  (hp : (env.scope.kind == .class || (env.scope.kind == .module && env.locals != env.globals)) = false)
  (lo : (d == sysModules) = false) (hd : o.IsDictOf (strKind prog w) kvs)
  (Gd : Heap → Prop) (hG0 : Gd h₀) (hGn : ∀ g, Gd g → ∀ b, h₀.get? b = none → g.get? b = none)
  (J : Nat → List (Addr × Obj) → Prop)
  (F : Fr h₀ env.locals s.heap m) (N : News h₀ env.locals s.heap news) (hnd : ND news) (hl : (d, o) ∈ news)
  (hJl : ∀ i news₁, J i news₁ → (d, o) ∈ news₁)
  (hJ : J 0 news)
  (turn : ∀ I i k v t u g news₁ h tk o', (∀ p ∈ news, p.1 ≠ I) → kvs[i]? = some (k, v) → ND ((I, o') :: news₁) → J i news₁ → Gd g →
   Fr g env.locals h (fun z => if z = x then some (.str k t) else ovn names u m z) → News g env.locals h ((I, o') :: news₁) →
   wpAny (model prog w) A (execs body env) (TurnG Q s (fun h' g' m₂ news₂ => Gd g' ∧ Fr g' env.locals h' m₂ ∧ News g' env.locals h' news₂ ∧ ND news₂ ∧ (I, o') ∈ news₂ ∧ MapOk names m₂ m ∧ J (i + 1) (drp I news₂))) E { s with heap := h, toks := tk })
  (done : ∀ u g news₁ h tk, ND news₁ → J kvs.length news₁ → Gd g → Fr g env.locals h (ovn names u m) → News g env.locals h news₁ → Q .next { s with heap := h, toks := tk })
  (hE : PassesOwn (model prog w) A env E := by passes_own) :
  wpAny (model prog w) A (pyIter (.ref d)) (fun it s₂ =>
   codeAny (model prog w) A (.forLoop (.Name x px) it body [] env) (fun r s' => match r with | .ok f => Q f s' | .error e => cameBackBy (model prog w) A env E e s') s₂) E s := by
 have hgl := (N _ hl).1
 have hlt : d < s.heap.objs.size := Heap.lt_size hgl
 have hne : d ≠ s.heap.objs.size := Nat.ne_of_lt hlt
 refine e3_2 (id F.ns) ?_
 intro oL _ _ hoL _
 have hIL : s.heap.objs.size ≠ env.locals := (Nat.ne_of_lt (Heap.lt_size hoL)).symm
 have hLl : env.locals ≠ d := (N _ hl).2.1.symm
 have hI0 : h₀.get? s.heap.objs.size = none := by
  cases q : h₀.get? s.heap.objs.size with
  | none => rfl
  | some ob => exact absurd (Heap.lt_size (F.keep _ _ q)) (Nat.lt_irrefl _)
 have fresh : ∀ p ∈ news, p.1 ≠ s.heap.objs.size := fun p hp => Nat.ne_of_lt (Heap.lt_size (N p hp).1)
 refine e1_1 (KdkAt.of hd) ?_
 intro ep ha
 have itk : ∀ (i : Nat) (o₁ : Obj) (h : Heap), h.get? s.heap.objs.size = some o₁ → (h.IsKeyIter s.heap.objs.size d i kvs.length ep ↔ KdkIter o₁ d i kvs.length ep) := by
  intro i o₁ h ho₁
  constructor
  ·intro hR0
   refine e1_3 hR0 ?_
   (try clear hR0); intro o₂ h2 h3 h4
   rw [ho₁] at h2
   cases h2
   exact ⟨h3, h4⟩
  ·exact fun q => q.at ho₁
 refine wpAny_pyIter_dict lo (ha.dictAt hgl) ?_
 refine codeAny_forG (R := fun r s' => match r with | .ok f => Q f s' | .error e => cameBackBy (model prog w) A env E e s') (s := { s with heap := s.heap.push _ }) (news := (s.heap.objs.size, _) :: news)
  (Walks.dictKeys (knd := strKind prog w) hh s.heap.objs.size d hne kvs ep) hx hp hIL Gd hG0 (fun g hg => hGn g hg _ hI0) (fun hm => ?_)
  (fun i m₁ news₁ => ND news₁ ∧ (∃ o₁, (s.heap.objs.size, o₁) ∈ news₁ ∧ KdkIter o₁ d i kvs.length ep) ∧ (∃ u, m₁ = ovn names u m) ∧ J i (drp s.heap.objs.size news₁)) ?_ ?_ (F.push _) (N.push F _ rfl) ?_ ?_ ?_
 ·rcases List.mem_cons.mp hm with e | e
  ·exact hIL e.symm
  ·exact hLl (List.mem_singleton.mp e)
 ·intro i m₁ news₁ h g _ _ hR0 N₁
  refine e0_4 hR0 ?_
  (try clear hR0); intro _ hz3 _ hj
  obtain ⟨o₁, ho₁, hi₁⟩ := hz3
  exact ⟨hi₁.at (N₁ _ ho₁).1, ha.dictAt (N₁ _ (mem_drp.mp (hJl _ _ hj)).1).1⟩
 ·intro i h hR0
  refine e0_2 hR0 ?_
  (try clear hR0); intro hz4 _
  obtain ⟨o₁, h1, _⟩ := hz4
  exact ⟨o₁, h1⟩
 ·refine i0_4 (hnd.cons fun p hp => Heap.lt_size (N p hp).1) ⟨_, .head _, rfl, rfl⟩ (MapOk.is fun _ _ => rfl) ?_
  have e : ∀ ob, drp s.heap.objs.size ((s.heap.objs.size, ob) :: news) = news := by
   intro ob
   unfold drp
   rw [List.filter_cons_of_neg (by simp)]
   exact List.filter_eq_self.mpr fun p hp => by simpa using fresh p hp
  rw [e]; exact hJ
 ·intro i v g m₁ news₁ h tk o' hi hR0 hR1 hst₁ hg₁ hG F₁ N₁
  refine e2_2 hR0 ?_
  (try clear hR0); intro k xv hk hkv
  refine e0_4 hR1 ?_
  (try clear hR1); intro hnd₁ hz5 hz6 hj
  obtain ⟨o₁, ho₁, hi₁⟩ := hz5
  obtain ⟨u, rfl⟩ := hz6
  refine e1_1 (Value.isStrOf_shape hkv) ?_
  intro t hz3
  subst hz3
  have N₁' : News g env.locals h ((s.heap.objs.size, o') :: drp s.heap.objs.size news₁) := by
   intro p hp
   rcases List.mem_cons.mp hp with rfl | hp
   ·exact N₁ _ (mem_rep_self ho₁)
   ·exact N₁ _ (mem_rep_ne' (mem_drp.mp hp).1 (mem_drp.mp hp).2)
  have hnd₁' : ND ((s.heap.objs.size, o') :: drp s.heap.objs.size news₁) := by
   show (_ :: (drp s.heap.objs.size news₁).map (·.1)).Nodup
   refine List.nodup_cons.mpr ⟨fun q => ?_, hnd₁.drp⟩
   refine e1_2 (List.mem_map.mp q) ?_
   intro p hp e
   exact (mem_drp.mp hp).2 e
  have it' : KdkIter o' d (i + 1) kvs.length ep := (itk _ _ _ hg₁).mp hst₁.1
  refine wpAny_passesOwn hE (wpAny_mono (turn s.heap.objs.size i k xv t u g _ h tk o' fresh hk hnd₁' hj hG F₁ N₁') (fun f s₂ h₂ => ?_) fun _ _ e => e)
  cases f with
  | ret v => exact h₂
  | brk => exact h₂
  | next =>
   refine e5_8 h₂ ?_
   (try clear h₂); intro h' tk' g' m₂ news₂ e hG₂ F₂ N₂ hnd₂ hm₂ hok hj₂
   exact i5_8 h' tk' g' m₂ news₂ e hG₂ F₂ N₂ hnd₂ ⟨o', hm₂, it'⟩ hok.is hj₂
  | cont =>
   refine e5_8 h₂ ?_
   (try clear h₂); intro h' tk' g' m₂ news₂ e hG₂ F₂ N₂ hnd₂ hm₂ hok hj₂
   exact i5_8 h' tk' g' m₂ news₂ e hG₂ F₂ N₂ hnd₂ ⟨o', hm₂, it'⟩ hok.is hj₂
 ·intro g h' tk m' news' hG F' N' hR0
  refine e0_4 hR0 ?_
  (try clear hR0); intro hnd' _ hz7 hj
  obtain ⟨u, rfl⟩ := hz7
  exact done u g _ h' tk hnd'.drp hj hG F' N'
theorem while_G {E : Value → Shared → Prop} {Q : Flow → Shared → Prop} {test : PySem.Expr} {body orelse : List Stmt} {pos : Pos} {σ : Type}
  (Gd : Heap → Prop) (J : Nat → σ → List (Addr × Obj) → (Str → Option Value) → Prop) {news : List (Addr × Obj)} (n₀ : Nat) (σ₀ : σ) {g₁ : Heap} {m₁ : Str → Option Value} {s₁ : Shared}
  (hs : s₁ = { s with heap := s₁.heap, toks := s₁.toks })
  (hG : Gd g₁) (F : Fr g₁ env.locals s₁.heap m₁) (N : News g₁ env.locals s₁.heap news) (h0 : J n₀ σ₀ news m₁)
  (turn : ∀ n σ g news₁ m₂ h tk, J n σ news₁ m₂ → Gd g → Fr g env.locals h m₂ → News g env.locals h news₁ →
   wpAny (model prog w) A (isTrue test env (eval test env)) (fun b s₂ =>
    if b then wpAny (model prog w) A (execs body env) (TurnG Q s fun h' g' m₃ news₂ => Gd g' ∧ Fr g' env.locals h' m₃ ∧ News g' env.locals h' news₂ ∧ ∃ n' σ', n' < n ∧ J n' σ' news₂ m₃) E s₂
    else wpAny (model prog w) A (execs orelse env) Q E s₂) E { s with heap := h, toks := tk })
  (hE : PassesOwn (model prog w) A env E := by passes_own) :
  wpAny (model prog w) A (exec (.While test body orelse pos) env) Q E s₁ := by
 refine wpAny_While (codeAny_whileLoop (fun k s' => ∃ h' tk g m' news' σ, s' = { s with heap := h', toks := tk } ∧ Gd g ∧ Fr g env.locals h' m' ∧ News g env.locals h' news' ∧ J k σ news' m') ?_ n₀ ⟨_, _, g₁, m₁, news, σ₀, hs, hG, F, N, h0⟩)
 intro k s' hR0
 refine e6_5 hR0 ?_
 (try clear hR0); intro h' tk g m' news' σ hz8 hG F' N' hJ
 subst hz8
 refine wpAny_mono (turn k σ g news' m' h' tk hJ hG F' N') (fun b s₂ h₂ => ?_) fun _ _ e => hE _ _ e
 cases b with
 | true =>
  rw [if_pos rfl] at h₂ ⊢
  refine wpAny_mono h₂ (fun f s₃ h₃ => ?_) fun _ _ e => hE _ _ e
  cases f with
  | ret v => exact h₃
  | brk => exact h₃
  | next =>
   obtain ⟨h₄, tk₄, g₄, m₄, n₄, e, hG₄, F₄, N₄, k', σ', hk, hJ₄⟩ := h₃
   exact i1_2 k' hk (i6_5 h₄ tk₄ g₄ m₄ n₄ σ' e hG₄ F₄ N₄ hJ₄)
  | cont =>
   obtain ⟨h₄, tk₄, g₄, m₄, n₄, e, hG₄, F₄, N₄, k', σ', hk, hJ₄⟩ := h₃
   exact i1_2 k' hk (i6_5 h₄ tk₄ g₄ m₄ n₄ σ' e hG₄ F₄ N₄ hJ₄)
 | false =>
  rw [if_neg Bool.false_ne_true] at h₂ ⊢
  exact wpAny_mono h₂ (fun f s₃ h₃ => h₃) fun _ _ e => hE _ _ e
theorem cut_execs {E : Value → Shared → Prop} {Q : Flow → Shared → Prop} {st : Stmt} {rest : List Stmt} (Mid : Shared → Prop)
  (h : wpAny (model prog w) A (exec st env) (fun f s₁ => match f with | .next => Mid s₁ | f => Q f s₁) E s) (k : ∀ s₁, Mid s₁ → wpAny (model prog w) A (execs rest env) Q E s₁) :
  wpAny (model prog w) A (execs (st :: rest) env) Q E s := by
 refine wpAny_execs_cons (wpAny_mono h (fun f s₁ h₁ => ?_) fun _ _ e => e)
 cases f with
 | next => exact k s₁ h₁
 | ret v => exact h₁
 | brk => exact h₁
 | cont => exact h₁
end
theorem allLt_mem {a : Addr} : ∀ {l : List (Addr × Obj)}, AllLt a l → ∀ p ∈ l, p.1 < a
 | [], _, _, hp => nomatch hp
 | _ :: _, h, p, hp => by
  rcases List.mem_cons.mp hp with rfl | hp
  ·exact h.1
  ·exact allLt_mem h.2 p hp
theorem drp_cons {I : Addr} {o : Obj} {l : List (Addr × Obj)} (h : ∀ p ∈ l, p.1 ≠ I) : drp I ((I, o) :: l) = l := by
 unfold drp
 rw [List.filter_cons_of_neg (by simp)]
 exact List.filter_eq_self.mpr fun p hp => by simpa using h p hp
end
section
section
variable {prog : Program} {w : World} {A : Around} {s : Shared} {env : Env} {h₀ : Heap}
noncomputable def Goes : Flow → Prop
 | .next => True
 | .cont => True
 | _ => False
theorem while_C {E : Value → Shared → Prop} {Q : Flow → Shared → Prop} {test : PySem.Expr} {body orelse : List Stmt} {pos : Pos} {σ : Type}
  (Gd : Heap → Prop) (J : Nat → σ → List (Addr × Obj) → (Str → Option Value) → Prop) {news : List (Addr × Obj)} (n₀ : Nat) (σ₀ : σ) {g₁ : Heap} {m₁ : Str → Option Value} {s₁ : Shared}
  (hs : s₁ = { s with heap := s₁.heap, toks := s₁.toks })
  (hG : Gd g₁) (F : Fr g₁ env.locals s₁.heap m₁) (N : News g₁ env.locals s₁.heap news) (h0 : J n₀ σ₀ news m₁)
  (turn : ∀ n σ g news₁ m₂ h tk, J n σ news₁ m₂ → Gd g → Fr g env.locals h m₂ → News g env.locals h news₁ →
   ∀ Q' : Flow → Shared → Prop, (∀ v s', Q (.ret v) s' → Q' (.ret v) s') → (∀ s', Q .next s' → Q' .brk s') →
   (∀ f h' tk' g' m₃ news₂ n' σ', Goes f → Gd g' → Fr g' env.locals h' m₃ → News g' env.locals h' news₂ → n' < n → J n' σ' news₂ m₃ → Q' f { s with heap := h', toks := tk' }) →
   wpAny (model prog w) A (isTrue test env (eval test env)) (fun b s₂ =>
    if b then wpAny (model prog w) A (execs body env) Q' E s₂
    else wpAny (model prog w) A (execs orelse env) Q E s₂) E { s with heap := h, toks := tk })
  (hE : PassesOwn (model prog w) A env E := by passes_own) :
  wpAny (model prog w) A (exec (.While test body orelse pos) env) Q E s₁ :=
 while_G Gd J n₀ σ₀ hs hG F N h0 (fun n σ g news₁ m₂ h tk hJ hg F' N' => turn n σ g news₁ m₂ h tk hJ hg F' N' _ (fun _ _ q => q) (fun _ q => q)
  (fun f h' tk' g' m₃ news₂ n' σ' hf hg' F₂ N₂ hn hJ' => by
   cases f with
   | next => exact ⟨h', tk', g', m₃, news₂, rfl, hg', F₂, N₂, n', σ', hn, hJ'⟩
   | cont => exact ⟨h', tk', g', m₃, news₂, rfl, hg', F₂, N₂, n', σ', hn, hJ'⟩
   | brk => exact hf.elim
   | ret v => exact hf.elim)) hE
theorem while_true_C {E : Value → Shared → Prop} {Q : Flow → Shared → Prop} {body orelse : List Stmt} {pos cpos : Pos} {k : Nat} {σ : Type}
  (Gd : Heap → Prop) (J : Nat → σ → List (Addr × Obj) → (Str → Option Value) → Prop) {news : List (Addr × Obj)} (n₀ : Nat) (σ₀ : σ) {g₁ : Heap} {m₁ : Str → Option Value} {s₁ : Shared}
  (hs : s₁ = { s with heap := s₁.heap, toks := s₁.toks })
  (hG : Gd g₁) (F : Fr g₁ env.locals s₁.heap m₁) (N : News g₁ env.locals s₁.heap news) (h0 : J n₀ σ₀ news m₁)
  (turn : ∀ n σ g news₁ m₂ h tk, J n σ news₁ m₂ → Gd g → Fr g env.locals h m₂ → News g env.locals h news₁ →
   ∀ Q' : Flow → Shared → Prop, (∀ v s', Q (.ret v) s' → Q' (.ret v) s') → (∀ s', Q .next s' → Q' .brk s') →
   (∀ f h' tk' g' m₃ news₂ n' σ', Goes f → Gd g' → Fr g' env.locals h' m₃ → News g' env.locals h' news₂ → n' < n → J n' σ' news₂ m₃ → Q' f { s with heap := h', toks := tk' }) →
   wpAny (model prog w) A (execs body env) Q' E { s with heap := h, toks := tk })
  (hE : PassesOwn (model prog w) A env E := by passes_own) :
  wpAny (model prog w) A (exec (.While (.Constant (.bool true) k cpos) body orelse pos) env) Q E s₁ := by
 refine while_C Gd J n₀ σ₀ hs hG F N h0 (fun n σ g news₁ m₂ h tk hJ hg F' N' Q' a b c => ?_) hE
 refine wpAny_isTrue_value (wpAny_Constant_bool (wpAny_truthy_bool ?_))
 rw [if_pos rfl]
 exact turn n σ g news₁ m₂ h tk hJ hg F' N' Q' a b c
theorem cut_C {E : Value → Shared → Prop} {Q : Flow → Shared → Prop} {st : Stmt} {rest : List Stmt} (Mid : Shared → Prop)
  (h : ∀ Q' : Flow → Shared → Prop, (∀ s₁, Mid s₁ → Q' .next s₁) → (∀ v s₁, Q (.ret v) s₁ → Q' (.ret v) s₁) → (∀ s₁, Q .brk s₁ → Q' .brk s₁) → (∀ s₁, Q .cont s₁ → Q' .cont s₁) → wpAny (model prog w) A (exec st env) Q' E s)
  (k : ∀ s₁, Mid s₁ → wpAny (model prog w) A (execs rest env) Q E s₁) :
  wpAny (model prog w) A (execs (st :: rest) env) Q E s :=
 cut_execs Mid (h _ (fun _ q => q) (fun _ _ q => q) (fun _ q => q) (fun _ q => q)) k
theorem iter_keysC {E : Value → Shared → Prop} {Q : Flow → Shared → Prop} {x : Str} {px : Pos} {body : List Stmt} {d : Addr} {o : Obj} {kvs : List (Str × Value)} {m : Str → Option Value} {news : List (Addr × Obj)} (names : List Str)
  (hh : A.handled = none) (hx : env.kindOf x = some .local)
  (hp : (env.scope.kind == .class || (env.scope.kind == .module && env.locals != env.globals)) = false)
  (lo : (d == sysModules) = false) (hd : o.IsDictOf (strKind prog w) kvs)
  (Gd : Heap → Prop) (hG0 : Gd h₀) (hGn : ∀ g, Gd g → ∀ b, h₀.get? b = none → g.get? b = none)
  (J : Nat → List (Addr × Obj) → Prop)
  (F : Fr h₀ env.locals s.heap m) (N : News h₀ env.locals s.heap news) (hnd : ND news) (hl : (d, o) ∈ news)
  (hJl : ∀ i news₁, J i news₁ → (d, o) ∈ news₁)
  (hJ : J 0 news)
  (turn : ∀ I i k v t u g news₁ h tk o', (∀ p ∈ news, p.1 ≠ I) → kvs[i]? = some (k, v) → ND ((I, o') :: news₁) → J i news₁ → Gd g →
   Fr g env.locals h (fun z => if z = x then some (.str k t) else ovn names u m z) → News g env.locals h ((I, o') :: news₁) →
   ∀ Q' : Flow → Shared → Prop, (∀ v s', Q (.ret v) s' → Q' (.ret v) s') → (∀ s', Q .next s' → Q' .brk s') →
   (∀ f h' tk' g' m₂ news₂, Goes f → Gd g' → Fr g' env.locals h' m₂ → News g' env.locals h' news₂ → ND news₂ → (I, o') ∈ news₂ → MapOk names m₂ m → J (i + 1) (drp I news₂) → Q' f { s with heap := h', toks := tk' }) →
   wpAny (model prog w) A (execs body env) Q' E { s with heap := h, toks := tk })
  (done : ∀ u g news₁ h tk, ND news₁ → J kvs.length news₁ → Gd g → Fr g env.locals h (ovn names u m) → News g env.locals h news₁ → Q .next { s with heap := h, toks := tk })
  (hE : PassesOwn (model prog w) A env E := by passes_own) :
  wpAny (model prog w) A (pyIter (.ref d)) (fun it s₂ =>
   codeAny (model prog w) A (.forLoop (.Name x px) it body [] env) (fun r s' => match r with | .ok f => Q f s' | .error e => cameBackBy (model prog w) A env E e s') s₂) E s :=
 iter_keysG names hh hx hp lo hd Gd hG0 hGn J F N hnd hl hJl hJ (fun I i k v t u g news₁ h tk o' a b c d' e f' n' => turn I i k v t u g news₁ h tk o' a b c d' e f' n' _ (fun _ _ q => q) (fun _ q => q)
  (fun f h' tk' g' m₂ news₂ hf x1 x2 x3 x4 x5 x6 x7 => by
   cases f with
   | next => exact ⟨h', tk', g', m₂, news₂, rfl, x1, x2, x3, x4, x5, x6, x7⟩
   | cont => exact ⟨h', tk', g', m₂, news₂, rfl, x1, x2, x3, x4, x5, x6, x7⟩
   | brk => exact hf.elim
   | ret v => exact hf.elim)) done hE
end
end
section
noncomputable def Topo (su : Nat → List Nat) : List Nat → Prop
 | [] => True
 | v :: r => (∀ k ∈ su v, k ∈ r) ∧ Topo su r
noncomputable def Ch (su : Nat → List Nat) (fin : List Nat) : Option Nat → List (Nat × Nat) → Prop
 | _, [] => True
 | none, (v, i) :: r => (∀ k ∈ (su v).take i, k ∈ fin) ∧ Ch su fin (some v) r
 | some c, (v, i) :: r => (∃ i', i = i' + 1 ∧ (su v)[i']? = some c ∧ ∀ k ∈ (su v).take i', k ∈ fin) ∧ Ch su fin (some v) r
theorem Ch.grow {su : Nat → List Nat} {fin : List Nat} {x : Nat} : ∀ {stk : List (Nat × Nat)} {c : Option Nat}, Ch su fin c stk → Ch su (x :: fin) c stk
 | [], none, _ => trivial
 | [], some _, _ => trivial
 | (_, _) :: _, none, h => ⟨fun k hk => .tail _ (h.1 k hk), h.2.grow⟩
 | (_, _) :: _, some _, h => by
  refine e0_2 h ?_
  (try clear h); intro hz1 d
  obtain ⟨i', a, b, c⟩ := hz1
  exact ⟨⟨i', a, b, fun k hk => .tail _ (c k hk)⟩, d.grow⟩
theorem take_succ_mem {l : List Nat} {i c k : Nat} (h : l[i]? = some c) (hk : k ∈ l.take (i + 1)) : k ∈ l.take i ∨ k = c := by
 rw [List.take_add_one, h, Option.toList_some] at hk
 rcases List.mem_append.mp hk with q | q
 ·exact .inl q
 ·exact .inr (List.mem_singleton.mp q)
theorem Ch.back {su : Nat → List Nat} {fin : List Nat} {c : Nat} (hc : c ∈ fin) : ∀ {stk : List (Nat × Nat)}, Ch su fin (some c) stk → Ch su fin none stk
 | [], _ => trivial
 | (v, i) :: r, h => by
  refine e0_2 h ?_
  (try clear h); intro hz2 d
  obtain ⟨i', rfl, b, e⟩ := hz2
  refine ⟨fun k hk => ?_, d⟩
  rcases take_succ_mem b hk with q | q
  ·exact e k q
  ·rw [q]; exact hc
theorem Ch.push {su : Nat → List Nat} {fin : List Nat} {c : Nat} {stk : List (Nat × Nat)} (h : Ch su fin (some c) stk) : Ch su fin none ((c, 0) :: stk) := ⟨fun k hk => (by rw [List.take_zero] at hk; cases hk), h⟩
theorem Ch.next {su : Nat → List Nat} {fin : List Nat} {v i c : Nat} {stk : List (Nat × Nat)} (h : Ch su fin none ((v, i) :: stk)) (hc : (su v)[i]? = some c) : Ch su fin (some c) ((v, i + 1) :: stk) := ⟨⟨i, rfl, hc, h.1⟩, h.2⟩
theorem Ch.pop {su : Nat → List Nat} {fin : List Nat} {v i : Nat} {stk : List (Nat × Nat)} (h : Ch su fin none ((v, i) :: stk)) (ht : Topo su fin) (hc : (su v)[i]? = none) : Ch su (v :: fin) none stk ∧ Topo su (v :: fin) := by
 have hle := List.getElem?_eq_none_iff.mp hc
 refine i0_3 ((h.2.grow (x := v)).back (.head _)) (fun k hk => ?_) ht
 exact h.1 k (by rw [List.take_of_length_le hle]; exact hk)
noncomputable def Ring (su : Nat → List Nat) (l : List Nat) : Prop := l ≠ [] ∧ ∀ v ∈ l, ∃ u ∈ l, v ∈ su u
theorem Ch.ring' {su : Nat → List Nat} {fin : List Nat} {c : Nat} : ∀ {stk : List (Nat × Nat)} {b : Nat}, Ch su fin (some b) stk → c ∈ stk.map (·.1) →
  ∃ l : List Nat, (∀ v ∈ l, v ∈ stk.map (·.1)) ∧ c ∈ l ∧ (∃ u ∈ l, b ∈ su u) ∧ ∀ v ∈ l, v = c ∨ ∃ u ∈ l, v ∈ su u
 | [], _, _, hc => nomatch hc
 | (v, i) :: r, b, h, hc => by
  refine e0_2 h ?_
  (try clear h); intro hz3 d
  obtain ⟨i', rfl, hb, _⟩ := hz3
  have hbm : b ∈ su v := List.mem_of_getElem? hb
  by_cases e : c = v
  ·subst e
   exact i1_4 ([c]) (fun x hx => by rw [List.mem_singleton.mp hx]; exact .head _) (.head _) ⟨c, .head _, hbm⟩ (fun x hx => .inl (List.mem_singleton.mp hx))
  ·have hc' : c ∈ r.map (·.1) := (List.mem_cons.mp hc).resolve_left e
   refine e1_4 (Ch.ring' d hc') ?_
   intro l l1 l2 hz4 l4
   obtain ⟨u, hu, huv⟩ := hz4
   refine i1_4 (v :: l) (fun x hx => ?_) (.tail _ l2) ⟨v, .head _, hbm⟩ (fun x hx => ?_)
   ·rcases List.mem_cons.mp hx with rfl | hx
    ·exact .head _
    ·exact .tail _ (l1 x hx)
   ·rcases List.mem_cons.mp hx with rfl | hx
    ·exact .inr ⟨u, .tail _ hu, huv⟩
    ·rcases l4 x hx with q | ⟨u', h1, h2⟩
     ·exact .inl q
     ·exact .inr ⟨u', .tail _ h1, h2⟩
theorem Ch.ring {su : Nat → List Nat} {fin : List Nat} {c : Nat} {stk : List (Nat × Nat)} (h : Ch su fin (some c) stk) (hc : c ∈ stk.map (·.1)) : ∃ l : List Nat, (∀ v ∈ l, v ∈ stk.map (·.1)) ∧ Ring su l := by
 refine e1_4 (h.ring' hc) ?_
 intro l l1 l2 l3 l4
 refine i1_3 l l1 (fun q => (by rw [q] at l2; cases l2)) (fun v hv => ?_)
 rcases l4 v hv with q | q
 ·rw [q]; exact l3
 ·exact q
noncomputable def Wt (su : Nat → List Nat) : List Nat → Nat
 | [] => 0
 | v :: r => ((su v).length + 1) + Wt su r
noncomputable def Rt (su : Nat → List Nat) : List (Nat × Nat) → Nat
 | [] => 0
 | (v, i) :: r => ((su v).length - i) + Rt su r
theorem Wt.erase {su : Nat → List Nat} {c : Nat} : ∀ {l : List Nat}, c ∈ l → Wt su l = Wt su (l.erase c) + ((su c).length + 1)
 | v :: r, h => by
  by_cases e : v = c
  ·subst e
   rw [List.erase_cons_head]
   show ((su v).length + 1) + Wt su r = _
   exact Nat.add_comm _ _
  ·have h' : c ∈ r := (List.mem_cons.mp h).resolve_left (Ne.symm e)
   rw [List.erase_cons_tail (by simpa using e)]
   show ((su v).length + 1) + Wt su r = ((su v).length + 1) + Wt su (r.erase c) + _
   have := Wt.erase (su := su) h'
   exact o27 this
theorem Rt.next {su : Nat → List Nat} {v i c : Nat} {stk : List (Nat × Nat)} (hc : (su v)[i]? = some c) : Rt su ((v, i + 1) :: stk) + 1 = Rt su ((v, i) :: stk) := by
 have hi := (List.getElem?_eq_some_iff.mp hc).1
 show ((su v).length - (i + 1)) + Rt su stk + 1 = ((su v).length - i) + Rt su stk
 exact o1 hi
theorem Rt.pop {su : Nat → List Nat} {v i : Nat} {stk : List (Nat × Nat)} : Rt su stk ≤ Rt su ((v, i) :: stk) := by
 show Rt su stk ≤ ((su v).length - i) + Rt su stk
 exact o120
theorem Rt.push {su : Nat → List Nat} {c : Nat} {stk : List (Nat × Nat)} : Rt su ((c, 0) :: stk) = (su c).length + Rt su stk := by
 show ((su c).length - 0) + Rt su stk = _
 exact o125
structure Dfs (su : Nat → List Nat) (ord : List Nat) (c : Option Nat) (stk : List (Nat × Nat)) (fin un : List Nat) : Prop where
 ch : Ch su fin c stk
 topo : Topo su fin
 stk_ord : ∀ v ∈ stk.map (·.1), v ∈ ord
 fin_ord : ∀ v ∈ fin, v ∈ ord
 nodup : (stk.map (·.1)).Nodup
 un_ord : ∀ v ∈ ord, v ∈ stk.map (·.1) ∨ v ∈ fin ∨ v ∈ un
 apart : ∀ v ∈ stk.map (·.1), v ∉ fin
 fnd : fin.Nodup
theorem Dfs.next {su : Nat → List Nat} {ord : List Nat} {stk : List (Nat × Nat)} {fin un : List Nat} {v i c : Nat} (D : Dfs su ord none ((v, i) :: stk) fin un) (hc : (su v)[i]? = some c) : Dfs su ord (some c) ((v, i + 1) :: stk) fin un where
 ch := D.ch.next hc
 topo := D.topo
 stk_ord := D.stk_ord
 fin_ord := D.fin_ord
 nodup := D.nodup
 un_ord := D.un_ord
 apart := D.apart
 fnd := D.fnd
theorem Dfs.pop {su : Nat → List Nat} {ord : List Nat} {stk : List (Nat × Nat)} {fin un : List Nat} {v i : Nat} (D : Dfs su ord none ((v, i) :: stk) fin un) (hc : (su v)[i]? = none) : Dfs su ord none stk (v :: fin) un where
 ch := (D.ch.pop D.topo hc).1
 topo := (D.ch.pop D.topo hc).2
 stk_ord := fun x hx => D.stk_ord x (.tail _ hx)
 fin_ord := fun x hx => (List.mem_cons.mp hx).elim (fun e => by rw [e]; exact D.stk_ord v (.head _)) (D.fin_ord x)
 nodup := (List.nodup_cons.mp D.nodup).2
 un_ord := fun x hx => by
  rcases D.un_ord x hx with q | q | q
  ·rcases List.mem_cons.mp q with q | q
   ·exact .inr (.inl (by rw [q]; exact .head _))
   ·exact .inl q
  ·exact .inr (.inl (.tail _ q))
  ·exact .inr (.inr q)
 apart := fun x hx q => by
  rcases List.mem_cons.mp q with q | q
  ·rw [q] at hx; exact (List.nodup_cons.mp D.nodup).1 hx
  ·exact D.apart x (.tail _ hx) q
 fnd := List.nodup_cons.mpr ⟨D.apart v (.head _), D.fnd⟩
theorem Dfs.back {su : Nat → List Nat} {ord : List Nat} {stk : List (Nat × Nat)} {fin un : List Nat} {c : Nat} (D : Dfs su ord (some c) stk fin un) (hc : c ∈ fin) : Dfs su ord none stk fin un where
 ch := D.ch.back hc
 topo := D.topo
 stk_ord := D.stk_ord
 fin_ord := D.fin_ord
 nodup := D.nodup
 un_ord := D.un_ord
 apart := D.apart
 fnd := D.fnd
theorem Dfs.push {su : Nat → List Nat} {ord : List Nat} {stk : List (Nat × Nat)} {fin un : List Nat} {c : Nat} (D : Dfs su ord (some c) stk fin un) (ho : c ∈ ord) (hs : c ∉ stk.map (·.1)) (hf : c ∉ fin) :
  Dfs su ord none ((c, 0) :: stk) fin (un.erase c) ∧ c ∈ un := by
 refine ⟨⟨D.ch.push, D.topo, fun x hx => ?_, D.fin_ord, List.nodup_cons.mpr ⟨hs, D.nodup⟩, fun x hx => ?_, fun x hx => ?_, D.fnd⟩, ?_⟩
 ·rcases List.mem_cons.mp hx with q | q
  ·rw [q]; exact ho
  ·exact D.stk_ord x q
 ·rcases D.un_ord x hx with q | q | q
  ·exact .inl (.tail _ q)
  ·exact .inr (.inl q)
  ·by_cases e : x = c
   ·exact .inl (by rw [e]; exact .head _)
   ·exact .inr (.inr ((List.mem_erase_of_ne e).mpr q))
 ·rcases List.mem_cons.mp hx with q | q
  ·rw [q]; exact hf
  ·exact D.apart x q
 ·rcases D.un_ord c ho with q | q | q
  ·exact absurd q hs
  ·exact absurd q hf
  ·exact q
theorem Dfs.start {su : Nat → List Nat} {ord fin un : List Nat} {c : Nat} (D : Dfs su ord none [] fin un) : Dfs su ord (some c) [] fin un where
 ch := trivial
 topo := D.topo
 stk_ord := D.stk_ord
 fin_ord := D.fin_ord
 nodup := D.nodup
 un_ord := D.un_ord
 apart := D.apart
 fnd := D.fnd
theorem Dfs.init {su : Nat → List Nat} {ord : List Nat} : Dfs su ord none [] [] ord where
 ch := trivial
 topo := trivial
 stk_ord := fun _ h => nomatch h
 fin_ord := fun _ h => nomatch h
 nodup := List.nodup_nil
 un_ord := fun _ h => .inr (.inr h)
 apart := fun _ h => nomatch h
 fnd := List.nodup_nil
theorem Dfs.ring {su : Nat → List Nat} {ord : List Nat} {stk : List (Nat × Nat)} {fin un : List Nat} {c : Nat} (D : Dfs su ord (some c) stk fin un) (hc : c ∈ stk.map (·.1)) : ∃ l : List Nat, (∀ v ∈ l, v ∈ ord) ∧ Ring su l :=
 let ⟨l, h1, h2⟩ := D.ch.ring hc
 ⟨l, fun v hv => D.stk_ord v (h1 v hv), h2⟩
end
section
theorem FilesAre.unsnoc : ∀ {vs : List Value} {js : List Nat} {j : Nat}, FilesAre vs (js ++ [j]) → ∃ us t, vs = us ++ [.str (fname j) t] ∧ FilesAre us js
 | _, [], _, h => by
  cases h with
  | cons h' => cases h'; exact ⟨[], _, rfl, .nil⟩
 | _, _ :: r, j, h => by
  cases h with
  | cons h' =>
   obtain ⟨us, t, e, k⟩ := FilesAre.unsnoc (js := r) h'
   exact i2_2 (_ :: us) t (by rw [e]; rfl) (.cons k)
noncomputable def seenS (sn : List Nat) : Str → Bool := fun k => (sn.map fname).contains k
theorem seenS_add (sn : List Nat) (j : Nat) : (fun k' => seenS sn k' || decide (k' = fname j)) = seenS (j :: sn) := by
 funext k
 unfold seenS
 rw [List.map_cons, List.contains_cons, Bool.or_comm]
 congr 1
theorem seenS_mem {sn : List Nat} (hs : ∀ i ∈ sn, i < 5) {j : Nat} (hj : j < 5) : seenS sn (fname j) = decide (j ∈ sn) := by
 unfold seenS
 rw [Bool.eq_iff_iff, List.contains_iff_mem, List.mem_map, decide_eq_true_eq]
 exact ⟨fun ⟨i, hi, e⟩ => by rw [← fname_inj i (hs i hi) j hj e]; exact hi, fun h => ⟨j, h, rfl⟩⟩
noncomputable def idxOf : Nat → List (Nat × Tok) → List (Str × Value)
 | _, [] => []
 | p, (v, t) :: r => (fname v, .int p t) :: idxOf (p + 1) r
theorem idxOf_len : ∀ (l : List (Nat × Tok)) (p : Nat), (idxOf p l).length = l.length
 | [], _ => rfl
 | (_, _) :: r, p => by show (idxOf (p + 1) r).length + 1 = r.length + 1; rw [idxOf_len r]
theorem idxOf_app : ∀ (l k : List (Nat × Tok)) (p : Nat), idxOf p (l ++ k) = idxOf p l ++ idxOf (p + l.length) k
 | [], k, p => rfl
 | (v, t) :: r, k, p => by
  show (fname v, Value.int p t) :: idxOf (p + 1) (r ++ k) = (fname v, Value.int p t) :: (idxOf (p + 1) r ++ idxOf (p + (r.length + 1)) k)
  rw [idxOf_app r k, show p + 1 + r.length = p + (r.length + 1) from by (exact o26)]
theorem idxOf_keys : ∀ (l : List (Nat × Tok)) (p : Nat), (idxOf p l).map (·.1) = l.map fun q => fname q.1
 | [], _ => rfl
 | (_, _) :: r, p => by
  show _ :: (idxOf (p + 1) r).map (·.1) = _ :: _
  rw [idxOf_keys r]
theorem idx_none {l : List (Nat × Tok)} (hl : ∀ q ∈ l, q.1 < 5) {j : Nat} (hj : j < 5) (hn : j ∉ l.map (·.1)) (p : Nat) : fname j ∉ (idxOf p l).map (·.1) := by
 rw [idxOf_keys]
 intro h
 refine e1_2 (List.mem_map.mp h) ?_
 intro q hq e
 exact hn (List.mem_map.mpr ⟨q, hq, fname_inj _ (hl q hq) _ hj e⟩)
theorem valueAt_app {a b : List (Str × Value)} {k : Str} (h : k ∉ a.map (·.1)) : valueAt (a ++ b) k = valueAt b k := by
 unfold valueAt
 rw [List.find?_append]
 have : List.find? (fun kv => decide (kv.1 = k)) a = none := by
  rw [List.find?_eq_none]
  intro q hq e
  exact h (List.mem_map.mpr ⟨q, hq, of_decide_eq_true e⟩)
 rw [this, Option.none_or]
theorem idx_in : ∀ {l : List (Nat × Tok)} {j : Nat} (p : Nat), (∀ q ∈ l, q.1 < 5) → j < 5 → j ∈ l.map (·.1) → ∃ n t, p ≤ n ∧ n < p + l.length ∧ valueAt (idxOf p l) (fname j) = some (.int n t)
 | (v, t) :: r, j, p, hl, hj, h => by
  by_cases e : j = v
  ·subst e
   exact i2_3 p t (Nat.le_refl _) (by rw [List.length_cons]; (exact Nat.lt_add_of_pos_right (Nat.succ_pos _))) (by unfold valueAt idxOf; rw [List.find?_cons_of_pos (by simp)]; rfl)
  ·have h' : j ∈ r.map (·.1) := (List.mem_cons.mp h).resolve_left e
   refine e2_3 (idx_in (p + 1) (fun q hq => hl q (.tail _ hq)) hj h') ?_
   intro n t' h1 h2 h3
   refine i2_3 n t' (by exact o128 h1) (by rw [List.length_cons]; (exact o108 h2)) ?_
   have hne : ¬ fname v = fname j := fun q => e (fname_inj _ (hl _ (.head _)) _ hj q).symm
   show valueAt ([(fname v, Value.int p t)] ++ idxOf (p + 1) r) (fname j) = _
   rw [valueAt_app (by simpa using fun q => hne q.symm)]
   exact h3
theorem idx_out {l : List (Nat × Tok)} {j : Nat} (p : Nat) (hl : ∀ q ∈ l, q.1 < 5) (hj : j < 5) (h : j ∉ l.map (·.1)) : valueAt (idxOf p l) (fname j) = none := by
 have := idx_none hl hj h p
 unfold valueAt
 have e : List.find? (fun kv => decide (kv.1 = fname j)) (idxOf p l) = none := by
  rw [List.find?_eq_none]
  intro q hq e
  exact this (List.mem_map.mpr ⟨q, hq, of_decide_eq_true e⟩)
 rw [e]; rfl
theorem stored_new {a : List (Str × Value)} {k : Str} {v : Value} (h : k ∉ a.map (·.1)) : stored a k v = a ++ [(k, v)] := by
 unfold stored
 rw [if_neg]
 intro q
 refine e1_2 (List.any_eq_true.mp q) ?_
 intro x hx e
 exact h (List.mem_map.mpr ⟨x, hx, of_decide_eq_true e⟩)
theorem idx_store {l : List (Nat × Tok)} {j : Nat} {t : Tok} (hl : ∀ q ∈ l, q.1 < 5) (hj : j < 5) (h : j ∉ l.map (·.1)) : stored (idxOf 0 l) (fname j) (.int l.length t) = idxOf 0 (l ++ [(j, t)]) := by
 rw [stored_new (idx_none hl hj h 0), idxOf_app, Nat.zero_add]
 rfl
theorem idx_del {l : List (Nat × Tok)} {j : Nat} {t : Tok} (hl : ∀ q ∈ l, q.1 < 5) (hj : j < 5) (h : j ∉ l.map (·.1)) : without (idxOf 0 (l ++ [(j, t)])) (fname j) = idxOf 0 l := by
 rw [idxOf_app]
 unfold without
 rw [List.filter_append]
 have e1 := without_of_not_mem (idxOf 0 l) (fname j) (idx_none hl hj h 0)
 unfold without at e1
 rw [e1]
 show idxOf 0 l ++ List.filter _ [(fname j, Value.int _ t)] = _
 rw [List.filter_cons_of_neg (by simp), List.filter_nil, List.append_nil]
structure Wk where
 v : Nat
 i : Nat
 mw : Addr
 it : Addr
 tk : Tok
structure DS (w : World) (g : G) (S T Z X : Addr) (base news : List (Addr × Obj)) (sl : List Nat) (il : List Addr) (sn : List Nat) (ix : List (Nat × Tok)) (wk : List Wk) : Prop where
 nd : ND news
 old : ∀ p ∈ base, p ∈ news
 fresh : ∀ p ∈ base, p.1 ≠ S ∧ p.1 ≠ T ∧ p.1 ≠ Z ∧ p.1 ≠ X
 hST : S ≠ T
 stack : ∃ vs n, FilesAre vs sl ∧ (S, W.listOf vs.toArray n) ∈ news
 its : ∃ n, (T, W.listOf (il.map Value.ref).toArray n) ∈ news
 seen : ∃ so : Obj, so.SetObjOf (PySem.strKind PySem.Challenge.rw_ik0081_01.prog w) (seenS sn) sn.length ∧ (Z, so) ∈ news
 idx : ∃ xo : Obj, xo.IsDictOf (PySem.strKind PySem.Challenge.rw_ik0081_01.prog w) (idxOf 0 ix) ∧ (X, xo) ∈ news
 walk : ∀ q ∈ wk, (q.mw, mwObj q.it) ∈ news ∧ (q.it, liObj (g.Lx q.v) q.i) ∈ news ∧ ∀ p ∈ base, p.1 ≠ q.it
 wnd : (wk.map (·.it)).Nodup
section
variable {w : World} {g : G} {S T Z X : Addr} {base news : List (Addr × Obj)} {sl : List Nat} {il : List Addr} {sn : List Nat} {ix : List (Nat × Tok)} {wk : List Wk}
theorem set_cls {so : Obj} {f : Str → Bool} {n : Nat} (h : so.SetObjOf (PySem.strKind PySem.Challenge.rw_ik0081_01.prog w) f n) : so.cls = .type "set" := by
 exact h.1.1
theorem dict_cls {so : Obj} {kvs : List (Str × Value)} (h : so.IsDictOf (PySem.strKind PySem.Challenge.rw_ik0081_01.prog w) kvs) : so.cls = .type "dict" := by
 refine e2_2 h ?_
 (try clear h); intro _ _ h1 _
 exact h1.1
theorem DS.cons (D : DS w g S T Z X base news sl il sn ix wk) {a : Addr} {o : Obj} (hn : ND ((a, o) :: news)) : DS w g S T Z X base ((a, o) :: news) sl il sn ix wk where
 nd := hn
 old := fun p hp => .tail _ (D.old p hp)
 fresh := D.fresh
 hST := D.hST
 stack := e2_2 D.stack fun vs n h1 h2 => i2_2 vs n h1 (.tail _ h2)
 its := e1_1 D.its fun n h => i1_1 n (.tail _ h)
 seen := e1_2 D.seen fun so h1 h2 => i1_2 so h1 (.tail _ h2)
 idx := e1_2 D.idx fun so h1 h2 => i1_2 so h1 (.tail _ h2)
 walk := fun q hq => e0_3 (D.walk q hq) fun h1 h2 h3 => i0_3 (.tail _ h1) (.tail _ h2) h3
 wnd := D.wnd
theorem DS.seenE (D : DS w g S T Z X base news sl il sn ix wk) {so : Obj} {j : Nat} {h₀ h : Heap} {L : Addr} (N : News h₀ L h (rep Z so news)) (hs : so.SetObjOf (PySem.strKind PySem.Challenge.rw_ik0081_01.prog w) (seenS (j :: sn)) (j :: sn).length) :
  ∃ n2, News h₀ L h n2 ∧ DS w g S T Z X base n2 sl il (j :: sn) ix wk := by
 refine e1_2 D.seen ?_
 intro zo z1 z2
 have ne : ∀ {p : Addr × Obj}, p ∈ news → p.2.cls ≠ .type "set" → p ∈ rep Z so news := fun {p} hp hc => mem_rep_ne' hp (D.nd.neC (o := p.2) hp z2 (by rw [set_cls z1]; exact hc))
 refine ⟨_, N, D.nd.rep, fun p hp => mem_rep_ne' (D.old p hp) (D.fresh p hp).2.2.1, D.fresh, D.hST, ?_, ?_, ⟨so, hs, mem_rep_self z2⟩, ?_, ?_, D.wnd⟩
 ·refine e2_2 D.stack ?_
  intro vs n h1 h2
  exact i2_2 vs n h1 (ne h2 (by simp))
 ·refine e1_1 D.its ?_
  intro n h
  exact ⟨n, ne h (by simp)⟩
 ·refine e1_2 D.idx ?_
  intro xo h1 h2
  exact i1_2 xo h1 (ne h2 (by rw [dict_cls h1]; simp))
 ·intro q hq
  refine e0_3 (D.walk q hq) ?_
  intro h1 h2 h3
  exact i0_3 (ne h1 (by simp)) (ne h2 (by simp)) h3
theorem DS.idxE (D : DS w g S T Z X base news sl il sn ix wk) {xo : Obj} {ix' : List (Nat × Tok)} {h₀ h : Heap} {L : Addr} (N : News h₀ L h (rep X xo news)) (hs : xo.IsDictOf (PySem.strKind PySem.Challenge.rw_ik0081_01.prog w) (idxOf 0 ix')) :
  ∃ n2, News h₀ L h n2 ∧ DS w g S T Z X base n2 sl il sn ix' wk := by
 refine e1_2 D.idx ?_
 intro zo z1 z2
 have ne : ∀ {p : Addr × Obj}, p ∈ news → p.2.cls ≠ .type "dict" → p ∈ rep X xo news := fun {p} hp hc => mem_rep_ne' hp (D.nd.neC (o := p.2) hp z2 (by rw [dict_cls z1]; exact hc))
 refine ⟨_, N, D.nd.rep, fun p hp => mem_rep_ne' (D.old p hp) (D.fresh p hp).2.2.2, D.fresh, D.hST, ?_, ?_, ?_, ⟨xo, hs, mem_rep_self z2⟩, ?_, D.wnd⟩
 ·refine e2_2 D.stack ?_
  intro vs n h1 h2
  exact i2_2 vs n h1 (ne h2 (by simp))
 ·refine e1_1 D.its ?_
  intro n h
  exact ⟨n, ne h (by simp)⟩
 ·refine e1_2 D.seen ?_
  intro xo h1 h2
  exact i1_2 xo h1 (ne h2 (by rw [set_cls h1]; simp))
 ·intro q hq
  refine e0_3 (D.walk q hq) ?_
  intro h1 h2 h3
  exact i0_3 (ne h1 (by simp)) (ne h2 (by simp)) h3
theorem DS.stackE (D : DS w g S T Z X base news sl il sn ix wk) {vs : List Value} {sl' : List Nat} {n : Nat} {h₀ h : Heap} {L : Addr} (N : News h₀ L h (rep S (W.listOf vs.toArray n) news)) (hs : FilesAre vs sl') :
  ∃ n2, News h₀ L h n2 ∧ DS w g S T Z X base n2 sl' il sn ix wk := by
 refine e2_2 D.stack ?_
 intro zo zn z1 z2
 have ne : ∀ {p : Addr × Obj}, p ∈ news → p.2.cls ≠ .type "list" → p ∈ rep S (W.listOf vs.toArray n) news := fun {p} hp hc => mem_rep_ne' hp (D.nd.neC (o := p.2) hp z2 hc)
 refine ⟨_, N, D.nd.rep, fun p hp => mem_rep_ne' (D.old p hp) (D.fresh p hp).1, D.fresh, D.hST, ⟨vs, n, hs, mem_rep_self z2⟩, ?_, ?_, ?_, ?_, D.wnd⟩
 ·refine e1_1 D.its ?_
  intro n h
  exact ⟨n, mem_rep_ne h D.hST.symm⟩
 ·refine e1_2 D.seen ?_
  intro xo h1 h2
  exact i1_2 xo h1 (ne h2 (by rw [set_cls h1]; simp))
 ·refine e1_2 D.idx ?_
  intro xo h1 h2
  exact i1_2 xo h1 (ne h2 (by rw [dict_cls h1]; simp))
 ·intro q hq
  refine e0_3 (D.walk q hq) ?_
  intro h1 h2 h3
  exact i0_3 (ne h1 (by simp)) (ne h2 (by simp)) h3
theorem DS.itsE (D : DS w g S T Z X base news sl il sn ix wk) {il' : List Addr} {n : Nat} {h₀ h : Heap} {L : Addr} (N : News h₀ L h (rep T (W.listOf (il'.map Value.ref).toArray n) news)) :
  ∃ n2, News h₀ L h n2 ∧ DS w g S T Z X base n2 sl il' sn ix wk := by
 refine e1_1 D.its ?_
 intro zn z2
 have ne : ∀ {p : Addr × Obj}, p ∈ news → p.2.cls ≠ .type "list" → p ∈ rep T (W.listOf (il'.map Value.ref).toArray n) news := fun {p} hp hc => mem_rep_ne' hp (D.nd.neC (o := p.2) hp z2 hc)
 refine ⟨_, N, D.nd.rep, fun p hp => mem_rep_ne' (D.old p hp) (D.fresh p hp).2.1, D.fresh, D.hST, ?_, ⟨n, mem_rep_self z2⟩, ?_, ?_, ?_, D.wnd⟩
 ·refine e2_2 D.stack ?_
  intro vs n h1 h2
  exact i2_2 vs n h1 (mem_rep_ne h2 D.hST)
 ·refine e1_2 D.seen ?_
  intro xo h1 h2
  exact i1_2 xo h1 (ne h2 (by rw [set_cls h1]; simp))
 ·refine e1_2 D.idx ?_
  intro xo h1 h2
  exact i1_2 xo h1 (ne h2 (by rw [dict_cls h1]; simp))
 ·intro q hq
  refine e0_3 (D.walk q hq) ?_
  intro h1 h2 h3
  exact i0_3 (ne h1 (by simp)) (ne h2 (by simp)) h3
theorem DS.topE {q : Wk} (D : DS w g S T Z X base news sl il sn ix (q :: wk)) {o : Obj} {h₀ h : Heap} {L : Addr} (N : News h₀ L h (rep q.it o news)) :
  ∃ n2, News h₀ L h n2 ∧ DS w g S T Z X base n2 sl il sn ix wk ∧ (q.mw, mwObj q.it) ∈ n2 ∧ (q.it, o) ∈ n2 := by
 refine e0_3 (D.walk q (.head _)) ?_
 intro q1 q2 q3
 have ne : ∀ {p : Addr × Obj}, p ∈ news → p.2.cls ≠ .type "list_iterator" → p ∈ rep q.it o news := fun {p} hp hc => mem_rep_ne' hp (D.nd.neC (o := p.2) hp q2 hc)
 refine i1_4 _ N ⟨D.nd.rep, fun p hp => mem_rep_ne' (D.old p hp) (q3 p hp), D.fresh, D.hST, ?_, ?_, ?_, ?_, ?_, (List.nodup_cons.mp D.wnd).2⟩ (ne q1 (by simp)) (mem_rep_self q2)
 ·refine e2_2 D.stack ?_
  intro vs n h1 h2
  exact i2_2 vs n h1 (ne h2 (by simp))
 ·refine e1_1 D.its ?_
  intro n h
  exact ⟨n, ne h (by simp)⟩
 ·refine e1_2 D.seen ?_
  intro xo h1 h2
  exact i1_2 xo h1 (ne h2 (by rw [set_cls h1]; simp))
 ·refine e1_2 D.idx ?_
  intro xo h1 h2
  exact i1_2 xo h1 (ne h2 (by rw [dict_cls h1]; simp))
 ·intro r hr
  refine e0_3 (D.walk r (.tail _ hr)) ?_
  intro h1 h2 h3
  exact i0_3 (ne h1 (by simp)) (mem_rep_ne h2 fun e => (List.nodup_cons.mp D.wnd).1 (List.mem_map.mpr ⟨r, hr, e⟩)) h3
theorem DS.nextE {q : Wk} (D : DS w g S T Z X base news sl il sn ix (q :: wk)) {h₀ h : Heap} {L : Addr} (N : News h₀ L h (rep q.it (liObj (g.Lx q.v) (q.i + 1)) news)) :
  ∃ n2, News h₀ L h n2 ∧ DS w g S T Z X base n2 sl il sn ix (⟨q.v, q.i + 1, q.mw, q.it, q.tk⟩ :: wk) := by
 refine e1_4 (D.topE N) ?_
 intro n2 N2 D2 h1 h2
 refine i1_2 n2 N2 ({ D2 with walk := fun r hr => ?_, wnd := D.wnd })
 rcases List.mem_cons.mp hr with rfl | hr
 ·exact i0_3 h1 h2 ((D.walk q (.head _)).2.2)
 ·exact D2.walk r hr
theorem rep_lt {a b : Addr} {o : Obj} {l : List (Addr × Obj)} (h : ∀ p ∈ l, p.1 < a) : ∀ p ∈ rep b o l, p.1 < a := fun p hp => by
 refine e1_2 (List.mem_map.mp hp) ?_
 intro q hq e
 by_cases z : q.1 = b
 ·rw [if_pos z] at e
  subst e
  rw [← z]; exact h q hq
 ·rw [if_neg z] at e
  subst e
  exact h q hq
theorem DS.walkNewE (D : DS w g S T Z X base news sl il sn ix wk) {It M : Addr} {v n : Nat} {h₀ h : Heap} {L : Addr}
  (N : News h₀ L h ((M, mwObj It) :: (It, liObj (g.Lx v) 0) :: rep T (W.listOf (il.map Value.ref ++ [Value.ref M]).toArray n) news)) (l1 : ∀ p ∈ news, p.1 < It) (l2 : It < M) :
  ∃ n2, News h₀ L h n2 ∧ ∀ tk, DS w g S T Z X base n2 sl (il ++ [M]) sn ix (⟨v, 0, M, It, tk⟩ :: wk) := by
 have e : il.map Value.ref ++ [Value.ref M] = (il ++ [M]).map Value.ref := by rw [List.map_append]; rfl
 rw [e] at N
 refine e1_1 D.its ?_
 intro zn z2
 have ne : ∀ {p : Addr × Obj}, p ∈ news → p.2.cls ≠ .type "list" → p ∈ rep T (W.listOf ((il ++ [M]).map Value.ref).toArray n) news := fun {p} hp hc => mem_rep_ne' hp (D.nd.neC (o := p.2) hp z2 hc)
 refine i1_2 _ N (fun tk => ⟨?_, fun p hp => .tail _ (.tail _ (mem_rep_ne' (D.old p hp) (D.fresh p hp).2.1)), D.fresh, D.hST, ?_, ⟨n, .tail _ (.tail _ (mem_rep_self z2))⟩, ?_, ?_, ?_, ?_⟩)
 ·refine ND.cons (ND.cons D.nd.rep (rep_lt l1)) fun p hp => ?_
  rcases List.mem_cons.mp hp with rfl | hp
  ·exact l2
  ·exact Nat.lt_trans (rep_lt l1 p hp) l2
 ·refine e2_2 D.stack ?_
  intro vs n h1 h2
  exact i2_2 vs n h1 (.tail _ (.tail _ (mem_rep_ne h2 D.hST)))
 ·refine e1_2 D.seen ?_
  intro xo h1 h2
  exact i1_2 xo h1 (.tail _ (.tail _ (ne h2 (by rw [set_cls h1]; simp))))
 ·refine e1_2 D.idx ?_
  intro xo h1 h2
  exact i1_2 xo h1 (.tail _ (.tail _ (ne h2 (by rw [dict_cls h1]; simp))))
 ·intro q hq
  rcases List.mem_cons.mp hq with rfl | hq
  ·exact i0_3 (.head _) (.tail _ (.head _)) (fun p hp => Nat.ne_of_lt (l1 p (D.old p hp)))
  ·refine e0_3 (D.walk q hq) ?_
   intro h1 h2 h3
   exact i0_3 (.tail _ (.tail _ (ne h1 (by simp)))) (.tail _ (.tail _ (ne h2 (by simp)))) h3
 ·refine List.nodup_cons.mpr ⟨fun q => ?_, D.wnd⟩
  refine e1_2 (List.mem_map.mp q) ?_
  intro r hr e
  exact Nat.lt_irrefl _ (by have := l1 _ (D.walk r hr).2.1; rw [show r.it = It from e] at this; exact this)
theorem DS.start {xo : Obj} {led : Bool} (hnd : ND news) (hS : ∀ p ∈ news, p.1 < S) (hT : S < T ∧ ∀ p ∈ news, p.1 < T) (hZ : T < Z ∧ S < Z ∧ ∀ p ∈ news, p.1 < Z) (hX : Z < X ∧ T < X ∧ S < X ∧ ∀ p ∈ news, p.1 < X)
  (h1 : xo.IsDictOf (PySem.strKind PySem.Challenge.rw_ik0081_01.prog w) []) (h2 : Obj.SetObjOf (PySem.strKind PySem.Challenge.rw_ik0081_01.prog w) { cls := .type "set", data := .set #[] 0 (.fresh 0 0 led) } (fun _ => false) 0) :
  DS w g S T Z X news ((X, xo) :: (Z, { cls := .type "set", data := .set #[] 0 (.fresh 0 0 led) }) :: (T, W.listOf #[] 0) :: (S, W.listOf #[] 0) :: news) [] [] [] [] [] where
 nd := by
  refine ND.cons (ND.cons (ND.cons (ND.cons hnd hS) fun p hp => ?_) fun p hp => ?_) fun p hp => ?_
  ·rcases List.mem_cons.mp hp with rfl | hp
   ·exact hT.1
   ·exact hT.2 p hp
  ·rcases List.mem_cons.mp hp with rfl | hp
   ·exact hZ.1
   ·rcases List.mem_cons.mp hp with rfl | hp
    ·exact hZ.2.1
    ·exact hZ.2.2 p hp
  ·rcases List.mem_cons.mp hp with rfl | hp
   ·exact hX.1
   ·rcases List.mem_cons.mp hp with rfl | hp
    ·exact hX.2.1
    ·rcases List.mem_cons.mp hp with rfl | hp
     ·exact hX.2.2.1
     ·exact hX.2.2.2 p hp
 old := fun p hp => .tail _ (.tail _ (.tail _ (.tail _ hp)))
 fresh := fun p hp => ⟨Nat.ne_of_lt (hS p hp), Nat.ne_of_lt (hT.2 p hp), Nat.ne_of_lt (hZ.2.2 p hp), Nat.ne_of_lt (hX.2.2.2 p hp)⟩
 hST := Nat.ne_of_lt hT.1
 stack := ⟨[], 0, .nil, .tail _ (.tail _ (.tail _ (.head _)))⟩
 its := ⟨0, .tail _ (.tail _ (.head _))⟩
 seen := ⟨_, h2, .tail _ (.head _)⟩
 idx := ⟨xo, h1, .head _⟩
 walk := fun _ h => nomatch h
 wnd := List.nodup_nil
theorem DS.iter (D : DS w g S T Z X base news sl il sn ix wk) {I : Addr} {o : Obj} (hn : ND ((I, o) :: news)) : DS w g S T Z X ((I, o) :: base) ((I, o) :: news) sl il sn ix wk := by
 have hh := hn.head
 refine e2_2 D.stack ?_
 intro vs n h1 h2
 refine e1_1 D.its ?_
 intro n' h3
 refine e1_2 D.seen ?_
 intro so h4 h5
 refine e1_2 D.idx ?_
 intro xo h6 h7
 refine { D.cons hn with old := fun p hp => ?_, fresh := fun p hp => ?_, walk := fun q hq => ?_ }
 ·rcases List.mem_cons.mp hp with rfl | hp
  ·exact .head _
  ·exact .tail _ (D.old p hp)
 ·rcases List.mem_cons.mp hp with rfl | hp
  ·exact i0_4 (Ne.symm (hh _ h2)) (Ne.symm (hh _ h3)) (Ne.symm (hh _ h5)) (Ne.symm (hh _ h7))
  ·exact D.fresh p hp
 ·refine e0_3 (D.walk q hq) ?_
  intro a b c
  refine i0_3 (.tail _ a) (.tail _ b) (fun p hp => ?_)
  rcases List.mem_cons.mp hp with rfl | hp
  ·exact Ne.symm (hh _ b)
  ·exact c p hp
theorem DS.drop {I : Addr} {o : Obj} (D : DS w g S T Z X ((I, o) :: base) news sl il sn ix []) (hI : ∀ p ∈ base, p.1 ≠ I) : DS w g S T Z X base (drp I news) sl il sn ix [] := by
 have hf := D.fresh _ (.head _)
 refine e2_2 D.stack ?_
 intro vs n h1 h2
 refine e1_1 D.its ?_
 intro n' h3
 refine e1_2 D.seen ?_
 intro so h4 h5
 refine e1_2 D.idx ?_
 intro xo h6 h7
 exact { nd := D.nd.drp, old := fun p hp => mem_drp.mpr ⟨D.old p (.tail _ hp), hI p hp⟩, fresh := fun p hp => D.fresh p (.tail _ hp), hST := D.hST, stack := ⟨vs, n, h1, mem_drp.mpr ⟨h2, Ne.symm hf.1⟩⟩, its := ⟨n', mem_drp.mpr ⟨h3, Ne.symm hf.2.1⟩⟩, seen := ⟨so, h4, mem_drp.mpr ⟨h5, Ne.symm hf.2.2.1⟩⟩, idx := ⟨xo, h6, mem_drp.mpr ⟨h7, Ne.symm hf.2.2.2⟩⟩, walk := fun _ hq => (nomatch hq), wnd := D.wnd }
noncomputable abbrev slOf (wk : List Wk) : List Nat := wk.reverse.map (·.v)
noncomputable abbrev ilOf (wk : List Wk) : List Addr := wk.reverse.map (·.mw)
noncomputable abbrev ixOf (wk : List Wk) : List (Nat × Tok) := wk.reverse.map fun q => (q.v, q.tk)
noncomputable abbrev stOf (wk : List Wk) : List (Nat × Nat) := wk.map fun q => (q.v, q.i)
theorem slOf_cons {q : Wk} {wk : List Wk} : slOf (q :: wk) = slOf wk ++ [q.v] := by simp
theorem ilOf_cons {q : Wk} {wk : List Wk} : ilOf (q :: wk) = ilOf wk ++ [q.mw] := by simp
theorem ixOf_cons {q : Wk} {wk : List Wk} : ixOf (q :: wk) = ixOf wk ++ [(q.v, q.tk)] := by simp
structure FS (w : World) (g : G) (S T Z X : Addr) (base news : List (Addr × Obj)) (c : Option Nat) (wk : List Wk) (sn fin un pre : List Nat) : Prop where
 D : DS w g S T Z X base news (slOf wk) (ilOf wk) sn (ixOf wk) wk
 F : Dfs g.su g.ord c (stOf wk) fin un
 iff : ∀ j, j ∈ sn ↔ j ∈ wk.map (·.v) ∨ j ∈ fin
 snd : sn.Nodup
 pre : ∀ j ∈ pre, j ∈ fin
theorem stOf_fst {wk : List Wk} : (stOf wk).map (·.1) = wk.map (·.v) := by
 rw [List.map_map]; rfl
theorem FS.ord {c : Option Nat} {fin un pre : List Nat} (f : FS w g S T Z X base news c wk sn fin un pre) : ∀ j ∈ sn, j ∈ g.ord := fun j hj => by
 rcases (f.iff j).mp hj with q | q
 ·exact f.F.stk_ord j (by rw [stOf_fst]; exact q)
 ·exact f.F.fin_ord j q
theorem FS.push {c : Nat} {un fin pre : List Nat} {n7 : List (Addr × Obj)} {M It : Addr} {tk : Tok} (f : FS w g S T Z X base news (some c) wk sn fin un pre)
  (D7 : DS w g S T Z X base n7 (slOf wk ++ [c]) (ilOf wk ++ [M]) (c :: sn) (ixOf wk ++ [(c, tk)]) (⟨c, 0, M, It, tk⟩ :: wk)) (hco : c ∈ g.ord) (hcs : c ∉ sn) :
  ∃ q, FS w g S T Z X base n7 none (q :: wk) (c :: sn) fin (un.erase c) pre ∧ Wt g.su (un.erase c) + Rt g.su (stOf (q :: wk)) ≤ Wt g.su un + Rt g.su (stOf wk) := by
 have hcw : c ∉ wk.map (·.v) := fun q => hcs ((f.iff c).mpr (.inl q))
 have hcf : c ∉ fin := fun q => hcs ((f.iff c).mpr (.inr q))
 first | refine e1_1 (f.F.push hco (by rw [stOf_fst]; exact hcw) hcf) ?_ | refine e0_2 (f.F.push hco (by rw [stOf_fst]; exact hcw) hcf) ?_
 intro hpush hun
 refine i1_2 ⟨c, 0, M, It, tk⟩ ⟨by rw [slOf_cons, ilOf_cons, ixOf_cons]; exact D7, hpush, fun x => ?_, List.nodup_cons.mpr ⟨hcs, f.snd⟩, f.pre⟩ ?_
 ·rw [List.mem_cons, f.iff x, List.map_cons, List.mem_cons, or_assoc]
 ·have := Wt.erase (su := g.su) hun
  have h8 := Rt.push (su := g.su) (c := c) (stk := stOf wk)
  show Wt g.su (un.erase c) + Rt g.su ((c, 0) :: stOf wk) ≤ _
  exact o45 this h8
end
end
section
section
variable {prog : Program} {w : World} {A₀ A : Around} {s : Shared} {base h₀ : Heap} {outer : List Env} {L a : Addr} {m : Str → Option Value} {cn : Str} {cs : Scope} {ccd : Value} {cl : List (Str × Addr)} {news : List (Addr × Obj)} {K : Frag} {p : Program} {loose : List Str} {mean : ExcName → Option Value} {mg mb : Str → Option Value}
  {R : Result → Shared → Prop} {name qual : Str} {params : Arguments} {body : List Stmt} {scope : Scope} {dV kV doc pm cdv ct oc : Value} {an od : Option Addr} {osl : Array (Option Value)} {f : Addr} {args : Args} {binds : List (Str × Value)}
theorem memX {b : Addr} (hm : b ∈ (envX cn cs L a ccd cl :: outer).filterMap (·.frame)) : b = L ∨ b ∈ outer.filterMap (·.frame) := by
 refine e1_2 (List.mem_filterMap.mp hm) ?_
 intro env he hf
 rcases List.mem_cons.mp he with rfl | he
 ·exact .inl (Option.some.inj hf).symm
 ·exact .inr (List.mem_filterMap.mpr ⟨env, he, hf⟩)
theorem pushX {h : Heap} (K : Below A₀ base outer h₀) (F : Fr h₀ L h m) (hk : cs.kind = .function) : h.FunFrames base (envX cn cs L a ccd cl :: outer) := by
 have hnew : base.get? L = none := by
  cases hq : base.get? L with
  | none => rfl
  | some o => exact absurd (Nat.lt_of_lt_of_le (Heap.lt_size (K.stays L o hq)) F.above) (Nat.lt_irrefl _)
 exact .cons (by show cs.kind ≠ .module; rw [hk]; decide) rfl F.ns hnew (K.frames.of_keeps fun b o e _ => ⟨o, F.keep b o e, rfl⟩)
theorem enterX (B : Below A₀ base outer h₀) (F : Fr h₀ L s.heap m) (N : News h₀ L s.heap news) (hA : A.frames = some (envX cn cs L a ccd cl :: outer)) (hck : cs.kind = .function) :
  ∃ oL es ep, (hideAll s.heap (news.map (·.1))).get? L = some oL ∧ oL.data = .dict es ep ∧ (∀ h', h'.get? L = some oL → Heap.Ns h' L m) ∧ (∀ (sl : Array (Option Value)) h', h'.get? L = some { oL with slots := sl } → Heap.Ns h' L m) ∧
   h₀.StaysIn (hideAll s.heap (news.map (·.1))) ∧ Below A base (envX cn cs L a ccd cl :: outer) (hideAll s.heap (news.map (·.1))) := by
 have nm : ∀ b o, h₀.get? b = some o → b ∉ news.map (·.1) := fun b o e q => by
  refine e1_2 (List.mem_map.mp q) ?_
  intro p hp hz1
  subst hz1
  rw [(N p hp).2.2] at e; cases e
 have st : h₀.StaysIn (hideAll s.heap (news.map (·.1))) := fun b o e => hideAll_get _ (F.keep b o e) (nm b o e)
 refine e3_4 F.ns ?_
 intro oL es ep hL hLd hLk hLf
 have nL : L ∉ news.map (·.1) := fun q => by
  refine e1_2 (List.mem_map.mp q) ?_
  intro p hp e
  exact (N p hp).2.1 e
 have hLg := hideAll_get (news.map (·.1)) hL nL
 have B₁ := pushX (cn := cn) (cs := cs) (a := a) (ccd := ccd) (cl := cl) B F hck
 exact ⟨oL, es, ep, hLg, hLd, fun h' e => ⟨oL, es, ep, e, hLd, hLk, hLf⟩, fun sl h' e => ⟨_, es, ep, e, hLd, hLk, hLf⟩, st, ⟨hA, fun b o e => st b o (B.stays b o e), funFrames_hideAll B₁ fun env he b hb hf => by
  cases he with
  | head => exact nL ((Option.some.inj hf : L = b) ▸ hb)
  | tail _ he =>
   refine e2_2 (funFrames_in B.frames env he) ?_
   intro L₁ o₁ hf₁ ho₁
   rw [hf₁] at hf
   exact nm L₁ o₁ ho₁ ((Option.some.inj hf : L₁ = b) ▸ hb)⟩⟩
noncomputable def LeaveG (A₀ : Around) (base : Heap) (outer : List Env) (K : Frag) (p : Program) (loose : List Str) (mean : ExcName → Option Value) (mg mb : Str → Option Value) (fs : List Addr) (h₀ : Heap) (L : Addr) (m : Str → Option Value) (g : Heap) (R : Result → Shared → Prop) (v : Value) (s' : Shared) : Prop :=
 ∃ g' L' m' news', KtsTurn fs g g' ∧ Fr g' L' s'.heap m' ∧ News g' L' s'.heap news' ∧ ∀ h₀', Gr A₀ base outer K p loose mean mg mb h₀ h₀' → Fr h₀' L s'.heap m → News h₀' L s'.heap news' → R (.ok (.ret v)) s'
theorem backX {g g' : Heap} {L' : Addr} {m' : Str → Option Value} {s' : Shared} {oL : Obj} (B : Below A₀ base outer h₀) (F : Fr h₀ L s.heap m) (XB : K.In base) (TB : Top p loose mean mg mb base) (D : KtsDicts (outer.filterMap (·.frame)) h₀)
  (st : h₀.StaysIn g) (hLg : g.get? L = some oL) (hNs : ∀ (sl : Array (Option Value)) h', h'.get? L = some { oL with slots := sl } → Heap.Ns h' L m)
  (T' : KtsTurn ((envX cn cs L a ccd cl :: outer).filterMap (·.frame)) g g') (F' : Fr g' L' s'.heap m') :
  ∃ h₀', Gr A₀ base outer K p loose mean mg mb h₀ h₀' ∧ Fr h₀' L s'.heap m ∧ ∀ ns, News g' L' s'.heap ns → News h₀' L s'.heap ns := by
 have nL₀ : h₀.get? L = none := kts_self F
 refine e1_1 (T'.up hLg) ?_
 intro sl hs
 obtain ⟨T₁, S₁⟩ := kts_turn_at (h := s'.heap) (fs := outer.filterMap (·.frame)) (g := h₀)
  (fun b hb => by
   obtain ⟨_, o, ho', _⟩ := B.frames.mem hb
   exact ⟨o, ho'⟩)
  (fun b o e nmem => F'.keep b o (T'.other b o (st b o e) (fun q => by
   rcases memX q with z | z
   ·rw [z, nL₀] at e
    cases e
   ·exact nmem z)))
  (fun b o e hm => by
   refine e1_1 (T'.up (st b o e)) ?_
   intro sl' hs'
   exact ⟨sl', F'.keep _ _ hs'⟩)
 have B₃ : Below A₀ base outer (ktsHeap s'.heap (outer.filterMap (·.frame)) h₀) := ⟨B.stack, fun b o e => T₁.other b o (B.stays b o e) (fun hm => by
  rw [(B.frames.mem hm).1] at e
  cases e), B.frames.of_keeps fun b o e _ => by
  refine e1_1 (T₁.up e) ?_
  intro sl' hs'
  exact ⟨_, hs', rfl⟩⟩
 refine i1_3 _ ⟨T₁, B₃, XB.keeps B₃.stays, TB.keeps B₃.stays, D.turn T₁⟩ ⟨hNs sl _ (F'.keep _ _ hs), S₁, by rw [T₁.size]; exact F.above⟩ (fun ns N' p hp => ⟨(N' p hp).1, fun q => ?_, ?_⟩)
 ·have := (N' p hp).2.2; rw [q, hs] at this; cases this
 ·refine T₁.none_ _ ?_
  cases q : h₀.get? p.1 with
  | none => rfl
  | some o =>
   refine e1_1 (T'.up (st _ _ q)) ?_
   intro sl' hs'
   have := (N' p hp).2.2
   rw [hs'] at this
   cases this
theorem code_defG (B : Below A₀ base outer h₀) (F : Fr h₀ L s.heap m) (X₀ : K.In h₀) (N : News h₀ L s.heap news) (T : Top p loose mean mg mb h₀) (XB : K.In base) (TB : Top p loose mean mg mb base) (D : KtsDicts (outer.filterMap (·.frame)) h₀)
  (hA : A.frames = some (envX cn cs L a ccd cl :: outer))
  (ho : K.lookup f = some ⟨oc, od, .func (fnOf name qual params body scope dV kV doc pm an cdv ct), osl⟩) (hcd : codeIn K cdv qual = true) (hroom : A.depth < recursionLimit)
  (hbind : BindsTo s (fnOf name qual params body scope dV kV doc pm an cdv ct) args binds) (hloc : ∀ y ∈ binds, scope.names.lookup y.1 = some .local)
  (h : ∀ g L' h₁, Fr h₀ L g m → Fr g L' h₁ (fun y => binds.reverse.lookup y) → News g L' h₁ news → Below A base (envX cn cs L a ccd cl :: outer) g → K.In g → Top p loose mean mg mb g → KtsDicts ((envX cn cs L a ccd cl :: outer).filterMap (·.frame)) g →
   wpAny (model prog w) (A.deeper (envOf qual scope L' f cdv)) (execs body (envOf qual scope L' f cdv))
    (fun fl s' => LeaveG A₀ base outer K p loose mean mg mb ((envX cn cs L a ccd cl :: outer).filterMap (·.frame)) h₀ L m g R (match fl with | .ret v => v | _ => .none) s')
    (fun e s' => wpAny (model prog w) (A.deeper (envOf qual scope L' f cdv)) (leaving (envOf qual scope L' f cdv) e) (fun _ s'' => R (.error e) s'') (fun e' s'' => R (.error e') s'') s')
    { s with heap := h₁, toks := s.toks + binds.length })
  (hck : cs.kind = .function) (hco : scope.isCoroutine = false) (hgen : scope.isGenerator = false) (hk : scope.kind = .function)
  (hcell : ∀ x ∈ scope.names, x.2 ≠ .cell) : codeAny (model prog w) A (.call (.ref f) args) R s := by
 have X := X₀.keeps F.keep
 refine codeAny_call_def (fd := fnOf name qual params body scope dV kV doc pm an cdv ct) (body := body) (binds := binds) hroom (X _ _ ho) rfl (T.nolimit.keeps F.keep) (codeRec_of X hcd) rfl hbind hcell hloc (fun h₁ hns hk₁ => ?_) hco hgen hk
 refine e3_6 (enterX B F N hA hck) ?_
 intro oL es ep hLg hLd hN hNs st B₂
 refine wpAny_mono (h _ s.heap.objs.size h₁ ⟨hN _ hLg, st, F.above⟩ ⟨hns, fun b o e => hk₁ b o (of_hideAll _ e), Nat.le_of_eq (hideAll_size _ _)⟩
  (fun p hp => ⟨hk₁ _ _ (N p hp).1, Nat.ne_of_lt (Heap.lt_size (N p hp).1), hideAll_none _ (List.mem_map_of_mem hp)⟩) B₂ (X₀.keeps st) (T.keeps st) (fun b hb => by
   rcases memX hb with rfl | hb
   ·exact i3_2 oL es ep hLg hLd
   ·refine e3_2 (D b hb) ?_
    intro o es' n' ho' hd'
    exact ⟨o, es', n', st b o ho', hd'⟩)) (fun fl s' hl => ?_) fun _ _ y => y
 refine e4_4 hl ?_
 (try clear hl); intro g' L' m' news' T' F' N' k
 refine e1_3 (backX B F XB TB D st hLg hNs T' F') ?_
 intro h₀' G' F'' N''
 exact k h₀' G' F'' (N'' _ N')
end
end
section
noncomputable def WS (P : Prop) : Prop := P
theorem ws_while {M : Model} {A : Around} {E : Value → Shared → Prop} {s : Shared} {env : Env} {test : PySem.Expr} {body orelse : List Stmt} {pos : Pos} {Q : Flow → Shared → Prop} (h : WS (wpAny M A (exec (.While test body orelse pos) env) Q E s)) : wpAny M A (exec (.While test body orelse pos) env) Q E s := h
theorem ws_try {M : Model} {A : Around} {E : Value → Shared → Prop} {s : Shared} {env : Env} {body orelse fin : List Stmt} {hs : List ExceptHandler} {pos : Pos} {Q : Flow → Shared → Prop} (h : WS (wpAny M A (exec (.Try body hs orelse fin pos) env) Q E s)) : wpAny M A (exec (.Try body hs orelse fin pos) env) Q E s := h
theorem ws_any {p : Prop} (h : WS p) : p := h
theorem ws_out {p : Prop} (h : p) : WS p := h
end
section
open PyProof.Rows.LCg
section
variable {prog : Program} {w : World} {A : Around} {E : Value → Shared → Prop} {R : Result → Shared → Prop} {s : Shared}
theorem compTurn_last {elt target iter : PySem.Expr} {ifs : List PySem.Expr} {gens : List Comprehension} {scope : Scope} {pos : Pos} {d : Nat} {it acc : Value} {env : Env} (hd : gens[d]? = some ⟨target, iter, ifs, 0⟩) (hl : gens[d + 1]? = none) :
  compTurn (.ListComp elt gens scope pos) d it acc env = (do
   standAt iter.pos
   match ← pyNext it with
   | none => pure (.done .next)
   | some v =>
    letOwnedTupleGo target it v
    assign target env v
    let mut ok := true
    for c in ifs do
     if ok then ok ← isTrue c env (eval c env)
    if ok then
     (do let _ ← call (.builtin "list.append") [acc, ← eval elt env])
    again (.compLoop (.ListComp elt gens scope pos) d it acc env)) := by
 unfold compTurn
 simp only [hd, hl]
 rfl
theorem codeAny_emit {elt target iter : PySem.Expr} {ifs : List PySem.Expr} {gens : List Comprehension} {scope : Scope} {pos : Pos} {d : Nat} {it acc : Value} {env : Env} (hd : gens[d]? = some ⟨target, iter, ifs, 0⟩) (hl : gens[d + 1]? = none) (I : Nat → Shared → Prop)
  (turn : ∀ n s, I n s → wpAny (model prog w) A (pyNext it) (fun r s₁ => match r with
   | none => R (.ok .next) s₁
   | some v => wpAny (model prog w) A (letOwnedTupleGo target it v) (fun _ s₀ => wpAny (model prog w) A (assign target env v) (fun _ s₂ =>
     wpAny (model prog w) A (forIn ifs true fun c r => if r = true then do let ok ← isTrue c env (eval c env); pure (ForInStep.yield ok) else pure (ForInStep.yield r)) (fun ok s₃ =>
      if ok = true then wpAny (model prog w) A (eval elt env) (fun x s₄ =>
       wpAny (model prog w) A (call (.builtin "list.append") [acc, x]) (fun _ s₅ => ∃ m, m < n ∧ I m s₅) (notedBy (model prog w) A env fun e s' => R (.error e) s') s₄) (notedBy (model prog w) A env fun e s' => R (.error e) s') s₃
      else ∃ m, m < n ∧ I m s₃) (notedBy (model prog w) A env fun e s' => R (.error e) s') s₂) (notedBy (model prog w) A env fun e s' => R (.error e) s') s₀) (notedBy (model prog w) A env fun e s' => R (.error e) s') s₁) (notedBy (model prog w) A env fun e s' => R (.error e) s') s)
  (n : Nat) (h : I n s) : codeAny (model prog w) A (.compLoop (.ListComp elt gens scope pos) d it acc env) R s := by
 refine codeAny_loop rfl I (fun n s hI => ?_) n h
 show wpAny _ A ((compTurn (.ListComp elt gens scope pos) d it acc env).onRaise (fun x => do noteFrame x env; theTreesLotGoes x)) _ _ s
 refine wpAny_noted ?_
 rw [compTurn_last hd hl]
 refine wpAny_bind (wpAny_standAt (wpAny_bind (wpAny_mono (turn n s hI) (fun r s₁ h₁ => ?_) fun _ _ h' => h')))
 cases r with
 | none => exact wpAny_pure h₁
 | some v =>
  refine wpAny_bind (wpAny_mono h₁ (fun _ s₀ h₀' => ?_) fun _ _ h' => h')
  refine wpAny_bind (wpAny_mono h₀' (fun _ s₂ h₂ => wpAny_bind (wpAny_mono h₂ (fun ok s₃ h₃ => ?_) fun _ _ h' => h')) fun _ _ h' => h')
  cases ok with
  | false => exact wpAny_pure ⟨rfl, h₃⟩
  | true =>
   exact wpAny_bind (wpAny_bind (wpAny_mono h₃ (fun x s₄ h₄ => wpAny_bind (wpAny_mono h₄ (fun _ s₅ h₅ => wpAny_pure (wpAny_pure ⟨rfl, h₅⟩)) fun _ _ h' => h')) fun _ _ h' => h'))
theorem codeAny_emitC {elt target iter : PySem.Expr} {ifs : List PySem.Expr} {gens : List Comprehension} {scope : Scope} {pos : Pos} {d : Nat} {it acc : Value} {env : Env} (hd : gens[d]? = some ⟨target, iter, ifs, 0⟩) (hl : gens[d + 1]? = none) (I : Nat → Shared → Prop)
  (turn : ∀ n s (P0 : Shared → Prop) (E0 : Value → Shared → Prop), (∀ m s', m < n → I m s' → P0 s') → I n s → wpAny (model prog w) A (pyNext it) (fun r s₁ => match r with
   | none => R (.ok .next) s₁
   | some v => wpAny (model prog w) A (letOwnedTupleGo target it v) (fun _ s₀ => wpAny (model prog w) A (assign target env v) (fun _ s₂ =>
     wpAny (model prog w) A (forIn ifs true fun c r => if r = true then do let ok ← isTrue c env (eval c env); pure (ForInStep.yield ok) else pure (ForInStep.yield r)) (fun ok s₃ =>
      if ok = true then wpAny (model prog w) A (eval elt env) (fun x s₄ =>
       wpAny (model prog w) A (call (.builtin "list.append") [acc, x]) (fun _ s₅ => P0 s₅) E0 s₄) E0 s₃
      else P0 s₃) E0 s₂) E0 s₀) E0 s₁) E0 s)
  (n : Nat) (h : I n s) : codeAny (model prog w) A (.compLoop (.ListComp elt gens scope pos) d it acc env) R s :=
 codeAny_emit hd hl I (fun n s hI => turn n s (fun s' => ∃ m, m < n ∧ I m s') _ (fun m s' h1 h2 => ⟨m, h1, h2⟩) hI) n h
theorem compTurn_first {elt t1 i1 t2 i2 : PySem.Expr} {scope : Scope} {pos : Pos} {it acc : Value} {env : Env} :
  compTurn (.ListComp elt [⟨t1, i1, [], 0⟩, ⟨t2, i2, [], 0⟩] scope pos) 0 it acc env = (do
   standAt i1.pos
   match ← pyNext it with
   | none => pure (.done .next)
   | some v =>
    letOwnedTupleGo t1 it v
    assign t1 env v
    let x ← eval i2 env
    standAt i2.pos
    let x ← foldedSetIterable i2 env x
    let _ ← runOwn (.compStart (.ListComp elt [⟨t1, i1, [], 0⟩, ⟨t2, i2, [], 0⟩] scope pos) 1 (← holding [x] (pyIter x)) acc env) env
    again (.compLoop (.ListComp elt [⟨t1, i1, [], 0⟩, ⟨t2, i2, [], 0⟩] scope pos) 0 it acc env)) := by rfl
theorem codeAny_first {elt t1 i1 t2 i2 : PySem.Expr} {scope : Scope} {pos : Pos} {it acc : Value} {env : Env} (hs : ∀ x, foldedSetIterable i2 env x = pure x) (I : Nat → Shared → Prop)
  (turn : ∀ n s, I n s → wpAny (model prog w) A (pyNext it) (fun r s₁ => match r with
   | none => R (.ok .next) s₁
   | some v => wpAny (model prog w) A (letOwnedTupleGo t1 it v) (fun _ s₀ => wpAny (model prog w) A (assign t1 env v) (fun _ s₂ =>
     wpAny (model prog w) A (eval i2 env) (fun x s₃ => wpAny (model prog w) A (pyIter x) (fun it2 s₄ =>
      codeAny (model prog w) A (.compStart (.ListComp elt [⟨t1, i1, [], 0⟩, ⟨t2, i2, [], 0⟩] scope pos) 1 it2 acc env) (fun r s₅ => match r with | .ok _ => ∃ m, m < n ∧ I m s₅ | .error e => cameBackBy (model prog w) A env (notedBy (model prog w) A env fun e s' => R (.error e) s') e s₅) s₄)
       (notedBy (model prog w) A env fun e s' => R (.error e) s') s₃) (notedBy (model prog w) A env fun e s' => R (.error e) s') s₂) (notedBy (model prog w) A env fun e s' => R (.error e) s') s₀) (notedBy (model prog w) A env fun e s' => R (.error e) s') s₁) (notedBy (model prog w) A env fun e s' => R (.error e) s') s)
  (n : Nat) (h : I n s) : codeAny (model prog w) A (.compLoop (.ListComp elt [⟨t1, i1, [], 0⟩, ⟨t2, i2, [], 0⟩] scope pos) 0 it acc env) R s := by
 refine codeAny_loop rfl I (fun n s hI => ?_) n h
 show wpAny _ A ((compTurn (.ListComp elt [⟨t1, i1, [], 0⟩, ⟨t2, i2, [], 0⟩] scope pos) 0 it acc env).onRaise (fun x => do noteFrame x env; theTreesLotGoes x)) _ _ s
 refine wpAny_noted ?_
 rw [compTurn_first]
 refine wpAny_bind (wpAny_standAt (wpAny_bind (wpAny_mono (turn n s hI) (fun r s₁ h₁ => ?_) fun _ _ h' => h')))
 cases r with
 | none => exact wpAny_pure h₁
 | some v =>
  refine wpAny_bind (wpAny_mono h₁ (fun _ s₀ h₀' => ?_) fun _ _ h' => h')
  refine wpAny_bind (wpAny_mono h₀' (fun _ s₂ h₂ => ?_) fun _ _ h' => h')
  refine wpAny_bind (wpAny_mono h₂ (fun x s₃ h₃ => ?_) fun _ _ h' => h')
  refine wpAny_bind (wpAny_standAt (wpAny_bind (wpAny_of_eq (hs x) ?_)))
  refine wpAny_bind (wpAny_holding (wpAny_mono h₃ (fun it2 s₄ h₄ => ?_) fun _ _ h' => h'))
  refine wpAny_bind (wpAny_runOwn (codeAny_mono h₄ fun r s₅ h₅ => ?_))
  cases r with
  | ok f => exact wpAny_pure ⟨rfl, h₅⟩
  | error e => exact h₅
theorem codeAny_firstC {elt t1 i1 t2 i2 : PySem.Expr} {scope : Scope} {pos : Pos} {it acc : Value} {env : Env} (hs : ∀ x, foldedSetIterable i2 env x = pure x) (I : Nat → Shared → Prop)
  (turn : ∀ n s (R0 : Result → Shared → Prop) (E0 : Value → Shared → Prop), (∀ f m s', m < n → I m s' → R0 (.ok f) s') → I n s → wpAny (model prog w) A (pyNext it) (fun r s₁ => match r with
   | none => R (.ok .next) s₁
   | some v => wpAny (model prog w) A (letOwnedTupleGo t1 it v) (fun _ s₀ => wpAny (model prog w) A (assign t1 env v) (fun _ s₂ =>
     wpAny (model prog w) A (eval i2 env) (fun x s₃ => wpAny (model prog w) A (pyIter x) (fun it2 s₄ =>
      codeAny (model prog w) A (.compStart (.ListComp elt [⟨t1, i1, [], 0⟩, ⟨t2, i2, [], 0⟩] scope pos) 1 it2 acc env) R0 s₄)
       E0 s₃) E0 s₂) E0 s₀) E0 s₁) E0 s)
  (n : Nat) (h : I n s) : codeAny (model prog w) A (.compLoop (.ListComp elt [⟨t1, i1, [], 0⟩, ⟨t2, i2, [], 0⟩] scope pos) 0 it acc env) R s :=
 codeAny_first hs I (fun n s hI => turn n s _ _ (fun _ m s' h1 h2 => ⟨m, h1, h2⟩) hI) n h
theorem codeAny_compStart_1 {elt t1 i1 t2 i2 : PySem.Expr} {scope : Scope} {pos : Pos} {it acc : Value} {env : Env}
  (h0 : codeAny (model prog w) A (.compLoop (.ListComp elt [⟨t1, i1, [], 0⟩, ⟨t2, i2, [], 0⟩] scope pos) 1 it acc env) R s)
  (h : wpAny (model prog w) A (pyIter it) (fun it' s' => codeAny (model prog w) A (.compLoop (.ListComp elt [⟨t1, i1, [], 0⟩, ⟨t2, i2, [], 0⟩] scope pos) 1 it' acc env) R s')
   (notedBy (model prog w) A env fun x s' => R (.error x) s') s) :
  codeAny (model prog w) A (.compStart (.ListComp elt [⟨t1, i1, [], 0⟩, ⟨t2, i2, [], 0⟩] scope pos) 1 it acc env) R s := by
 refine codeAny_of_tree ?_
 show wpAny _ _ ((compStart (.ListComp elt [⟨t1, i1, [], 0⟩, ⟨t2, i2, [], 0⟩] scope pos) 1 it acc env).onRaise (fun x => do noteFrame x env; standAt theWindowsPlace)) _ _ s
 refine wpAny_notedAt ?_
 unfold compStart
 show wpAny _ _ (ask >>= _) _ _ s
 refine wpAny_bind (wpAny_askSetting (wpAny_ite ?_))
 split
 ·first
   | exact wpAny_bind (wpAny_pure (wpAny_pure (And.intro rfl h0)))
   | exact wpAny_pure (And.intro rfl h0)
 ·first
   | exact wpAny_bind (wpAny_rule (wpAny_bind (wpAny_standAt (wpAny_bind (wpAny_mono h (fun it' s' h' => wpAny_pure (And.intro rfl h')) fun _ _ x => x)))))
   | (refine wpAny_bind (wpAny_rule ?_); show wpAny _ _ (standAt i2.pos >>= _) _ _ s; exact wpAny_bind (wpAny_standAt (wpAny_bind (wpAny_mono h (fun it' s' h' => wpAny_pure (And.intro rfl h')) fun _ _ x => x))))
end
theorem ND.app {new nw : List (Addr × Obj)} (h1 : ND new) (h2 : ND nw) (h3 : ∀ p ∈ new, ∀ q ∈ nw, p.1 ≠ q.1) : ND (new ++ nw) := by
 show ((new ++ nw).map (·.1)).Nodup
 rw [List.map_append]
 refine List.nodup_append.mpr ⟨h1, h2, fun a ha b hb => ?_⟩
 refine e1_2 (List.mem_map.mp ha) ?_
 intro p hp hz1
 subst hz1
 refine e1_2 (List.mem_map.mp hb) ?_
 intro q hq hz2
 subst hz2
 exact h3 p hp q hq
theorem nd_cons_off {D : Addr} {o : Obj} {l : List (Addr × Obj)} (h : ND l) (k : ∀ p ∈ l, p.1 ≠ D) : ND ((D, o) :: l) := by
 show (D :: l.map (·.1)).Nodup
 refine List.nodup_cons.mpr ⟨fun q => ?_, h⟩
 refine e1_2 (List.mem_map.mp q) ?_
 intro p hp e
 exact k p hp e
noncomputable def ownAt (h : Heap) (wr : List Addr) : List (Addr × Obj) := wr.filterMap fun a => (h.get? a).map fun o => (a, o)
theorem mem_ownAt {h : Heap} {wr : List Addr} {p : Addr × Obj} : p ∈ ownAt h wr ↔ p.1 ∈ wr ∧ h.get? p.1 = some p.2 := by
 unfold ownAt
 rw [List.mem_filterMap]
 constructor
 ·intro hR0
  refine e1_2 hR0 ?_
  (try clear hR0); intro a ha e
  refine e1_2 (Option.map_eq_some_iff.mp e) ?_
  intro o ho hz3
  subst hz3
  exact ⟨ha, ho⟩
 ·intro hR0
  refine e0_2 hR0 ?_
  (try clear hR0); intro ha ho
  exact i1_2 p.1 ha (by rw [ho]; rfl)
theorem ownAt_sub (h : Heap) : ∀ wr : List Addr, List.Sublist ((ownAt h wr).map (·.1)) wr
 | [] => .slnil
 | a :: r => by
  have ih := ownAt_sub h r
  unfold ownAt at ih ⊢
  rw [List.filterMap_cons]
  cases h.get? a with
  | none => exact ih.cons a
  | some o => exact ih.cons₂ a
theorem ownAt_nd {h : Heap} {wr : List Addr} (k : wr.Nodup) : ND (ownAt h wr) := List.Nodup.sublist (ownAt_sub h wr) k
structure CSrc (prog : Program) (w : World) (A : Around) (h₀ : Heap) (L : Addr) (target : PySem.Expr) (I : Addr) (fp wr : List Addr) (n : Nat) (P Md : Nat → Value → Heap → Prop) (St : Nat → Heap → Prop) (S : List (Addr × Obj) → Prop) : Prop where
 W : KTurns prog w A target I fp wr n P Md St
 self : ∀ i (s : Shared) (Q : Value → Shared → Prop) (E : Value → Shared → Prop), St i s.heap → Q (.ref I) s → wpAny (model prog w) A (pyIter (.ref I)) Q E s
 ex : ∀ i h, St i h → ∀ a ∈ wr, ∃ o, h.get? a = some o
 st : ∀ i h h' nw, St i h → (∀ a ∈ wr, ∀ o, h.get? a = some o → h'.get? a = some o) → (∀ b o, h₀.get? b = some o → h'.get? b = some o) → News h₀ L h' nw → S nw → St i h'
 mono : ∀ nw nw' : List (Addr × Obj), S nw → (∀ p ∈ nw, p ∈ nw') → S nw'
 nodup : wr.Nodup
noncomputable def CEnd (h₀ : Heap) (L : Addr) (m : Str → Option Value) (s : Shared) (nw new₀ : List (Addr × Obj)) (K : List (Addr × Obj) → Prop) (s₂ : Shared) : Prop :=
 ∃ h' tk' new, s₂ = { s with heap := h', toks := tk' } ∧ Fr h₀ L h' m ∧ News h₀ L h' (new ++ nw) ∧ (∀ p ∈ new, ∀ q ∈ nw, p.1 ≠ q.1) ∧ ND new ∧ K (new ++ new₀)
noncomputable def Asg (prog : Program) (w : World) (A : Around) (target : PySem.Expr) (cenv : Env) (C : Addr) (P : Nat → Value → Heap → Prop) (Bnd : Nat → (Str → Option Value) → Prop) : Prop :=
 ∀ i v (s : Shared) m' (Q : Unit → Shared → Prop) (E : Value → Shared → Prop), P i v s.heap → s.heap.Ns C m' → (∀ h₁ tk₁ m₁, h₁.Ns C m₁ → Bnd i m₁ → (∀ c o, c ≠ C → s.heap.get? c = some o → h₁.get? c = some o) → Q () { s with heap := h₁, toks := tk₁ }) → wpAny (model prog w) A (assign target cenv v) Q E s
noncomputable def Turn1 (prog : Program) (w : World) (A : Around) (h₀ : Heap) (L : Addr) (m : Str → Option Value) (env : Env) (elt : PySem.Expr) (ifs : List PySem.Expr) (scope : Scope) (cl : List (Str × Addr)) (s : Shared) (C : Addr) (n : Nat) (Bnd : Nat → (Str → Option Value) → Prop) (news₀ : List (Addr × Obj)) (J : Nat → List Value → List (Addr × Obj) → Prop) : Prop :=
 ∀ i ys new₀ nw oC m₂ h tk (E' : Value → Shared → Prop), i < n → Bnd i m₂ → NsObj oC m₂ → J i ys new₀ → (∀ p ∈ news₀, p ∈ nw) → (∀ p ∈ new₀, p ∈ nw) → (C, oC) ∈ nw → ND nw → Fr h₀ L h m → News h₀ L h nw →
  wpAny (model prog w) A (forIn ifs true fun c r => if r = true then do let ok ← isTrue c (compEnvC scope cl C env) (eval c (compEnvC scope cl C env)); pure (ForInStep.yield ok) else pure (ForInStep.yield r)) (fun ok s₃ =>
   if ok = true then wpAny (model prog w) A (eval elt (compEnvC scope cl C env)) (fun y s₄ => CEnd h₀ L m s nw new₀ (J (i + 1) (ys ++ [y])) s₄) E' s₃
   else CEnd h₀ L m s nw new₀ (J (i + 1) ys) s₃) E' { s with heap := h, toks := tk }
noncomputable def Turn2 (prog : Program) (w : World) (A : Around) (h₀ : Heap) (L : Addr) (m : Str → Option Value) (env : Env) (i2 : PySem.Expr) (scope : Scope) (cl : List (Str × Addr)) (s : Shared) (C : Addr) (n : Nat) (Bnd : Nat → (Str → Option Value) → Prop) (news₀ : List (Addr × Obj)) (J : Nat → List Value → List (Addr × Obj) → Prop) : Prop :=
 ∀ i ys new₀ nw oC m₂ h tk (E' : Value → Shared → Prop), i < n → Bnd i m₂ → NsObj oC m₂ → J i ys new₀ → (∀ p ∈ news₀, p ∈ nw) → (∀ p ∈ new₀, p ∈ nw) → (C, oC) ∈ nw → ND nw → Fr h₀ L h m → News h₀ L h nw →
  wpAny (model prog w) A (eval i2 (compEnvC scope cl C env)) (fun xv s₃ => ∃ l vs k, xv = .ref l ∧ CEnd h₀ L m s nw new₀ (fun new₁ => ((l, W.listOf vs.toArray k) ∈ new₁ ++ news₀) ∧ ys.length + vs.length ≤ sizeLine ∧ J (i + 1) (ys ++ vs) new₁) s₃) E' { s with heap := h, toks := tk }
section
variable {prog : Program} {w : World} {A : Around} {E : Value → Shared → Prop} {R : Result → Shared → Prop} {s : Shared} {h₀ : Heap} {L : Addr} {m : Str → Option Value} {env : Env}
theorem tc_facts {wr : List Addr} {C D : Addr} {oC oD : Obj} {h' h₄ : Heap} {news' : List (Addr × Obj)} (hCw : C ∉ wr) (hDw : D ∉ wr) (hCD : C ≠ D) (hC0 : h₀.get? C = none) (hCL : C ≠ L) (hLw : L ∉ wr) (hw0 : ∀ a ∈ wr, h₀.get? a = none) (nd : wr.Nodup)
  (up₄ : ∀ b o, b ∉ wr → b ≠ C → h'.get? b = some o → h₄.get? b = some o) (F' : Fr h₀ L h' m) (N' : News h₀ L h' ((D, oD) :: news')) (off' : ∀ p ∈ news', p.1 ∉ wr ∧ p.1 ≠ C ∧ p.1 ≠ D) (hnd' : ND news') (heC : h₄.get? C = some oC) :
  Fr h₀ L h₄ m ∧ News h₀ L h₄ (ownAt h₄ wr ++ (C, oC) :: (D, oD) :: news') ∧ ND (ownAt h₄ wr ++ (C, oC) :: (D, oD) :: news') := by
 refine i0_3 ⟨F'.ns.at' fun o e => up₄ _ o hLw (Ne.symm hCL) e, fun b o e => up₄ b o (fun q => by rw [hw0 b q] at e; cases e) (fun q => by rw [q, hC0] at e; cases e) (F'.keep b o e), F'.above⟩ (fun p hp => ?_) ?_
 ·rcases List.mem_append.mp hp with hp | hp
  ·refine e0_2 (mem_ownAt.mp hp) ?_
   intro h1 h2
   exact i0_3 h2 (fun q => hLw (q ▸ h1)) (hw0 _ h1)
  ·rcases List.mem_cons.mp hp with rfl | hp
   ·exact i0_3 heC hCL hC0
   ·have z := N' p hp
    rcases List.mem_cons.mp hp with rfl | hp
    ·exact ⟨up₄ _ _ hDw (Ne.symm hCD) z.1, z.2⟩
    ·exact ⟨up₄ _ _ (off' p hp).1 (off' p hp).2.1 z.1, z.2⟩
 ·refine (ownAt_nd nd).app (nd_cons_off (nd_cons_off hnd' fun p hp => (off' p hp).2.2) fun p hp => ?_) fun p hp q hq e => ?_
  ·rcases List.mem_cons.mp hp with rfl | hp
   ·exact Ne.symm hCD
   ·exact (off' p hp).2.1
  ·refine e0_2 (mem_ownAt.mp hp) ?_
   intro h1 _
   rcases List.mem_cons.mp hq with rfl | hq
   ·exact hCw ((show p.1 = C from e) ▸ h1)
   ·rcases List.mem_cons.mp hq with rfl | hq
    ·exact hDw ((show p.1 = D from e) ▸ h1)
    ·exact (off' q hq).1 (e ▸ h1)
theorem tc_fin {target : PySem.Expr} {I C D : Addr} {fp wr : List Addr} {n i : Nat} {P Md : Nat → Value → Heap → Prop} {St : Nat → Heap → Prop} {S : List (Addr × Obj) → Prop} {oC oD : Obj} {h₄ h₅ : Heap} {news₀ news' new : List (Addr × Obj)} (K : CSrc prog w A h₀ L target I fp wr n P Md St S)
  (hst₄ : St (i + 1) h₄) (hS : S news₀) (sub0 : ∀ p ∈ news₀, p ∈ news') (off' : ∀ p ∈ news', p.1 ∉ wr ∧ p.1 ≠ C ∧ p.1 ≠ D) (hnd' : ND news') (N₅ : News h₀ L h₅ (new ++ (ownAt h₄ wr ++ (C, oC) :: (D, oD) :: news'))) (fr : ∀ p ∈ new, ∀ q ∈ ownAt h₄ wr ++ (C, oC) :: (D, oD) :: news', p.1 ≠ q.1) (ndn : ND new) (F₅ : Fr h₀ L h₅ m) :
  St (i + 1) h₅ ∧ (∀ p ∈ new ++ news', p.1 ∉ wr ∧ p.1 ≠ C ∧ p.1 ≠ D) ∧ ND (new ++ news') ∧ News h₀ L h₅ (new ++ news') := by
 have sub4 : ∀ p ∈ news', p ∈ ownAt h₄ wr ++ (C, oC) :: (D, oD) :: news' := fun p hp => List.mem_append_right _ (.tail _ (.tail _ hp))
 have N₅' : News h₀ L h₅ (new ++ news') := fun p hp => N₅ p ((List.mem_append.mp hp).elim (List.mem_append_left _) fun q => List.mem_append_right _ (sub4 p q))
 refine i0_4 (K.st (i + 1) h₄ h₅ _ hst₄ (fun a ha o e => (N₅ (a, o) (List.mem_append_right _ (List.mem_append_left _ (mem_ownAt.mpr ⟨ha, e⟩)))).1) F₅.keep N₅' (K.mono _ _ hS fun p hp => List.mem_append_right _ (sub0 p hp))) ?_ (ndn.app hnd' fun p hp q hq => fr p hp q (sub4 q hq)) N₅'
 intro p hp
 rcases List.mem_append.mp hp with hp | hp
 ·refine i0_3 (fun q => ?_) (fr p hp (C, oC) (List.mem_append_right _ (.head _))) (fr p hp (D, oD) (List.mem_append_right _ (.tail _ (.head _))))
  refine e1_1 (K.ex _ _ hst₄ _ q) ?_
  intro o ho
  exact fr p hp (p.1, o) (List.mem_append_left _ (mem_ownAt.mpr ⟨q, ho⟩)) rfl
 ·exact off' p hp
theorem comp_loop1 {elt target iter : PySem.Expr} {ifs : List PySem.Expr} {gens : List Comprehension} {scope : Scope} {cl : List (Str × Addr)} {pos : Pos} {d : Nat} {C D I : Addr} {fp wr : List Addr} {n : Nat} {P Md : Nat → Value → Heap → Prop} {St : Nat → Heap → Prop} {S : List (Addr × Obj) → Prop}
  {Bnd : Nat → (Str → Option Value) → Prop} {J : Nat → List Value → List (Addr × Obj) → Prop} {ys₀ : List Value} {news₀ : List (Addr × Obj)} {m₀ : Str → Option Value} {s₁ : Shared}
  (hd : gens[d]? = some ⟨target, iter, ifs, 0⟩) (hl : gens[d + 1]? = none)
  (K : CSrc prog w A h₀ L target I fp wr n P Md St S) (hCf : C ∉ fp) (hDf : D ∉ fp) (hCD : C ≠ D) (hC0 : h₀.get? C = none) (hD0 : h₀.get? D = none) (hCL : C ≠ L) (hDL : D ≠ L) (hLw : L ∉ wr) (hw0 : ∀ a ∈ wr, h₀.get? a = none)
  (hasg : Asg prog w A target (compEnvC scope cl C env) C P Bnd) (hJz : ∀ i ys nw, i ≤ n → J i ys nw → ys.length ≤ sizeLine)
  (turn : Turn1 prog w A h₀ L m env elt ifs scope cl s C n Bnd news₀ J)
  (hs₁ : s₁ = { s with heap := s₁.heap, toks := s₁.toks })
  (hst : St 0 s₁.heap) (F : Fr h₀ L s₁.heap m) (hn : s₁.heap.Ns C m₀) (N : News h₀ L s₁.heap ((D, lst ys₀) :: news₀)) (off : ∀ p ∈ news₀, p.1 ∉ wr ∧ p.1 ≠ C ∧ p.1 ≠ D) (hS : S news₀) (hnd : ND news₀) (hJ : J 0 ys₀ [])
  (hR : ∀ h' tk m' ys' new, Fr h₀ L h' m → h'.Ns C m' → News h₀ L h' ((D, lst ys') :: (new ++ news₀)) → (∀ p ∈ new ++ news₀, p.1 ∉ wr ∧ p.1 ≠ C ∧ p.1 ≠ D) → ND (new ++ news₀) → J n ys' new → R (.ok .next) { s with heap := h', toks := tk }) :
  codeAny (model prog w) A (.compLoop (.ListComp elt gens scope pos) d (.ref I) (.ref D) (compEnvC scope cl C env)) R s₁ := by
 have hCw : C ∉ wr := fun h => hCf (K.W.sub _ h)
 have hDw : D ∉ wr := fun h => hDf (K.W.sub _ h)
 refine codeAny_emitC hd hl
  (fun k s' => ∃ h' tk i ys m' new', s' = { s with heap := h', toks := tk } ∧ i ≤ n ∧ k = n + 1 - i ∧ St i h' ∧ Fr h₀ L h' m ∧ h'.Ns C m' ∧ News h₀ L h' ((D, lst ys) :: (new' ++ news₀)) ∧ (∀ p ∈ new' ++ news₀, p.1 ∉ wr ∧ p.1 ≠ C ∧ p.1 ≠ D) ∧ ND (new' ++ news₀) ∧ J i ys new') ?_ (n + 1)
  ⟨s₁.heap, s₁.toks, 0, ys₀, m₀, [], hs₁, Nat.zero_le _, rfl, hst, F, hn, N, off, hnd, hJ⟩
 intro k s' P0 E0 hP0 hR0
 refine e6_10 hR0 ?_
 (try clear hR0); intro h' tk i ys m' new' hz1 hi hz2 hst' F' hn' N' off' hnd' hJ'
 subst hz1
 subst hz2
 by_cases hlt : i < n
 ·refine K.W.item i _ _ _ hlt hst' fun v h₂ tk₂ hMd hk₂ => ?_
  refine K.W.go i v _ _ _ hMd fun h₃ hP hst₃ hk₃ => ?_
  have up₃ : ∀ b o, b ∉ wr → h'.get? b = some o → h₃.get? b = some o := fun b o hb e => hk₃ b o hb (hk₂ b o hb e)
  refine hasg i v _ m' _ _ hP (hn'.at' fun o e => up₃ _ o hCw e) fun h₄ tk₄ m₄ hn₄ hB hk₄ => ?_
  have up₄ : ∀ b o, b ∉ wr → b ≠ C → h'.get? b = some o → h₄.get? b = some o := fun b o hb hc e => hk₄ b o hc (up₃ b o hb e)
  have hst₄ : St (i + 1) h₄ := K.W.frame _ _ _ hst₃ fun b hb o e => hk₄ b o (fun q => hCf (q ▸ hb)) e
  refine e1_2 (ns_obj hn₄) ?_
  intro oC heC hoC
  generalize hnews : new' ++ news₀ = news' at N' off' hnd'
  refine e0_3 (tc_facts hCw hDw hCD hC0 hCL hLw hw0 K.nodup up₄ F' N' off' hnd' heC) ?_
  intro F₄ N₄ ndw
  have sub4 : ∀ p ∈ news', p ∈ ownAt h₄ wr ++ (C, oC) :: (D, lst ys) :: news' := fun p hp => List.mem_append_right _ (.tail _ (.tail _ hp))
  have memC : (C, oC) ∈ ownAt h₄ wr ++ (C, oC) :: (D, lst ys) :: news' := List.mem_append_right _ (.head _)
  have memD : (D, lst ys) ∈ ownAt h₄ wr ++ (C, oC) :: (D, lst ys) :: news' := List.mem_append_right _ (.tail _ (.head _))
  have sub0 : ∀ p ∈ news₀, p ∈ news' := fun p hp => hnews ▸ List.mem_append_right _ hp
  have fin : ∀ {h₅ : Heap} {new : List (Addr × Obj)}, News h₀ L h₅ (new ++ (ownAt h₄ wr ++ (C, oC) :: (D, lst ys) :: news')) → (∀ p ∈ new, ∀ q ∈ ownAt h₄ wr ++ (C, oC) :: (D, lst ys) :: news', p.1 ≠ q.1) → ND new →
    Fr h₀ L h₅ m → St (i + 1) h₅ ∧ (∀ p ∈ (new ++ new') ++ news₀, p.1 ∉ wr ∧ p.1 ≠ C ∧ p.1 ≠ D) ∧ ND ((new ++ new') ++ news₀) ∧ News h₀ L h₅ ((new ++ new') ++ news₀) := by
   intro h₅ new N₅ fr ndn F₅
   rw [List.append_assoc, hnews]
   exact tc_fin K hst₄ hS sub0 off' hnd' N₅ fr ndn F₅
  refine wpAny_mono (turn i ys new' _ oC m₄ h₄ tk₄ _ hlt hB hoC hJ' (fun p hp => sub4 p (sub0 p hp)) (fun p hp => sub4 p (hnews ▸ List.mem_append_left _ hp)) memC ndw F₄ N₄) (fun ok s₄ h₄' => ?_) fun _ _ e => e
  cases ok with
  | true =>
   rw [if_pos rfl] at h₄' ⊢
   refine wpAny_mono h₄' (fun y s₅ h₅ => ?_) fun _ _ e => e
   refine e3_6 h₅ ?_
   (try clear h₅); intro h₅ tk₅ new hz4 F₅ N₅ fr ndn hJ₅
   subst hz4
   refine e0_4 (fin N₅ fr ndn F₅) ?_
   intro st₅ off₅ nd₅ N₅'
   have zC := (N₅ _ (List.mem_append_right _ memC)).1
   have zD := (N₅ _ (List.mem_append_right _ memD)).1
   refine append_at (hsz := by show ys.toArray.size ≤ sizeLine; rw [List.size_toArray]; exact hJz _ _ _ hi hJ') zD fun h₆ hs₆ hD₆ => ?_
   refine hP0 (n + 1 - (i + 1)) _ (by exact o3 ‹_›) (i6_10 h₆ tk₅ (i + 1) (ys ++ [y]) m₄ (new ++ new') rfl hlt rfl (K.W.frame _ _ _ st₅ fun b hb o e => hs₆.extBut b o (fun q => hDf (q ▸ hb)) e) (F₅.change hs₆ hDL hD0) ((hoC.ns zC).sameBut hs₆ hCD) (fun p hp => ?_) off₅ nd₅ hJ₅)
   rcases List.mem_cons.mp hp with rfl | hp
   ·exact i0_3 (hD₆.trans (congrArg some (lst_snoc ys y))) hDL hD0
   ·exact ⟨hs₆.extBut _ _ (off₅ p hp).2.2 (N₅' p hp).1, (N₅' p hp).2⟩
  | false =>
   rw [if_neg Bool.false_ne_true] at h₄' ⊢
   refine e3_6 h₄' ?_
   (try clear h₄'); intro h₅ tk₅ new hz5 F₅ N₅ fr ndn hJ₅
   subst hz5
   refine e0_4 (fin N₅ fr ndn F₅) ?_
   intro st₅ off₅ nd₅ N₅'
   have zC := (N₅ _ (List.mem_append_right _ memC)).1
   have zD := N₅ _ (List.mem_append_right _ memD)
   refine hP0 (n + 1 - (i + 1)) _ (by exact o3 ‹_›) (i6_10 h₅ tk₅ (i + 1) ys m₄ (new ++ new') rfl hlt rfl st₅ F₅ (hoC.ns zC) (fun p hp => ?_) off₅ nd₅ hJ₅)
   rcases List.mem_cons.mp hp with rfl | hp
   ·exact zD
   ·exact N₅' p hp
 ·have hin : i = n := by exact o62 hi hlt
  subst hin
  refine K.W.done _ _ _ hst' fun h₁ tk₁ hk₁ => ?_
  refine hR h₁ tk₁ m' ys new' ⟨F'.ns.at' fun o e => hk₁ _ o hLw e, fun b o e => hk₁ b o (fun q => by rw [hw0 b q] at e; cases e) (F'.keep b o e), F'.above⟩ (hn'.at' fun o e => hk₁ _ o hCw e) (fun p hp => ?_) off' hnd' hJ'
  refine ⟨hk₁ _ _ ?_ (N' p hp).1, (N' p hp).2⟩
  rcases List.mem_cons.mp hp with rfl | hp
  ·exact hDw
  ·exact (off' p hp).1
theorem csrc_list {x : Str} {px : Pos} {I ax : Addr} {its : Array Value} (hh : A.handled = none) (hne : ax ≠ I) :
  CSrc prog w A h₀ L (.Name x px) I [I, ax] [I] its.size (fun i v _ => its[i]? = some v) (fun i v h => its[i]? = some v ∧ (h.IsListIter I ax (i + 1) ∧ h.IsList ax its)) (fun i h => h.IsListIter I ax i ∧ h.IsList ax its) (SrcAt h₀ ax its) where
 W := KTurns.ofWalks (Walks.list hh I ax hne its) fun _ _ _ _ _ _ q => wpAny_of_eq (a := ()) rfl q
 self := (Walks.list hh I ax hne its).self
 ex := fun i h st a ha => by
  refine e1_2 st.1 ?_
  intro o e _
  rw [List.mem_singleton.mp ha]
  exact ⟨o, e⟩
 st := fun i h h' nw st k1 k2 N hS => by
  refine e1_2 st.1 ?_
  intro o e r
  exact ⟨⟨o, k1 _ (.head _) _ e, r⟩, hS.list k2 N⟩
 mono := fun nw nw' hS k => by
  rcases hS with hS | ⟨o, hm, r⟩
  ·exact .inl hS
  ·exact .inr ⟨o, k _ hm, r⟩
 nodup := by simp
theorem asg_name {x : Str} {px : Pos} {scope : Scope} {cl : List (Str × Addr)} {C : Addr} {Pv : Nat → Value → Prop} (hkind : scope.kind = .function) (hx : scope.names.lookup x = some .local) :
  Asg prog w A (.Name x px) (compEnvC scope cl C env) C (fun i v _ => Pv i v) (fun i m => ∃ v, Pv i v ∧ m x = some v) := by
 intro i v s m' Q E hP hn k
 refine wpAny_assign_Name (wpAny_storeName_local (lookup_relabel_local hx) hn (fun h₁ hn₁ hs₁ => ?_) (by simp [compEnvC, relabel, hkind]))
 exact k h₁ _ _ hn₁ ⟨v, hP, by simp⟩ fun c o hc e => hs₁.extBut c o hc e
theorem comp_loop2 {t1 i1 i2 : PySem.Expr} {x2 : Str} {p2 pe : Pos} {scope : Scope} {cl : List (Str × Addr)} {pos : Pos} {C D I : Addr} {fp wr : List Addr} {n : Nat} {P Md : Nat → Value → Heap → Prop} {St : Nat → Heap → Prop} {S : List (Addr × Obj) → Prop}
  {Bnd : Nat → (Str → Option Value) → Prop} {J : Nat → List Value → List (Addr × Obj) → Prop} {news₀ : List (Addr × Obj)} {m₀ : Str → Option Value} {s₁ : Shared}
  (hh : A.handled = none) (hs2 : ∀ x, foldedSetIterable i2 (compEnvC scope cl C env) x = pure x) (hkind : scope.kind = .function) (hx2 : scope.names.lookup x2 = some .local) (hb2 : (x2 == ("__debug__" : Str)) = false)
  (K : CSrc prog w A h₀ L t1 I fp wr n P Md St S) (hCf : C ∉ fp) (hDf : D ∉ fp) (hCD : C ≠ D) (hC0 : h₀.get? C = none) (hD0 : h₀.get? D = none) (hCL : C ≠ L) (hDL : D ≠ L) (hLw : L ∉ wr) (hw0 : ∀ a ∈ wr, h₀.get? a = none)
  (hasg : Asg prog w A t1 (compEnvC scope cl C env) C P Bnd)
  (turn : Turn2 prog w A h₀ L m env i2 scope cl s C n Bnd news₀ J)
  (hs₁ : s₁ = { s with heap := s₁.heap, toks := s₁.toks })
  (hst : St 0 s₁.heap) (F : Fr h₀ L s₁.heap m) (hn : s₁.heap.Ns C m₀) (N : News h₀ L s₁.heap ((D, lst []) :: news₀)) (off : ∀ p ∈ news₀, p.1 ∉ wr ∧ p.1 ≠ C ∧ p.1 ≠ D) (hS : S news₀) (hnd : ND news₀) (hJ : J 0 [] [])
  (hR : ∀ h' tk m' ys' new, Fr h₀ L h' m → h'.Ns C m' → News h₀ L h' ((D, lst ys') :: (new ++ news₀)) → (∀ p ∈ new ++ news₀, p.1 ∉ wr ∧ p.1 ≠ C ∧ p.1 ≠ D) → ND (new ++ news₀) → J n ys' new → R (.ok .next) { s with heap := h', toks := tk }) :
  codeAny (model prog w) A (.compLoop (.ListComp (.Name x2 pe) [⟨t1, i1, [], 0⟩, ⟨.Name x2 p2, i2, [], 0⟩] scope pos) 0 (.ref I) (.ref D) (compEnvC scope cl C env)) R s₁ := by
 have hCw : C ∉ wr := fun h => hCf (K.W.sub _ h)
 have hDw : D ∉ wr := fun h => hDf (K.W.sub _ h)
 refine codeAny_firstC hs2
  (fun k s' => ∃ h' tk i ys m' new', s' = { s with heap := h', toks := tk } ∧ i ≤ n ∧ k = n + 1 - i ∧ St i h' ∧ Fr h₀ L h' m ∧ h'.Ns C m' ∧ News h₀ L h' ((D, lst ys) :: (new' ++ news₀)) ∧ (∀ p ∈ new' ++ news₀, p.1 ∉ wr ∧ p.1 ≠ C ∧ p.1 ≠ D) ∧ ND (new' ++ news₀) ∧ J i ys new') ?_ (n + 1)
  ⟨s₁.heap, s₁.toks, 0, [], m₀, [], hs₁, Nat.zero_le _, rfl, hst, F, hn, N, off, hnd, hJ⟩
 intro k s' R0 E0 hP0 hR0
 refine e6_10 hR0 ?_
 (try clear hR0); intro h' tk i ys m' new' hz3 hi hz4 hst' F' hn' N' off' hnd' hJ'
 subst hz3
 subst hz4
 by_cases hlt : i < n
 ·refine K.W.item i _ _ _ hlt hst' fun v h₂ tk₂ hMd hk₂ => ?_
  refine K.W.go i v _ _ _ hMd fun h₃ hP hst₃ hk₃ => ?_
  have up₃ : ∀ b o, b ∉ wr → h'.get? b = some o → h₃.get? b = some o := fun b o hb e => hk₃ b o hb (hk₂ b o hb e)
  refine hasg i v _ m' _ _ hP (hn'.at' fun o e => up₃ _ o hCw e) fun h₄ tk₄ m₄ hn₄ hB hk₄ => ?_
  have up₄ : ∀ b o, b ∉ wr → b ≠ C → h'.get? b = some o → h₄.get? b = some o := fun b o hb hc e => hk₄ b o hc (up₃ b o hb e)
  have hst₄ : St (i + 1) h₄ := K.W.frame _ _ _ hst₃ fun b hb o e => hk₄ b o (fun q => hCf (q ▸ hb)) e
  refine e1_2 (ns_obj hn₄) ?_
  intro oC heC hoC
  generalize hnews : new' ++ news₀ = news' at N' off' hnd'
  refine e0_3 (tc_facts hCw hDw hCD hC0 hCL hLw hw0 K.nodup up₄ F' N' off' hnd' heC) ?_
  intro F₄ N₄ ndw
  have sub4 : ∀ p ∈ news', p ∈ ownAt h₄ wr ++ (C, oC) :: (D, lst ys) :: news' := fun p hp => List.mem_append_right _ (.tail _ (.tail _ hp))
  have memC : (C, oC) ∈ ownAt h₄ wr ++ (C, oC) :: (D, lst ys) :: news' := List.mem_append_right _ (.head _)
  have memD : (D, lst ys) ∈ ownAt h₄ wr ++ (C, oC) :: (D, lst ys) :: news' := List.mem_append_right _ (.tail _ (.head _))
  have sub0 : ∀ p ∈ news₀, p ∈ news' := fun p hp => hnews ▸ List.mem_append_right _ hp
  refine wpAny_mono (turn i ys new' _ oC m₄ h₄ tk₄ _ hlt hB hoC hJ' (fun p hp => sub4 p (sub0 p hp)) (fun p hp => sub4 p (hnews ▸ List.mem_append_left _ hp)) memC ndw F₄ N₄) (fun xv s₄ h₄' => ?_) fun _ _ e => e
  obtain ⟨l, vs, kk, rfl, h₅, tk₅, new, rfl, F₅, N₅, fr, ndn, hl5, hz5, hJ₅⟩ := h₄'
  refine e0_4 (tc_fin K hst₄ hS sub0 off' hnd' N₅ fr ndn F₅) ?_
  intro hst₅ off₅ nd₅ N₅'
  have zC := (N₅ _ (List.mem_append_right _ memC)).1
  have zD := N₅ _ (List.mem_append_right _ memD)
  have hl5' : (l, W.listOf vs.toArray kk) ∈ new ++ news' := by
   rw [← hnews, ← List.append_assoc]
   exact hl5
  have hlist : h₅.IsList l vs.toArray := ⟨_, (N₅' _ hl5').1, rfl, kk, rfl⟩
  have hlt5 : l < h₅.objs.size := Heap.lt_size (N₅' _ hl5').1
  refine wpAny_pyIter_list hlist ?_
  have hlI : l ≠ h₅.objs.size := Nat.ne_of_lt hlt5
  have hCI : C ≠ h₅.objs.size := Nat.ne_of_lt (Heap.lt_size zC)
  have hDI : D ≠ h₅.objs.size := Nat.ne_of_lt (Heap.lt_size zD.1)
  have hI0 : h₀.get? h₅.objs.size = none := next_is_new F₅
  have hLI : L ≠ h₅.objs.size := Nat.ne_of_lt F₅.ns.lt
  have hCl : C ≠ l := fun e => (off₅ _ hl5').2.1 e.symm
  have hDl : D ≠ l := fun e => (off₅ _ hl5').2.2 e.symm
  have up6 : ∀ b o, h₅.get? b = some o → (h₅.push { cls := .type "list_iterator", data := .fields #[.ref l, .int 0 0] }).get? b = some o := fun b o e => Heap.get?_push_of_some _ e
  have K2 := csrc_list (prog := prog) (w := w) (A := A) (h₀ := h₀) (L := L) (x := x2) (px := p2) (I := h₅.objs.size) (ax := l) (its := vs.toArray) hh hlI
  have loop : codeAny (model prog w) A (.compLoop (.ListComp (.Name x2 pe) [⟨t1, i1, [], 0⟩, ⟨.Name x2 p2, i2, [], 0⟩] scope pos) 1 (.ref h₅.objs.size) (.ref D) (compEnvC scope cl C env))
    R0
    { s with heap := h₅.push { cls := .type "list_iterator", data := .fields #[.ref l, .int 0 0] }, toks := tk₅ } := by
   refine comp_loop1 (s := s) (d := 1) (m₀ := m₄) (ys₀ := ys) (news₀ := ownAt h₄ wr ++ (new ++ news')) (J := fun j ys' _ => ys' = ys ++ vs.take j) rfl rfl K2 ?_ ?_ hCD hC0 hD0 hCL hDL ?_ ?_ (asg_name (Pv := fun i v => vs.toArray[i]? = some v) hkind hx2) ?_ ?_ rfl ?_ (F₅.push _) ((hoC.ns zC).push _) ?_ ?_ ?_ ?_ ?_ ?_
   ·simp [hCI, hCl]
   ·simp [hDI, hDl]
   ·simp [hLI]
   ·intro a ha
    rw [List.mem_singleton.mp ha]; exact hI0
   ·rintro j ys' nw hj rfl
    rw [List.length_append]
    rw [List.length_take]
    exact o35 hz5
   ·intro j ys' new₀ nw oC' m₂ h tk E' hj hR0 hoC' hR1 _ _ hCm _ F6 N6
    refine e1_2 hR0 ?_
    (try clear hR0); intro v2 hv2 hm2
    obtain rfl := hR1
    refine wpAny_tests_nil ?_
    rw [if_pos rfl]
    refine LCgL.ld_own N6 hCm hoC' hm2 ?_ hkind (lookup_relabel_local hx2) hb2
    refine i3_6 h tk ([]) rfl F6 N6 (fun p hp => by cases hp) List.nodup_nil ?_
    show ys ++ vs.take j ++ [v2] = ys ++ vs.take (j + 1)
    rw [List.take_add_one, ← List.getElem?_toArray, hv2, List.append_assoc]
    rfl
   ·exact ⟨⟨_, Heap.get?_push_size _ rfl, rfl, rfl⟩, hlist.push _⟩
   ·intro p hp
    rcases List.mem_cons.mp hp with rfl | hp
    ·exact ⟨up6 _ _ zD.1, zD.2⟩
    ·rcases List.mem_append.mp hp with hp | hp
     ·refine e0_2 (mem_ownAt.mp hp) ?_
      intro h1 h2
      have z := N₅ p (List.mem_append_right _ (List.mem_append_left _ hp))
      exact ⟨up6 _ _ z.1, z.2⟩
     ·exact ⟨up6 _ _ (N₅' p hp).1, (N₅' p hp).2⟩
   ·intro p hp
    have hlt6 : p.1 ≠ h₅.objs.size := by
     rcases List.mem_append.mp hp with hp | hp
     ·exact Nat.ne_of_lt (Heap.lt_size (N₅ p (List.mem_append_right _ (List.mem_append_left _ hp))).1)
     ·exact Nat.ne_of_lt (Heap.lt_size (N₅' p hp).1)
    refine ⟨by simpa using hlt6, ?_⟩
    rcases List.mem_append.mp hp with hp | hp
    ·refine e0_2 (mem_ownAt.mp hp) ?_
     intro h1 h2
     exact ⟨fun e => hCw (e ▸ h1), fun e => hDw (e ▸ h1)⟩
    ·exact (off₅ p hp).2
   ·exact .inr ⟨_, List.mem_append_right _ hl5', rfl, kk, rfl⟩
   ·refine ND.app ?_ nd₅ fun p hp q hq e => ?_
    ·exact ownAt_nd K.nodup
    ·refine e0_2 (mem_ownAt.mp hp) ?_
     intro h1 _
     exact (off₅ q hq).1 (e ▸ h1)
   ·simp
   ·rintro h₇ tk₇ m₇ ys' new₇ F₇ hn₇ N₇ _ _ rfl
    have sub7 : ∀ p ∈ new ++ news', p ∈ new₇ ++ (ownAt h₄ wr ++ (new ++ news')) := fun p hp => List.mem_append_right _ (List.mem_append_right _ hp)
    have N₇' : News h₀ L h₇ (new ++ news') := fun p hp => N₇ p (.tail _ (sub7 p hp))
    rw [List.size_toArray, List.take_length] at N₇
    refine hP0 _ (n + 1 - (i + 1)) _ (by exact o3 ‹_›) (i6_10 h₇ tk₇ (i + 1) (ys ++ vs) m₇ (new ++ new') rfl hlt rfl (K.st (i + 1) h₅ h₇ _ hst₅ (fun a ha o e => ?_) F₇.keep N₇' (K.mono _ _ hS fun p hp => List.mem_append_right _ (sub0 p hp))) F₇ hn₇ ?_ ?_ ?_ hJ₅)
    ·refine e1_1 (K.ex _ _ hst₄ a ha) ?_
     intro o₄ ho₄
     have h5 := (N₅ (a, o₄) (List.mem_append_right _ (List.mem_append_left _ (mem_ownAt.mpr ⟨ha, ho₄⟩)))).1
     have : o₄ = o := Option.some.inj (h5.symm.trans e)
     exact this ▸ (N₇ (a, o₄) (.tail _ (List.mem_append_right _ (List.mem_append_left _ (mem_ownAt.mpr ⟨ha, ho₄⟩))))).1
    ·rw [List.append_assoc, hnews]
     intro p hp
     rcases List.mem_cons.mp hp with rfl | hp
     ·exact N₇ _ (.head _)
     ·exact N₇' p hp
    ·rw [List.append_assoc, hnews]; exact off₅
    ·rw [List.append_assoc, hnews]; exact nd₅
  exact codeAny_compStart_1 loop (K2.self 0 _ _ _ ⟨⟨_, Heap.get?_push_size _ rfl, rfl, rfl⟩, hlist.push _⟩ loop)
 ·have hin : i = n := by exact o62 hi hlt
  subst hin
  refine K.W.done _ _ _ hst' fun h₁ tk₁ hk₁ => ?_
  refine hR h₁ tk₁ m' ys new' ⟨F'.ns.at' fun o e => hk₁ _ o hLw e, fun b o e => hk₁ b o (fun q => by rw [hw0 b q] at e; cases e) (F'.keep b o e), F'.above⟩ (hn'.at' fun o e => hk₁ _ o hCw e) (fun p hp => ?_) off' hnd' hJ'
  refine ⟨hk₁ _ _ ?_ (N' p hp).1, (N' p hp).2⟩
  rcases List.mem_cons.mp hp with rfl | hp
  ·exact hDw
  ·exact (off' p hp).1
end
end
section
open PyProof.Rows.LCg
section
variable {prog : Program} {w : World} {A : Around} {E : Value → Shared → Prop} {R : Result → Shared → Prop} {s : Shared} {h₀ : Heap} {L : Addr} {m : Str → Option Value} {env : Env}
theorem cblock {elt target iter : PySem.Expr} {ifs : List PySem.Expr} {rest : List Comprehension} {scope : Scope} {cl : List (Str × Addr)} {pos : Pos} {s₂ : Shared} {I : Addr} {fp wr : List Addr} {n : Nat} {P Md : Nat → Value → Heap → Prop} {St : Nat → Heap → Prop} {S : List (Addr × Obj) → Prop} {news : List (Addr × Obj)} {RR : Value → Addr → Result → Shared → Prop}
  (K : CSrc prog w A h₀ L target I fp wr n P Md St S) (hcell : ∀ y ∈ scope.names, y.2 ≠ .cell) (hkind : scope.kind = .function) (hst : St 0 s₂.heap) (hfp : ∀ b ∈ fp, b < s₂.heap.objs.size) (F : Fr h₀ L s₂.heap m) (N : News h₀ L s₂.heap news) (off : ∀ p ∈ news, p.1 ∉ wr)
  (loop : ∀ (C D : Addr) (h₁ : Heap) (tk : Nat) (m₀ : Str → Option Value), C ∉ fp → D ∉ fp → C ≠ D → h₀.get? C = none → h₀.get? D = none → C ≠ L → D ≠ L → St 0 h₁ → Fr h₀ L h₁ m → h₁.Ns C m₀ → News h₀ L h₁ ((D, lst []) :: news) → (∀ p ∈ news, p.1 ∉ wr ∧ p.1 ≠ C ∧ p.1 ≠ D) →
   codeAny (model prog w) A (.compLoop (.ListComp elt (⟨target, iter, ifs, 0⟩ :: rest) scope pos) 0 (.ref I) (.ref D) (compEnvC scope cl C env)) (RR (.ref D) C) { s₂ with heap := h₁, toks := tk }) :
  wpAny (model prog w) A (newList []) (fun acc s₃ => wpAny (model prog w) A (newFunctionEnv scope env.globals cl [] env.qual none .none (some env)) (fun cenv s₄ =>
   codeAny (model prog w) A (.compStart (.ListComp elt (⟨target, iter, ifs, 0⟩ :: rest) scope pos) 0 (.ref I) acc { cenv with scope := relabel scope env }) (RR acc cenv.locals) s₄) E s₃) E s₂ := by
 refine wpAny_newObj_type (wpAny_newFunctionEnv hcell (by intro y hy; simp at hy) (fun h₁ hns₁ hsb₁ => ?_) hkind)
 dsimp only at hns₁ hsb₁ ⊢
 generalize hH2 : s₂.heap.push { cls := .type "list", dict := none, data := .seq ([] : List Value).toArray } = H2 at hns₁ hsb₁ ⊢
 have hC : H2.objs.size = s₂.heap.objs.size + 1 := by rw [← hH2, Heap.size_push]
 have hDC : s₂.heap.objs.size ≠ H2.objs.size := by rw [hC]; exact Nat.ne_of_lt (Nat.lt_succ_self _)
 have below : ∀ b, b < s₂.heap.objs.size → b ≠ H2.objs.size ∧ b ≠ s₂.heap.objs.size := fun b hb => ⟨by rw [hC]; exact Nat.ne_of_lt (Nat.lt_succ_of_lt hb), Nat.ne_of_lt hb⟩
 have hDf : s₂.heap.objs.size ∉ fp := fun hm => Nat.lt_irrefl _ (hfp _ hm)
 have hCf : H2.objs.size ∉ fp := fun hm => by have := hfp _ hm; rw [hC] at this; exact Nat.lt_irrefl _ (Nat.lt_of_succ_lt this)
 have old : ∀ b o, s₂.heap.get? b = some o → h₁.get? b = some o := fun b o e => hsb₁.extBut b o (below b (Heap.lt_size e)).1 (Heap.get?_push_of_some _ (hH2 ▸ Heap.get?_push_of_some _ e))
 have hacc : h₁.get? s₂.heap.objs.size = some (lst []) := hsb₁.extBut _ _ hDC (Heap.get?_push_of_some _ (hH2 ▸ Heap.get?_push_size _ rfl))
 have hst₁ : St 0 h₁ := K.W.frame _ _ _ hst fun b _ o e => old b o e
 have fresh : ∀ a, s₂.heap.objs.size ≤ a → s₂.heap.get? a = none := fun a ha => by
  cases e : s₂.heap.get? a with
  | none => rfl
  | some o' => exact absurd (Heap.lt_size e) (Nat.not_lt.mpr ha)
 have fresh₀ : ∀ a, s₂.heap.objs.size ≤ a → h₀.get? a = none := fun a ha => by
  cases e : h₀.get? a with
  | none => rfl
  | some o' => have := F.keep a o' e; rw [fresh a ha] at this; cases this
 have hD₀ : h₀.get? s₂.heap.objs.size = none := fresh₀ _ (Nat.le_refl _)
 have hC₀ : h₀.get? H2.objs.size = none := fresh₀ _ (by rw [hC]; exact Nat.le_succ _)
 have hLlt : L < s₂.heap.objs.size := F.ns.lt
 have hDL : s₂.heap.objs.size ≠ L := Ne.symm (below L hLlt).2
 have hCL : H2.objs.size ≠ L := Ne.symm (below L hLlt).1
 have lp := loop H2.objs.size s₂.heap.objs.size h₁ (s₂.toks + ([] : List (Str × Value)).length) _ hCf hDf (Ne.symm hDC) hC₀ hD₀ hCL hDL hst₁ (F.keeps old) hns₁ (fun p hp => by
   rcases List.mem_cons.mp hp with rfl | hp
   ·exact i0_3 hacc hDL hD₀
   ·exact ⟨old _ _ (N p hp).1, (N p hp).2⟩) (fun p hp => ⟨off p hp, (below _ (Heap.lt_size (N p hp).1)).1, (below _ (Heap.lt_size (N p hp).1)).2⟩)
 exact codeAny_compStart_list lp (K.self 0 _ _ _ hst₁ lp)
noncomputable def FinE1 (h₀ : Heap) (L : Addr) (m : Str → Option Value) (Q : Value → Shared → Prop) (s : Shared) (news₀ : List (Addr × Obj)) (K : List Value → List (Addr × Obj) → Prop) : Prop :=
 ∀ D h tk ys new, Fr h₀ L h m → News h₀ L h ((D, lst ys) :: (new ++ news₀)) → ND ((D, lst ys) :: (new ++ news₀)) → K ys new → Q (.ref D) { s with heap := h, toks := tk }
noncomputable def FinA1 (h₀ : Heap) (L : Addr) (m : Str → Option Value) (y : Str) (Q : Flow → Shared → Prop) (s : Shared) (news₀ : List (Addr × Obj)) (K : List Value → List (Addr × Obj) → Prop) : Prop :=
 ∀ D h tk ys new, Fr h₀ L h (fun z => if z = y then some (.ref D) else m z) → News h₀ L h ((D, lst ys) :: (new ++ news₀)) → ND ((D, lst ys) :: (new ++ news₀)) → K ys new → Q .next { s with heap := h, toks := tk }
noncomputable def CompK (prog : Program) (w : World) (A : Around) (h₀ : Heap) (L : Addr) (m : Str → Option Value) (env : Env) (target : PySem.Expr) (scope : Scope) (cl : List (Str × Addr))
  (Turn : Shared → Addr → Nat → (Nat → (Str → Option Value) → Prop) → List (Addr × Obj) → (Nat → List Value → List (Addr × Obj) → Prop) → Prop) (Fin : Shared → List (Addr × Obj) → (List Value → List (Addr × Obj) → Prop) → Prop) (it : Value) (s₂ : Shared) : Prop :=
 ∃ I fp wr n P Md St S Bnd J news, it = .ref I ∧ CSrc prog w A h₀ L target I fp wr n P Md St S ∧ St 0 s₂.heap ∧ (∀ b ∈ fp, b < s₂.heap.objs.size) ∧ Fr h₀ L s₂.heap m ∧ News h₀ L s₂.heap news ∧ (∀ p ∈ news, p.1 ∉ wr) ∧ L ∉ wr ∧ (∀ a ∈ wr, h₀.get? a = none) ∧ S news ∧ ND news ∧
  (∀ C, Asg prog w A target (compEnvC scope cl C env) C P Bnd) ∧ J 0 [] [] ∧ (∀ i ys nw, i ≤ n → J i ys nw → ys.length ≤ sizeLine) ∧ (∀ C, Turn s₂ C n Bnd news J) ∧ Fin s₂ news (J n)
theorem compk {prog : Program} {w : World} {A : Around} {h₀ : Heap} {L : Addr} {m : Str → Option Value} {env : Env} {target : PySem.Expr} {scope : Scope} {cl : List (Str × Addr)}
  {Turn : Shared → Addr → Nat → (Nat → (Str → Option Value) → Prop) → List (Addr × Obj) → (Nat → List Value → List (Addr × Obj) → Prop) → Prop} {Fin : Shared → List (Addr × Obj) → (List Value → List (Addr × Obj) → Prop) → Prop} {it : Value} {s₂ : Shared}
  (I : Addr) (fp : List Addr) (wr : List Addr) (n : Nat) (P : Nat → Value → Heap → Prop) (Md : Nat → Value → Heap → Prop) (St : Nat → Heap → Prop) (S : List (Addr × Obj) → Prop) (Bnd : Nat → (Str → Option Value) → Prop) (J : Nat → List Value → List (Addr × Obj) → Prop) (news : List (Addr × Obj))
  (h0 : it = .ref I) (h1 : CSrc prog w A h₀ L target I fp wr n P Md St S) (h2 : St 0 s₂.heap) (h3 : (∀ b ∈ fp, b < s₂.heap.objs.size)) (h4 : Fr h₀ L s₂.heap m) (h5 : News h₀ L s₂.heap news) (h6 : (∀ p ∈ news, p.1 ∉ wr)) (h7 : L ∉ wr) (h8 : (∀ a ∈ wr, h₀.get? a = none)) (h9 : S news) (h10 : ND news) (h11 : (∀ C, Asg prog w A target (compEnvC scope cl C env) C P Bnd)) (h12 : J 0 [] []) (h13 : (∀ i ys nw, i ≤ n → J i ys nw → ys.length ≤ sizeLine)) (h14 : (∀ C, Turn s₂ C n Bnd news J)) (h15 : Fin s₂ news (J n)) : CompK prog w A h₀ L m env target scope cl Turn Fin it s₂ :=
 ⟨I, fp, wr, n, P, Md, St, S, Bnd, J, news, h0, h1, h2, h3, h4, h5, h6, h7, h8, h9, h10, h11, h12, h13, h14, h15⟩
theorem compk_elim {prog : Program} {w : World} {A : Around} {h₀ : Heap} {L : Addr} {m : Str → Option Value} {env : Env} {target : PySem.Expr} {scope : Scope} {cl : List (Str × Addr)}
  {Turn : Shared → Addr → Nat → (Nat → (Str → Option Value) → Prop) → List (Addr × Obj) → (Nat → List Value → List (Addr × Obj) → Prop) → Prop} {Fin : Shared → List (Addr × Obj) → (List Value → List (Addr × Obj) → Prop) → Prop} {it : Value} {s₂ : Shared} {Gl : Prop} (h : CompK prog w A h₀ L m env target scope cl Turn Fin it s₂)
  (c : ∀ (I : Addr) (fp : List Addr) (wr : List Addr) (n : Nat) (P : Nat → Value → Heap → Prop) (Md : Nat → Value → Heap → Prop) (St : Nat → Heap → Prop) (S : List (Addr × Obj) → Prop) (Bnd : Nat → (Str → Option Value) → Prop) (J : Nat → List Value → List (Addr × Obj) → Prop) (news : List (Addr × Obj)), it = .ref I → CSrc prog w A h₀ L target I fp wr n P Md St S → St 0 s₂.heap → (∀ b ∈ fp, b < s₂.heap.objs.size) → Fr h₀ L s₂.heap m → News h₀ L s₂.heap news → (∀ p ∈ news, p.1 ∉ wr) → L ∉ wr → (∀ a ∈ wr, h₀.get? a = none) → S news → ND news → (∀ C, Asg prog w A target (compEnvC scope cl C env) C P Bnd) → J 0 [] [] → ((∀ i ys nw, i ≤ n → J i ys nw → ys.length ≤ sizeLine)) → (∀ C, Turn s₂ C n Bnd news J) → Fin s₂ news (J n) → Gl) : Gl := by
 refine e11_1 h ?_
 intro I fp wr n P Md St S Bnd J news h
 exact e0_16 h (c I fp wr n P Md St S Bnd J news)
theorem comp_E1 {elt target iter : PySem.Expr} {ifs : List PySem.Expr} {scope : Scope} {cl : List (Str × Addr)} {pos : Pos} {Q : Value → Shared → Prop} (_F₀ : Fr h₀ L s.heap m)
  (hclos : closureFor scope env = pure cl) (hcell : ∀ y ∈ scope.names, y.2 ≠ .cell) (hkind : scope.kind = .function)
  (hnames : ∀ y ∈ scope.names, y.2 = .local → scope.names.lookup y.1 = some .local)
  (h : wpAny (model prog w) A (eval iter env) (fun xv s₁ => wpAny (model prog w) A (pyIter xv) (CompK prog w A h₀ L m env target scope cl (Turn1 prog w A h₀ L m env elt ifs scope cl) (FinE1 h₀ L m Q)) E s₁) E s)
  (hs : ∀ x, foldedSetIterable iter env x = pure x := by intro _; rfl) :
  wpAny (model prog w) A (eval (.ListComp elt [⟨target, iter, ifs, 0⟩] scope pos) env) Q E s := by
 rw [eval_ListComp]
 refine wpAny_comprehension_free (use := none) rfl hs hclos hkind hnames (wpAny_mono h (fun xv s₁ h₁ => wpAny_mono h₁ (fun it s₂ h₂ => ?_) fun _ _ e => e) fun _ _ e => e)
 refine compk_elim h₂ ?_
 (try clear h₂); intro I fp wr n P Md St S Bnd J news hz1 K hst hfp F N off hLw hw0 hS hnd hasg hJ hJz turn fin
 subst hz1
 refine cblock K hcell hkind hst hfp F N off fun C D h₁ tk m₀ hCf hDf hCD hC0 hD0 hCL hDL hst₁ F₁ hn₁ N₁ off₁ => ?_
 refine comp_loop1 (s := s₂) (d := 0) rfl rfl K hCf hDf hCD hC0 hD0 hCL hDL hLw hw0 (hasg C) hJz (turn C) rfl hst₁ F₁ hn₁ N₁ off₁ hS hnd hJ ?_
 intro h' tk' m' ys' new F' hn' N' off' hnd' hJ'
 refine i1_2 m' hn' (fun h'' hs'' => ?_)
 refine fin D h'' tk' ys' new (F'.change hs'' hCL hC0) (fun p hp => ?_) (nd_cons_off hnd' fun p hp => (off' p hp).2.2) hJ'
 refine ⟨hs''.extBut _ _ ?_ (N' p hp).1, (N' p hp).2⟩
 rcases List.mem_cons.mp hp with rfl | hp
 ·exact Ne.symm hCD
 ·exact (off' p hp).2.1
theorem comp_E2 {t1 i1 i2 : PySem.Expr} {x2 : Str} {p2 pe : Pos} {scope : Scope} {cl : List (Str × Addr)} {pos : Pos} {Q : Value → Shared → Prop} (_F₀ : Fr h₀ L s.heap m) (hh : A.handled = none)
  (hclos : closureFor scope env = pure cl) (hcell : ∀ y ∈ scope.names, y.2 ≠ .cell) (hkind : scope.kind = .function)
  (hnames : ∀ y ∈ scope.names, y.2 = .local → scope.names.lookup y.1 = some .local) (hx2 : scope.names.lookup x2 = some .local) (hb2 : (x2 == ("__debug__" : Str)) = false)
  (h : wpAny (model prog w) A (eval i1 env) (fun xv s₁ => wpAny (model prog w) A (pyIter xv) (CompK prog w A h₀ L m env t1 scope cl (Turn2 prog w A h₀ L m env i2 scope cl) (FinE1 h₀ L m Q)) E s₁) E s)
  (hs : ∀ x, foldedSetIterable i1 env x = pure x := by intro _; rfl) (hs2 : ∀ C x, foldedSetIterable i2 (compEnvC scope cl C env) x = pure x := by intro _ _; rfl) :
  wpAny (model prog w) A (eval (.ListComp (.Name x2 pe) [⟨t1, i1, [], 0⟩, ⟨.Name x2 p2, i2, [], 0⟩] scope pos) env) Q E s := by
 rw [eval_ListComp]
 refine wpAny_comprehension_free (use := none) rfl hs hclos hkind hnames (wpAny_mono h (fun xv s₁ h₁ => wpAny_mono h₁ (fun it s₂ h₂ => ?_) fun _ _ e => e) fun _ _ e => e)
 refine compk_elim h₂ ?_
 (try clear h₂); intro I fp wr n P Md St S Bnd J news hz2 K hst hfp F N off hLw hw0 hS hnd hasg hJ hJz turn fin
 subst hz2
 refine cblock K hcell hkind hst hfp F N off fun C D h₁ tk m₀ hCf hDf hCD hC0 hD0 hCL hDL hst₁ F₁ hn₁ N₁ off₁ => ?_
 refine comp_loop2 (s := s₂) hh (hs2 C) hkind hx2 hb2 K hCf hDf hCD hC0 hD0 hCL hDL hLw hw0 (hasg C) (turn C) rfl hst₁ F₁ hn₁ N₁ off₁ hS hnd hJ ?_
 intro h' tk' m' ys' new F' hn' N' off' hnd' hJ'
 refine i1_2 m' hn' (fun h'' hs'' => ?_)
 refine fin D h'' tk' ys' new (F'.change hs'' hCL hC0) (fun p hp => ?_) (nd_cons_off hnd' fun p hp => (off' p hp).2.2) hJ'
 refine ⟨hs''.extBut _ _ ?_ (N' p hp).1, (N' p hp).2⟩
 rcases List.mem_cons.mp hp with rfl | hp
 ·exact Ne.symm hCD
 ·exact (off' p hp).2.1
theorem comp_A1 {elt target iter : PySem.Expr} {ifs : List PySem.Expr} {y : Str} {py : Pos} {scope : Scope} {cl : List (Str × Addr)} {pos spos : Pos} {Q : Flow → Shared → Prop} (_F₀ : Fr h₀ L s.heap m) (hLe : env.locals = L)
  (hsw : swapsWith (.ListComp elt [⟨target, iter, ifs, 0⟩] scope pos) (some (.Name y py)) spos.line env = pure true)
  (hclos : closureFor scope env = pure cl) (hcell : ∀ y ∈ scope.names, y.2 ≠ .cell) (hkind : scope.kind = .function)
  (hnames : ∀ y ∈ scope.names, y.2 = .local → scope.names.lookup y.1 = some .local)
  (hy : env.kindOf y = some .local) (hp : (env.scope.kind == .class || (env.scope.kind == .module && env.locals != env.globals)) = false)
  (h : wpAny (model prog w) A (eval iter env) (fun xv s₁ => wpAny (model prog w) A (pyIter xv) (CompK prog w A h₀ L m env target scope cl (Turn1 prog w A h₀ L m env elt ifs scope cl) (FinA1 h₀ L m y Q)) E s₁) E s)
  (hs : ∀ x, foldedSetIterable iter env x = pure x := by intro _; rfl) :
  wpAny (model prog w) A (exec (.Assign [.Name y py] (.ListComp elt [⟨target, iter, ifs, 0⟩] scope pos) spos) env) Q E s := by
 subst hLe
 rw [exec_Assign_Name_used _ _ _ _ hsw]
 refine wpAny_bind (wpAny_standAt (wpAny_bind ?_))
 show wpAny _ A (do let _ ← comprehension (.ListComp elt [⟨target, iter, ifs, 0⟩] scope pos) scope env _ (newList []) false (eval iter env) (some (assign (.Name y py) env))) _ _ s
 refine wpAny_bind (wpAny_mono (wpAny_comprehension_free (use := some (assign (.Name y py) env)) (Q := fun _ s' => Q .next s') rfl hs hclos hkind hnames
  (wpAny_mono h (fun xv s₁ h₁ => wpAny_mono h₁ (fun it s₂ h₂ => ?_) fun _ _ e => e) fun _ _ e => e)) (fun _ s' hq => wpAny_pure (wpAny_pure hq)) fun _ _ e => e)
 refine compk_elim h₂ ?_
 (try clear h₂); intro I fp wr n P Md St S Bnd J news hz3 K hst hfp F N off hLw hw0 hS hnd hasg hJ hJz turn fin
 subst hz3
 refine cblock K hcell hkind hst hfp F N off fun C D h₁ tk m₀ hCf hDf hCD hC0 hD0 hCL hDL hst₁ F₁ hn₁ N₁ off₁ => ?_
 refine comp_loop1 (s := s₂) (d := 0) rfl rfl K hCf hDf hCD hC0 hD0 hCL hDL hLw hw0 (hasg C) hJz (turn C) rfl hst₁ F₁ hn₁ N₁ off₁ hS hnd hJ ?_
 intro h' tk' m' ys' new F' hn' N' off' hnd' hJ'
 show wpAny _ A (assign (.Name y py) env (.ref D)) _ _ _
 refine wpAny_assign_Name (wpAny_storeName_local hy F'.ns (fun h₂ hn₂ hs₂ => ?_) hp)
 have F₂ := F'.set hn₂ hs₂
 have N₂ := News.set N' hs₂
 refine i1_2 m' (hn'.sameBut hs₂ hCL) (fun h'' hs'' => ?_)
 refine fin D h'' _ ys' new (F₂.change hs'' hCL hC0) (fun p hp => ?_) (nd_cons_off hnd' fun p hp => (off' p hp).2.2) hJ'
 refine ⟨hs''.extBut _ _ ?_ (N₂ p hp).1, (N₂ p hp).2⟩
 rcases List.mem_cons.mp hp with rfl | hp
 ·exact Ne.symm hCD
 ·exact (off' p hp).2.1
theorem comp_A2 {t1 i1 i2 : PySem.Expr} {x2 : Str} {p2 pe : Pos} {y : Str} {py : Pos} {scope : Scope} {cl : List (Str × Addr)} {pos spos : Pos} {Q : Flow → Shared → Prop} (_F₀ : Fr h₀ L s.heap m) (hh : A.handled = none) (hLe : env.locals = L)
  (hsw : swapsWith (.ListComp (.Name x2 pe) [⟨t1, i1, [], 0⟩, ⟨.Name x2 p2, i2, [], 0⟩] scope pos) (some (.Name y py)) spos.line env = pure true)
  (hclos : closureFor scope env = pure cl) (hcell : ∀ y ∈ scope.names, y.2 ≠ .cell) (hkind : scope.kind = .function)
  (hnames : ∀ y ∈ scope.names, y.2 = .local → scope.names.lookup y.1 = some .local) (hx2 : scope.names.lookup x2 = some .local) (hb2 : (x2 == ("__debug__" : Str)) = false)
  (hy : env.kindOf y = some .local) (hp : (env.scope.kind == .class || (env.scope.kind == .module && env.locals != env.globals)) = false)
  (h : wpAny (model prog w) A (eval i1 env) (fun xv s₁ => wpAny (model prog w) A (pyIter xv) (CompK prog w A h₀ L m env t1 scope cl (Turn2 prog w A h₀ L m env i2 scope cl) (FinA1 h₀ L m y Q)) E s₁) E s)
  (hs : ∀ x, foldedSetIterable i1 env x = pure x := by intro _; rfl) (hs2 : ∀ C x, foldedSetIterable i2 (compEnvC scope cl C env) x = pure x := by intro _ _; rfl) :
  wpAny (model prog w) A (exec (.Assign [.Name y py] (.ListComp (.Name x2 pe) [⟨t1, i1, [], 0⟩, ⟨.Name x2 p2, i2, [], 0⟩] scope pos) spos) env) Q E s := by
 subst hLe
 rw [exec_Assign_Name_used _ _ _ _ hsw]
 refine wpAny_bind (wpAny_standAt (wpAny_bind ?_))
 show wpAny _ A (do let _ ← comprehension (.ListComp (.Name x2 pe) [⟨t1, i1, [], 0⟩, ⟨.Name x2 p2, i2, [], 0⟩] scope pos) scope env _ (newList []) false (eval i1 env) (some (assign (.Name y py) env))) _ _ s
 refine wpAny_bind (wpAny_mono (wpAny_comprehension_free (use := some (assign (.Name y py) env)) (Q := fun _ s' => Q .next s') rfl hs hclos hkind hnames
  (wpAny_mono h (fun xv s₁ h₁ => wpAny_mono h₁ (fun it s₂ h₂ => ?_) fun _ _ e => e) fun _ _ e => e)) (fun _ s' hq => wpAny_pure (wpAny_pure hq)) fun _ _ e => e)
 refine compk_elim h₂ ?_
 (try clear h₂); intro I fp wr n P Md St S Bnd J news hz4 K hst hfp F N off hLw hw0 hS hnd hasg hJ hJz turn fin
 subst hz4
 refine cblock K hcell hkind hst hfp F N off fun C D h₁ tk m₀ hCf hDf hCD hC0 hD0 hCL hDL hst₁ F₁ hn₁ N₁ off₁ => ?_
 refine comp_loop2 (s := s₂) hh (hs2 C) hkind hx2 hb2 K hCf hDf hCD hC0 hD0 hCL hDL hLw hw0 (hasg C) (turn C) rfl hst₁ F₁ hn₁ N₁ off₁ hS hnd hJ ?_
 intro h' tk' m' ys' new F' hn' N' off' hnd' hJ'
 show wpAny _ A (assign (.Name y py) env (.ref D)) _ _ _
 refine wpAny_assign_Name (wpAny_storeName_local hy F'.ns (fun h₂ hn₂ hs₂ => ?_) hp)
 have F₂ := F'.set hn₂ hs₂
 have N₂ := News.set N' hs₂
 refine i1_2 m' (hn'.sameBut hs₂ hCL) (fun h'' hs'' => ?_)
 refine fin D h'' _ ys' new (F₂.change hs'' hCL hC0) (fun p hp => ?_) (nd_cons_off hnd' fun p hp => (off' p hp).2.2) hJ'
 refine ⟨hs''.extBut _ _ ?_ (N₂ p hp).1, (N₂ p hp).2⟩
 rcases List.mem_cons.mp hp with rfl | hp
 ·exact Ne.symm hCD
 ·exact (off' p hp).2.1
section
variable {scope : Scope} {cl : List (Str × Addr)} {news : List (Addr × Obj)} {x : Str} {px : Pos}
 {Turn : Shared → Addr → Nat → (Nat → (Str → Option Value) → Prop) → List (Addr × Obj) → (Nat → List Value → List (Addr × Obj) → Prop) → Prop} {Fin : Shared → List (Addr × Obj) → (List Value → List (Addr × Obj) → Prop) → Prop}
theorem k_list {l : Addr} {o : Obj} {its : Array Value} (J : Nat → List Value → List (Addr × Obj) → Prop) (hh : A.handled = none) (hkind : scope.kind = .function) (hx : scope.names.lookup x = some .local)
  (F : Fr h₀ L s.heap m) (N : News h₀ L s.heap news) (hnd : ND news) (hm : (l, o) ∈ news) (hc : o.cls = .type "list") (hd : ∃ k, o.data = .seq its k)
  (h0 : J 0 [] []) (hz : ∀ i ys nw, i ≤ its.size → J i ys nw → ys.length ≤ sizeLine)
  (turn : ∀ g C, Turn { s with heap := g } C its.size (fun i m => ∃ v, its[i]? = some v ∧ m x = some v) news J) (fin : ∀ g, Fin { s with heap := g } news (J its.size)) :
  wpAny (model prog w) A (pyIter (.ref l)) (CompK prog w A h₀ L m env (.Name x px) scope cl Turn Fin) E s := by
 refine e1_1 hd ?_
 (try clear hd); intro k hd
 have hg := (N _ hm).1
 have hlt : l < s.heap.objs.size := Heap.lt_size hg
 have hl : s.heap.IsList l its := ⟨o, hg, hc, k, hd⟩
 refine wpAny_pyIter_list hl ?_
 refine compk s.heap.objs.size _ _ _ _ _ _ _ _ J news rfl (csrc_list hh (Nat.ne_of_lt hlt)) ⟨⟨_, Heap.get?_push_size _ rfl, rfl, rfl⟩, hl.push _⟩ ?_ (F.push _) (fun p hp => ⟨Heap.get?_push_of_some _ (N p hp).1, (N p hp).2⟩) ?_ ?_ ?_ (.inr ⟨o, hm, hc, k, hd⟩) hnd (fun C => asg_name (Pv := fun i v => its[i]? = some v) hkind hx) h0 hz (turn _) (fin _)
 ·intro b hb
  show b < (s.heap.push _).objs.size
  rw [Heap.size_push]
  rcases List.mem_cons.mp hb with rfl | hb
  ·exact Nat.lt_succ_self _
  ·rw [List.mem_singleton.mp hb]; exact Nat.lt_succ_of_lt hlt
 ·intro p hp
  simpa using Nat.ne_of_lt (Heap.lt_size (N p hp).1)
 ·simpa using Nat.ne_of_lt F.ns.lt
 ·intro a ha
  rw [List.mem_singleton.mp ha]; exact next_is_new F
noncomputable def TupAt' (h₀ : Heap) (ax : Addr) (its : Array Value) (news : List (Addr × Obj)) : Prop := ∃ o, (ax, o) ∈ news ∧ o.cls = .type "tuple" ∧ ∃ n, o.data = .seq its n
theorem csrc_tup {I ax : Addr} {its : Array Value} (hh : A.handled = none) (hne : ax ≠ I) :
  CSrc prog w A h₀ L (.Name x px) I [I, ax] [I] its.size (fun i v _ => its[i]? = some v) (fun i v h => its[i]? = some v ∧ ((∃ o, h.get? I = some o ∧ o.cls = .type "tuple_iterator" ∧ o.data = .fields #[.ref ax, .int (i + 1 : Nat) 0]) ∧ h.IsTuple ax its))
   (fun i h => (∃ o, h.get? I = some o ∧ o.cls = .type "tuple_iterator" ∧ o.data = .fields #[.ref ax, .int i 0]) ∧ h.IsTuple ax its) (TupAt' h₀ ax its) where
 W := KTurns.ofWalks (Walks.tuple hh I ax hne its) fun _ _ _ _ _ _ q => wpAny_of_eq (a := ()) rfl q
 self := (Walks.tuple hh I ax hne its).self
 ex := fun i h st a ha => by
  refine e1_2 st.1 ?_
  intro o e _
  rw [List.mem_singleton.mp ha]
  exact ⟨o, e⟩
 st := fun i h h' nw st k1 k2 N hS => by
  refine e1_2 st.1 ?_
  intro o e r
  refine e1_2 hS ?_
  (try clear hS); intro o' hm r'
  exact ⟨⟨o, k1 _ (.head _) _ e, r⟩, ⟨o', (N _ hm).1, r'⟩⟩
 mono := fun nw nw' hS k => by
  refine e1_2 hS ?_
  (try clear hS); intro o hm r
  exact i1_2 o (k _ hm) r
 nodup := by simp
theorem k_tup {l : Addr} {o : Obj} {its : Array Value} (J : Nat → List Value → List (Addr × Obj) → Prop) (hh : A.handled = none) (hkind : scope.kind = .function) (hx : scope.names.lookup x = some .local)
  (F : Fr h₀ L s.heap m) (N : News h₀ L s.heap news) (hnd : ND news) (hm : (l, o) ∈ news) (hc : o.cls = .type "tuple") (hd : ∃ k, o.data = .seq its k)
  (h0 : J 0 [] []) (hz : ∀ i ys nw, i ≤ its.size → J i ys nw → ys.length ≤ sizeLine)
  (turn : ∀ g C, Turn { s with heap := g } C its.size (fun i m => ∃ v, its[i]? = some v ∧ m x = some v) news J) (fin : ∀ g, Fin { s with heap := g } news (J its.size)) :
  wpAny (model prog w) A (pyIter (.ref l)) (CompK prog w A h₀ L m env (.Name x px) scope cl Turn Fin) E s := by
 refine e1_1 hd ?_
 (try clear hd); intro k hd
 have hg := (N _ hm).1
 have hlt : l < s.heap.objs.size := Heap.lt_size hg
 have hl : s.heap.IsTuple l its := ⟨o, hg, hc, k, hd⟩
 refine wpAny_pyIter_tuple hl ?_
 refine compk s.heap.objs.size _ _ _ _ _ _ _ _ J news rfl (csrc_tup hh (Nat.ne_of_lt hlt)) ⟨⟨_, Heap.get?_push_size _ rfl, rfl, rfl⟩, hl.push _⟩ ?_ (F.push _) (fun p hp => ⟨Heap.get?_push_of_some _ (N p hp).1, (N p hp).2⟩) ?_ ?_ ?_ ⟨o, hm, hc, k, hd⟩ hnd (fun C => asg_name (Pv := fun i v => its[i]? = some v) hkind hx) h0 hz (turn _) (fin _)
 ·intro b hb
  show b < (s.heap.push _).objs.size
  rw [Heap.size_push]
  rcases List.mem_cons.mp hb with rfl | hb
  ·exact Nat.lt_succ_self _
  ·rw [List.mem_singleton.mp hb]; exact Nat.lt_succ_of_lt hlt
 ·intro p hp
  simpa using Nat.ne_of_lt (Heap.lt_size (N p hp).1)
 ·simpa using Nat.ne_of_lt F.ns.lt
 ·intro a ha
  rw [List.mem_singleton.mp ha]; exact next_is_new F
end
end
end
section
open PyProof.Rows.LCg
section
variable {prog : Program} {w : World} {A : Around} {E : Value → Shared → Prop} {R : Result → Shared → Prop} {s : Shared} {h₀ : Heap} {L : Addr} {m : Str → Option Value} {env : Env}
 {scope : Scope} {cl : List (Str × Addr)} {news : List (Addr × Obj)} {x : Str} {px : Pos}
 {Turn : Shared → Addr → Nat → (Nat → (Str → Option Value) → Prop) → List (Addr × Obj) → (Nat → List Value → List (Addr × Obj) → Prop) → Prop} {Fin : Shared → List (Addr × Obj) → (List Value → List (Addr × Obj) → Prop) → Prop}
theorem csrc_range {I : Addr} {a : Int} {n : Nat} (hh : A.handled = none) :
  CSrc prog w A h₀ L (.Name x px) I [I] [I] n (fun i v _ => ∃ t, v = .int (a + (i : Int)) t) (fun i v h => (∃ t, v = .int (a + (i : Int)) t) ∧ IsRangeIter h I (a + (i + 1 : Nat) * 1) ((n : Int) - (i + 1 : Nat)) 1)
   (fun i h => IsRangeIter h I (a + (i : Nat) * 1) ((n : Int) - (i : Nat)) 1) (fun _ => True) where
 W := KTurns.ofWalks (range_walks hh a n) fun _ _ _ _ _ _ q => wpAny_of_eq (a := ()) rfl q
 self := (range_walks hh a n).self
 ex := fun i h st b hb => by
  rw [List.mem_singleton.mp hb]
  exact ⟨_, st⟩
 st := fun i h h' nw st k1 k2 N hS => k1 _ (.head _) _ st
 mono := fun _ _ _ _ => trivial
 nodup := by simp
theorem k_range {r : Addr} {a b : Int} {t u v : Tok} {n : Nat} (J : Nat → List Value → List (Addr × Obj) → Prop) (hh : A.handled = none) (hkind : scope.kind = .function) (hx : scope.names.lookup x = some .local)
  (F : Fr h₀ L s.heap m) (N : News h₀ L s.heap news) (hnd : ND news) (hr : IsRange s.heap r a b 1 t u v) (hsm : Builtin.Range.small a b 1 = true) (hn : Builtin.Range.rangeSize a b 1 = ((n : Nat) : Int))
  (h0 : J 0 [] []) (hz : ∀ i ys nw, i ≤ n → J i ys nw → ys.length ≤ sizeLine)
  (turn : ∀ g C, Turn { s with heap := g } C n (fun i m => ∃ v, (∃ t, v = .int (a + (i : Int)) t) ∧ m x = some v) news J) (fin : ∀ g, Fin { s with heap := g } news (J n)) :
  wpAny (model prog w) A (pyIter (.ref r)) (CompK prog w A h₀ L m env (.Name x px) scope cl Turn Fin) E s := by
 refine wpAny_pyIter_range hr hsm ?_
 refine compk s.heap.objs.size _ _ _ _ _ _ _ _ J news rfl (csrc_range (a := a) (n := n) hh) ?_ ?_ (F.push _) (fun p hp => ⟨Heap.get?_push_of_some _ (N p hp).1, (N p hp).2⟩) ?_ ?_ ?_ trivial hnd (fun C => asg_name (Pv := fun i v => ∃ t, v = .int (a + (i : Int)) t) hkind hx) h0 hz (turn _) (fin _)
 ·show IsRangeIter _ _ _ _ _
  rw [hn]; simpa using Heap.get?_push_size _ rfl
 ·intro b hb
  show b < (s.heap.push _).objs.size
  rw [Heap.size_push, List.mem_singleton.mp hb]
  exact Nat.lt_succ_self _
 ·intro p hp
  simpa using Nat.ne_of_lt (Heap.lt_size (N p hp).1)
 ·simpa using Nat.ne_of_lt F.ns.lt
 ·intro a ha
  rw [List.mem_singleton.mp ha]; exact next_is_new F
theorem csrc_vals {K : Type} [DecidableEq K] {knd : KeyKind prog w K} {I d : Addr} {od : Obj} {kvs : List (K × Value)} {ep : Nat} (hat : ∀ h : Heap, h.get? d = some od → h.DictAt knd d kvs ep) (hh : A.handled = none) (hne : d ≠ I) :
  CSrc prog w A h₀ L (.Name x px) I [I, d] [I] kvs.length (fun i v _ => ∃ k, kvs[i]? = some (k, v)) (fun i v h => (∃ k, kvs[i]? = some (k, v)) ∧ (h.IsValIter I d (i + 1) kvs.length ep ∧ h.DictAt knd d kvs ep))
   (fun i h => h.IsValIter I d i kvs.length ep ∧ h.DictAt knd d kvs ep) (fun nw => (d, od) ∈ nw) where
 W := KTurns.ofWalks (Walks.dictValues hh I d hne kvs ep) fun _ _ _ _ _ _ q => wpAny_of_eq (a := ()) rfl q
 self := (Walks.dictValues hh I d hne kvs ep).self
 ex := fun i h st a ha => by
  refine e1_2 st.1 ?_
  intro o e _
  rw [List.mem_singleton.mp ha]
  exact ⟨o, e⟩
 st := fun i h h' nw st k1 k2 N hS => by
  refine e1_2 st.1 ?_
  intro o e r
  exact ⟨⟨o, k1 _ (.head _) _ e, r⟩, hat _ (N _ hS).1⟩
 mono := fun nw nw' hS k => k _ hS
 nodup := by simp
theorem k_vals {K : Type} [DecidableEq K] {knd : KeyKind prog w K} {vw d : Addr} {od : Obj} {kvs : List (K × Value)} (J : Nat → List Value → List (Addr × Obj) → Prop) (hh : A.handled = none) (hkind : scope.kind = .function) (hx : scope.names.lookup x = some .local)
  (F : Fr h₀ L s.heap m) (N : News h₀ L s.heap news) (hnd : ND news) (hv : s.heap.IsValuesView vw d) (hm : (d, od) ∈ news) (hd : od.IsDictOf knd kvs)
  (h0 : J 0 [] []) (hz : ∀ i ys nw, i ≤ kvs.length → J i ys nw → ys.length ≤ sizeLine)
  (turn : ∀ g C, Turn { s with heap := g } C kvs.length (fun i m => ∃ v, (∃ k, kvs[i]? = some (k, v)) ∧ m x = some v) news J) (fin : ∀ g, Fin { s with heap := g } news (J kvs.length)) :
  wpAny (model prog w) A (pyIter (.ref vw)) (CompK prog w A h₀ L m env (.Name x px) scope cl Turn Fin) E s := by
 refine e1_1 (KdkAt.of hd) ?_
 intro ep hat
 have hdat := hat.dictAt (N _ hm).1
 have hlt : d < s.heap.objs.size := Heap.lt_size (N _ hm).1
 refine wpAny_pyIter_values hv hdat ?_
 refine compk s.heap.objs.size _ _ _ _ _ _ _ _ J news rfl (csrc_vals (od := od) (fun h e => hat.dictAt e) hh (Nat.ne_of_lt hlt)) ⟨⟨_, Heap.get?_push_size _ rfl, rfl, rfl⟩, hdat.push _⟩ ?_ (F.push _) (fun p hp => ⟨Heap.get?_push_of_some _ (N p hp).1, (N p hp).2⟩) ?_ ?_ ?_ hm hnd (fun C => asg_name (Pv := fun i v => ∃ k, kvs[i]? = some (k, v)) hkind hx) h0 hz (turn _) (fin _)
 ·intro b hb
  show b < (s.heap.push _).objs.size
  rw [Heap.size_push]
  rcases List.mem_cons.mp hb with rfl | hb
  ·exact Nat.lt_succ_self _
  ·rw [List.mem_singleton.mp hb]; exact Nat.lt_succ_of_lt hlt
 ·intro p hp
  simpa using Nat.ne_of_lt (Heap.lt_size (N p hp).1)
 ·simpa using Nat.ne_of_lt F.ns.lt
 ·intro a ha
  rw [List.mem_singleton.mp ha]; exact next_is_new F
theorem asg_pair {x₂ : Str} {p1 p2 tp : Pos} {kk : Nat} {C : Addr} {Pt : Nat → Array Value → Prop} {P2 : Nat → Value → Value → Prop} (hh : A.handled = none) (hP : ∀ i vals, Pt i vals → ∃ a b, vals = #[a, b] ∧ P2 i a b) (hkind : scope.kind = .function) (hx : scope.names.lookup x = some .local) (hx₂ : scope.names.lookup x₂ = some .local) (hxx : x ≠ x₂) :
  Asg prog w A (.Tuple [.Name x p1, .Name x₂ p2] kk tp) (compEnvC scope cl C env) C (fun i v h => ∃ T vals, v = .ref T ∧ Pt i vals ∧ h.IsTuple T vals) (fun i m => ∃ a b, P2 i a b ∧ m x = some a ∧ m x₂ = some b) := by
 intro i v s m' Q E hR0 hn k
 refine e2_3 hR0 ?_
 (try clear hR0); intro T vals hz1 hPt hT
 subst hz1
 refine e2_2 (hP i vals hPt) ?_
 intro a b hz1 h2
 subst hz1
 refine kcp_assign (env := compEnvC scope cl C env) hh hT (lookup_relabel_local hx) (lookup_relabel_local hx₂) (by simp [compEnvC, relabel, hkind]) hn fun h' tk' hn' hk' => ?_
 exact k h' tk' _ hn' ⟨a, b, h2, by simp [hxx], by simp⟩ hk'
theorem csrc_enum {x₂ : Str} {p1 p2 tp : Pos} {kk : Nat} {e it l : Addr} {its : Array Value} (hh : A.handled = none) (hei : e ≠ it) (hle : l ≠ e) (hli : l ≠ it) :
  CSrc prog w A h₀ L (.Tuple [.Name x p1, .Name x₂ p2] kk tp) e [e, it, l] [e, it] its.size (fun i v h => ∃ T vals, v = .ref T ∧ (∃ t y, its[i]? = some y ∧ vals = #[.int i t, y]) ∧ h.IsTuple T vals)
   (fun i v h => ∃ T vals, v = .ref T ∧ (∃ t y, its[i]? = some y ∧ vals = #[.int i t, y]) ∧ h.IsTuple T vals ∧ ((∃ y, IsEnumOut h e it ((i : Int) + 1) y T) ∧ h.IsListIter it l (i + 1) ∧ h.IsList l its ∧ T ≠ e ∧ T ≠ it))
   (fun i h => (∃ old, IsEnum h e it i old) ∧ h.IsListIter it l i ∧ h.IsList l its) (SrcAt h₀ l its) where
 W := KTurns.ofWalksU (WalksT.enumerate hh e it l hei hle hli its).toU
 self := (WalksT.enumerate hh e it l hei hle hli its).self
 ex := fun i h st a ha => by
  refine e0_3 st ?_
  (try clear st); intro hz2 hz3 _
  refine e1_1 hz2 ?_
  (try clear hz2); intro old he
  refine e1_2 hz3 ?_
  (try clear hz3); intro o hi _
  rcases List.mem_cons.mp ha with rfl | ha
  ·exact ⟨_, he⟩
  ·rw [List.mem_singleton.mp ha]; exact ⟨o, hi⟩
 st := fun i h h' nw st k1 k2 N hS => by
  refine e0_3 st ?_
  (try clear st); intro hz4 hz5 _
  refine e1_1 hz4 ?_
  (try clear hz4); intro old he
  refine e1_2 hz5 ?_
  (try clear hz5); intro o hi r
  exact i0_3 ⟨old, k1 _ (by simp) _ he⟩ ⟨o, k1 _ (by simp) _ hi, r⟩ (hS.list k2 N)
 mono := fun nw nw' hS k => by
  rcases hS with hS | ⟨o, hm, r⟩
  ·exact .inl hS
  ·exact .inr ⟨o, k _ hm, r⟩
 nodup := by
  refine List.nodup_cons.mpr ⟨fun h => hei (List.mem_singleton.mp h), by simp⟩
theorem k_enum {x₂ : Str} {p1 p2 tp : Pos} {kk : Nat} {l : Addr} {o : Obj} {its : Array Value} (J : Nat → List Value → List (Addr × Obj) → Prop) (hh : A.handled = none) (hkind : scope.kind = .function) (hx : scope.names.lookup x = some .local) (hx₂ : scope.names.lookup x₂ = some .local) (hxx : x ≠ x₂)
  (F : Fr h₀ L s.heap m) (N : News h₀ L s.heap news) (hnd : ND news) (hm : (l, o) ∈ news) (hc : o.cls = .type "list") (hd : ∃ k, o.data = .seq its k)
  (h0 : J 0 [] []) (hz : ∀ i ys nw, i ≤ its.size → J i ys nw → ys.length ≤ sizeLine)
  (turn : ∀ g C, Turn { s with heap := g } C its.size (fun i m => ∃ a b, (∃ t, a = .int i t ∧ its[i]? = some b) ∧ m x = some a ∧ m x₂ = some b) news J) (fin : ∀ g, Fin { s with heap := g } news (J its.size)) :
  wpAny (model prog w) A (call (.type "enumerate") [.ref l]) (fun xv s₁ => wpAny (model prog w) A (pyIter xv) (CompK prog w A h₀ L m env (.Tuple [.Name x p1, .Name x₂ p2] kk tp) scope cl Turn Fin) E s₁) E s := by
 refine e1_1 hd ?_
 (try clear hd); intro k hd
 have hg := (N _ hm).1
 have hlt : l < s.heap.objs.size := Heap.lt_size hg
 have hl : s.heap.IsList l its := ⟨o, hg, hc, k, hd⟩
 have hLs : L < s.heap.objs.size := F.ns.lt
 refine call_enumerate_list hl fun h' hE hI hsz hk => ?_
 refine wpAny_pyIter_enum hE ?_
 refine compk (s.heap.objs.size + 1) _ _ _ _ _ _ _ _ J news rfl (csrc_enum hh (Nat.succ_ne_self _) (ktu_ne 1 hlt) (Nat.ne_of_lt hlt)) ⟨⟨_, hE⟩, hI, hl.at fun o e => hk l o e⟩ ?_ (F.keeps hk) (N.grown hk) ?_ ?_ ?_ (.inr ⟨o, hm, hc, k, hd⟩) hnd (fun C => asg_pair (P2 := fun i a b => ∃ t, a = .int i t ∧ its[i]? = some b) hh (fun i vals ⟨t, y, hy, e⟩ => ⟨_, _, e, t, rfl, hy⟩) hkind hx hx₂ hxx) h0 hz (turn _) (fin _)
 ·intro b hb
  show b < h'.objs.size
  rw [hsz]
  have hb' : b = s.heap.objs.size + 1 ∨ b = s.heap.objs.size ∨ b = l := by simpa using hb
  rcases hb' with rfl | rfl | rfl
  ·exact Nat.lt_succ_self _
  ·exact Nat.lt_add_of_pos_right (by decide)
  ·exact Nat.lt_of_lt_of_le hlt (Nat.le_add_right _ _)
 ·intro p hp hI'
  have hb' : p.1 = s.heap.objs.size + 1 ∨ p.1 = s.heap.objs.size := by simpa using hI'
  have hlp := Heap.lt_size (N p hp).1
  rcases hb' with e | e
  ·exact ktu_ne 1 hlp e
  ·exact Nat.ne_of_lt hlp e
 ·intro hI'
  have hb' : L = s.heap.objs.size + 1 ∨ L = s.heap.objs.size := by simpa using hI'
  rcases hb' with e | e
  ·exact ktu_ne 1 hLs e
  ·exact Nat.ne_of_lt hLs e
 ·intro a ha
  have hb' : a = s.heap.objs.size + 1 ∨ a = s.heap.objs.size := by simpa using ha
  rcases hb' with rfl | rfl
  ·exact ktu_new F (Nat.le_add_right _ _)
  ·exact ktu_new F (Nat.le_refl _)
theorem csrc_zip {x₂ : Str} {p1 p2 tp : Pos} {kk : Nat} {z TI TO i1 i2 l1 l2 : Addr} {xs ys : Array Value} (hh : A.handled = none) (D : ZipApart z TI TO i1 i2 l1 l2) :
  CSrc prog w A h₀ L (.Tuple [.Name x p1, .Name x₂ p2] kk tp) z [z, TI, TO, i1, i2, l1, l2] [z, TO, i1, i2] (min xs.size ys.size) (fun i v h => ∃ T vals, v = .ref T ∧ (∃ a b, xs[i]? = some a ∧ ys[i]? = some b ∧ vals = #[a, b]) ∧ h.IsTuple T vals)
   (fun i v h => ∃ T vals, v = .ref T ∧ (∃ a b, xs[i]? = some a ∧ ys[i]? = some b ∧ vals = #[a, b]) ∧ h.IsTuple T vals ∧ (IsZip h z TI TO (rawInt T) ∧ IsPair h TI (.ref i1) (.ref i2) ∧ (∃ a b, IsPair h TO a b) ∧ h.IsListIter i1 l1 (i + 1) ∧ h.IsListIter i2 l2 (i + 1) ∧ h.IsList l1 xs ∧ h.IsList l2 ys ∧
    T ≠ z ∧ T ≠ TO ∧ T ≠ i1 ∧ T ≠ i2))
   (fun i h => IsZip h z TI TO .none ∧ IsPair h TI (.ref i1) (.ref i2) ∧ (∃ a b, IsPair h TO a b) ∧ h.IsListIter i1 l1 i ∧ h.IsListIter i2 l2 i ∧ h.IsList l1 xs ∧ h.IsList l2 ys)
   (fun nw => SrcAt h₀ l1 xs nw ∧ SrcAt h₀ l2 ys nw ∧ (TI, ({ cls := .type "tuple", data := .seq #[.ref i1, .ref i2] } : Obj)) ∈ nw) where
 W := KTurns.ofWalksU (WalksT.zip2 hh z TI TO i1 i2 l1 l2 D xs ys).toU
 self := (WalksT.zip2 hh z TI TO i1 i2 l1 l2 D xs ys).self
 ex := fun i h st a ha => by
  refine e0_6 st ?_
  (try clear st); intro hz hTI hz6 hz7 hz8 _
  refine e2_1 hz6 ?_
  (try clear hz6); intro a' b' hTO
  refine e1_2 hz7 ?_
  (try clear hz7); intro o1 h1 _
  refine e1_2 hz8 ?_
  (try clear hz8); intro o2 h2 _
  have hb' : a = z ∨ a = TO ∨ a = i1 ∨ a = i2 := by simpa using ha
  rcases hb' with rfl | rfl | rfl | rfl
  ·exact ⟨_, hz⟩
  ·exact ⟨_, hTO⟩
  ·exact ⟨_, h1⟩
  ·exact ⟨_, h2⟩
 st := fun i h h' nw st k1 k2 N hS => by
  refine e0_6 st ?_
  (try clear st); intro hz hTI hz9 hz10 hz11 _
  refine e2_1 hz9 ?_
  (try clear hz9); intro a' b' hTO
  refine e1_2 hz10 ?_
  (try clear hz10); intro o1 h1 r1
  refine e1_2 hz11 ?_
  (try clear hz11); intro o2 h2 r2
  exact i0_7 (k1 _ (by simp) _ hz) ((N _ hS.2.2).1) ⟨a', b', k1 _ (by simp) _ hTO⟩ ⟨o1, k1 _ (by simp) _ h1, r1⟩ ⟨o2, k1 _ (by simp) _ h2, r2⟩ (hS.1.list k2 N) (hS.2.1.list k2 N)
 mono := fun nw nw' hS k => by
  have up : ∀ {ax its}, SrcAt h₀ ax its nw → SrcAt h₀ ax its nw' := by
   rintro ax its (hS | ⟨o, hm, r⟩)
   ·exact .inl hS
   ·exact .inr ⟨o, k _ hm, r⟩
  exact i0_3 (up hS.1) (up hS.2.1) (k _ hS.2.2)
 nodup := by
  have a1 := D.TOz
  have a2 := D.i1z
  have a3 := D.i2z
  have a4 := D.TOi1
  have a5 := D.TOi2
  have a6 := D.i12
  simp [a1.symm, a2.symm, a3.symm, a4, a5, a6]
theorem k_zip {x₂ : Str} {p1 p2 tp : Pos} {kk : Nat} {l1 l2 : Addr} {o1 o2 : Obj} {xs ys : Array Value} (J : Nat → List Value → List (Addr × Obj) → Prop) (hh : A.handled = none) (hkind : scope.kind = .function) (hx : scope.names.lookup x = some .local) (hx₂ : scope.names.lookup x₂ = some .local) (hxx : x ≠ x₂)
  (F : Fr h₀ L s.heap m) (N : News h₀ L s.heap news) (hnd : ND news) (hm1 : (l1, o1) ∈ news) (hc1 : o1.cls = .type "list") (hd1 : ∃ k, o1.data = .seq xs k) (hm2 : (l2, o2) ∈ news) (hc2 : o2.cls = .type "list") (hd2 : ∃ k, o2.data = .seq ys k)
  (h0 : J 0 [] []) (hz : ∀ i vs nw, i ≤ min xs.size ys.size → J i vs nw → vs.length ≤ sizeLine)
  (turn : ∀ g C nw, (∀ p ∈ news, p ∈ nw) → Turn { s with heap := g } C (min xs.size ys.size) (fun i m => ∃ a b, (xs[i]? = some a ∧ ys[i]? = some b) ∧ m x = some a ∧ m x₂ = some b) nw J) (fin : ∀ g nw, (∀ p ∈ news, p ∈ nw) → Fin { s with heap := g } nw (J (min xs.size ys.size))) :
  wpAny (model prog w) A (call (.type "zip") [.ref l1, .ref l2]) (fun xv s₁ => wpAny (model prog w) A (pyIter xv) (CompK prog w A h₀ L m env (.Tuple [.Name x p1, .Name x₂ p2] kk tp) scope cl Turn Fin) E s₁) E s := by
 refine e1_1 hd1 ?_
 (try clear hd1); intro n1 hd1
 refine e1_1 hd2 ?_
 (try clear hd2); intro n2 hd2
 have hax1 := N _ hm1
 have hax2 := N _ hm2
 have hl1 : s.heap.IsList l1 xs := ⟨o1, hax1.1, hc1, n1, hd1⟩
 have hl2 : s.heap.IsList l2 ys := ⟨o2, hax2.1, hc2, n2, hd2⟩
 have hlt1 : l1 < s.heap.objs.size := Heap.lt_size hax1.1
 have hlt2 : l2 < s.heap.objs.size := Heap.lt_size hax2.1
 have hLs : L < s.heap.objs.size := F.ns.lt
 have D : ZipApart (s.heap.objs.size + 4) (s.heap.objs.size + 2) (s.heap.objs.size + 3) s.heap.objs.size (s.heap.objs.size + 1) l1 l2 := ktu_apart _ _ _ hlt1 hlt2
 refine call_zip_2 hl1 hl2 fun h' hz' hTI hTO hi1 hi2 hsz hk => ?_
 refine wpAny_pyIter_zip hz' ?_
 have ltn : ∀ p ∈ news, p.1 < s.heap.objs.size := fun p hp => Heap.lt_size (N p hp).1
 refine compk (s.heap.objs.size + 4) _ _ _ _ _ _ _ _ J ((s.heap.objs.size + 2, { cls := .type "tuple", data := .seq #[.ref s.heap.objs.size, .ref (s.heap.objs.size + 1)] }) :: news) rfl (csrc_zip hh D) ⟨hz', hTI, ⟨_, _, hTO⟩, hi1, hi2, hl1.at fun o e => hk l1 o e, hl2.at fun o e => hk l2 o e⟩ ?_ (F.keeps hk) ?_ ?_ ?_ ?_ ⟨.inr ⟨o1, .tail _ hm1, hc1, n1, hd1⟩, .inr ⟨o2, .tail _ hm2, hc2, n2, hd2⟩, .head _⟩ (hnd.cons fun p hp => Nat.lt_of_lt_of_le (ltn p hp) (Nat.le_add_right _ _)) (fun C => asg_pair (P2 := fun i a b => xs[i]? = some a ∧ ys[i]? = some b) hh (fun i vals ⟨a, b, ha, hb, e⟩ => ⟨a, b, e, ha, hb⟩) hkind hx hx₂ hxx) h0 hz (fun C => turn _ C _ fun p hp => .tail _ hp) (fin _ _ fun p hp => .tail _ hp)
 ·intro b hb
  show b < h'.objs.size
  rw [hsz]
  have hb' : b = s.heap.objs.size + 4 ∨ b = s.heap.objs.size + 2 ∨ b = s.heap.objs.size + 3 ∨ b = s.heap.objs.size ∨ b = s.heap.objs.size + 1 ∨ b = l1 ∨ b = l2 := by simpa using hb
  have : ∀ k, k < 5 → s.heap.objs.size + k < s.heap.objs.size + 5 := fun k hk => Nat.add_lt_add_left hk _
  rcases hb' with rfl | rfl | rfl | rfl | rfl | rfl | rfl
  ·exact this 4 (by decide)
  ·exact this 2 (by decide)
  ·exact this 3 (by decide)
  ·exact this 0 (by decide)
  ·exact this 1 (by decide)
  ·exact Nat.lt_of_lt_of_le hlt1 (Nat.le_add_right _ _)
  ·exact Nat.lt_of_lt_of_le hlt2 (Nat.le_add_right _ _)
 ·intro p hp
  rcases List.mem_cons.mp hp with rfl | hp
  ·exact i0_3 hTI ((Nat.ne_of_lt (Nat.lt_of_lt_of_le hLs (Nat.le_add_right _ 2))).symm) (ktu_new F (Nat.le_add_right _ _))
  ·exact ⟨hk _ _ (N p hp).1, (N p hp).2⟩
 ·intro p hp hI'
  have hb' : p.1 = s.heap.objs.size + 4 ∨ p.1 = s.heap.objs.size + 3 ∨ p.1 = s.heap.objs.size ∨ p.1 = s.heap.objs.size + 1 := by simpa using hI'
  rcases List.mem_cons.mp hp with rfl | hp
  ·rcases hb' with e | e | e | e
   ·exact D.TIz e
   ·exact D.TITO e
   ·exact D.TIi1 e
   ·exact D.TIi2 e
  ·have hlp := ltn p hp
   rcases hb' with e | e | e | e
   ·exact ktu_ne 4 hlp e
   ·exact ktu_ne 3 hlp e
   ·exact Nat.ne_of_lt hlp e
   ·exact ktu_ne 1 hlp e
 ·intro hI'
  have hb' : L = s.heap.objs.size + 4 ∨ L = s.heap.objs.size + 3 ∨ L = s.heap.objs.size ∨ L = s.heap.objs.size + 1 := by simpa using hI'
  rcases hb' with e | e | e | e
  ·exact ktu_ne 4 hLs e
  ·exact ktu_ne 3 hLs e
  ·exact Nat.ne_of_lt hLs e
  ·exact ktu_ne 1 hLs e
 ·intro a ha
  have hb' : a = s.heap.objs.size + 4 ∨ a = s.heap.objs.size + 3 ∨ a = s.heap.objs.size ∨ a = s.heap.objs.size + 1 := by simpa using ha
  rcases hb' with rfl | rfl | rfl | rfl
  ·exact ktu_new F (Nat.le_add_right _ _)
  ·exact ktu_new F (Nat.le_add_right _ _)
  ·exact ktu_new F (Nat.le_refl _)
  ·exact ktu_new F (Nat.le_add_right _ _)
end
end
section
section
variable {prog : Program} {w : World} {A₀ A : Around} {E : Value → Shared → Prop} {s s' : Shared} {base h₀ g G : Heap} {outer : List Env} {L a e t C : Addr} {m : Str → Option Value} {cn : Str} {cs : Scope} {ccd : Value} {cl : List (Str × Addr)} {news : List (Addr × Obj)} {KF : Frag} {p : Program} {loose : List Str} {mean : ExcName → Option Value} {mg mb : Str → Option Value}
 {vs : List Value} {b₀ : Stmt} {suite : List Stmt} {pos np : Pos} {rest : List ExceptHandler} {Q : Flow → Shared → Prop} {x : Str}
theorem backG {g' : Heap} (B : Below A₀ base outer h₀) (FG : Fr h₀ L g m) (XB : KF.In base) (TB : Top p loose mean mg mb base) (D : KtsDicts (outer.filterMap (·.frame)) h₀)
  (T' : KtsTurn ((envX cn cs L a ccd cl :: outer).filterMap (·.frame)) g g') :
  ∃ h₀', Gr A₀ base outer KF p loose mean mg mb h₀ h₀' ∧ Fr h₀' L g' m := by
 have nL₀ : h₀.get? L = none := kts_self FG
 refine e3_4 FG.ns ?_
 intro oL es ep hLg hLd hLk hLf
 refine e1_1 (T'.up hLg) ?_
 intro sl hs
 obtain ⟨T₁, S₁⟩ := kts_turn_at (h := g') (fs := outer.filterMap (·.frame)) (g := h₀)
  (fun b hb => by
   obtain ⟨_, o, ho', _⟩ := B.frames.mem hb
   exact ⟨o, ho'⟩)
  (fun b o e nmem => T'.other b o (FG.keep b o e) (fun q => by
   rcases memX q with z | z
   ·rw [z, nL₀] at e
    cases e
   ·exact nmem z))
  (fun b o e hm => T'.up (FG.keep b o e))
 have B₃ : Below A₀ base outer (ktsHeap g' (outer.filterMap (·.frame)) h₀) := ⟨B.stack, fun b o e => T₁.other b o (B.stays b o e) (fun hm => by
  rw [(B.frames.mem hm).1] at e
  cases e), B.frames.of_keeps fun b o e _ => by
  refine e1_1 (T₁.up e) ?_
  intro sl' hs'
  exact ⟨_, hs', rfl⟩⟩
 exact i1_2 _ ⟨T₁, B₃, XB.keeps B₃.stays, TB.keeps B₃.stays, D.turn T₁⟩ ⟨⟨_, es, ep, hs, hLd, hLk, hLf⟩, S₁, by rw [T₁.size]; exact FG.above⟩
theorem caught_X0 {g₀ : Heap} (R : RaisedS base G (envX cn cs L a ccd cl :: outer) e (.ref C) t vs news s'.heap) (F : Fr g L G m) (hsm : G.UpToSlots s'.heap) (XB : KF.In base) (TB : Top p loose mean mg mb base)
  (Gg : Gr A₀ base outer KF p loose mean mg mb g₀ g) (ex : nsIn KF mainGlobals x = some (some (.ref C))) (q : ktsIn KF C "BaseException" = true)
  (k : ∀ h' g', Gr A₀ base outer KF p loose mean mg mb g₀ g' → Fr g' L h' m → News g' L h' news →
   wpAny (model prog w) ((A₀.deeper (envX cn cs L a ccd cl)).mark (some (.ref e))) (execs (b₀ :: suite) (envX cn cs L a ccd cl)) Q E { s' with heap := h' })
  (hk : cs.kind = .function) (hx : (envX cn cs L a ccd cl).kindOf x = some .globalImplicit) (hd : (x == ("__debug__" : Str)) = false)
  (hE : PassesOwnAt (model prog w) ((A₀.deeper (envX cn cs L a ccd cl)).mark (some (.ref e))) (A₀.deeper (envX cn cs L a ccd cl)) (envX cn cs L a ccd cl) E := by passes_own) :
  wpAny (model prog w) (A₀.deeper (envX cn cs L a ccd cl)) (noteFrame (.ref e) (envX cn cs L a ccd cl))
   (fun _ s₂ => wpAny (model prog w) (A₀.deeper (envX cn cs L a ccd cl)) (setFlight (.ref e) none) (fun _ s₃ =>
    wpAny (model prog w) (A₀.deeper (envX cn cs L a ccd cl)) (handleBy (.ref e) (envX cn cs L a ccd cl) (.ExceptHandler (some (.Name x np)) none (b₀ :: suite) pos :: rest)) Q E s₃) E s₂) E s' := by
 have K := Gg.below
 refine e0_2 R ?_
 (try clear R); intro hz1 htup
 obtain ⟨B, hB, hBG, hl, hfl, hnew⟩ := hz1
 have hL : B.get? L = none := by
  refine e0_3 hfl.2.2.1 ?_
  intro _ hz2 _
  obtain ⟨L', _, hf, hn', _⟩ := hz2
  obtain rfl : L = L' := Option.some.inj hf
  exact hn'
 refine wpAny_looks_onW (Around.frames_deeper K.stack) rfl hfl fun h₄ hheld₄ hsm₄ => ?_
 refine wpAny_landsW hheld₄ fun h₅ hheld hsm₅' => ?_
 have hsm₅ := hsm₄.trans hsm₅'
 obtain ⟨g₅, T₅, F₅, K₅⟩ := kts_ground (name := cn) (scope := cs) (a := a) (cd := ccd) K F hBG hheld.1 (hsm.trans hsm₅)
 have X₅ : KF.In g₅ := XB.keeps K₅.stays
 refine e1_2 hheld.there ?_
 intro ob hob hobc
 obtain ⟨nm, q', N, bs, bm, hdct, sn, sub, ab, col, dd, k0, k1, k2, k3, k5, newId, hC, hbase, _⟩ := kts_cls X₅ q
 refine wpAny_handleBy_cons (codeAny_handlers_test (nameX_K F₅ X₅ (topRead_of (TB.keeps K₅.stays)) ex ?_ hk hx hd)) (by intro q; cases q)
 refine wpAny_excMatches_sub_self (F₅.keep _ _ hC) hob hobc hbase (codeAny_handlers_suite ?_)
 refine lands_againW hheld fun h₆ hfl₆ hsm₆ => ?_
 obtain ⟨g₆, T₆, F₆, K₆⟩ := kts_ground (name := cn) (scope := cs) (a := a) (cd := ccd) K F hBG hfl₆.1 ((hsm.trans hsm₅).trans hsm₆)
 have Nl : News g₆ L h₆ news := fun q hq => ⟨hfl₆.1 _ _ (hl q hq).1, (fun z => by have := (hl q hq).1; rw [z, hL] at this; cases this), T₆.none_ _ (kts_none F.keep (hl q hq).2.1)⟩
 exact wpAny_passesOwnAt hE (k h₆ g₆ ⟨Gg.turn.trans T₆, K₆, XB.keeps K₆.stays, TB.keeps K₆.stays, Gg.dicts.turn T₆⟩ F₆ Nl)
end
end
section
section
variable {prog : Program} {w : World} {A : Around} {s : Shared} {env : Env} {h₀ : Heap}
theorem iter_rangeG {E : Value → Shared → Prop} {Q : Flow → Shared → Prop} {x : Str} {px : Pos} {body : List Stmt} {r : Addr} {a b : Int} {t u v : Tok} {n : Nat} {m : Str → Option Value} {news : List (Addr × Obj)} (names : List Str)
  (hh : A.handled = none) (hx : env.kindOf x = some .local)
  (hp : (env.scope.kind == .class || (env.scope.kind == .module && env.locals != env.globals)) = false)
  (hr : IsRange s.heap r a b 1 t u v) (hsm : Builtin.Range.small a b 1 = true) (hsz : Builtin.Range.rangeSize a b 1 = ((n : Nat) : Int))
  (Gd : Heap → Prop) (hG0 : Gd h₀) (hGn : ∀ g, Gd g → ∀ b, h₀.get? b = none → g.get? b = none)
  (J : Nat → List (Addr × Obj) → Prop)
  (F : Fr h₀ env.locals s.heap m) (N : News h₀ env.locals s.heap news) (hnd : ND news)
  (hJ : J 0 news)
  (turn : ∀ I i t u g news₁ h tk o', (∀ p ∈ news, p.1 ≠ I) → i < n → ND ((I, o') :: news₁) → J i news₁ → Gd g →
   Fr g env.locals h (fun z => if z = x then some (.int (a + (i : Int)) t) else ovn names u m z) → News g env.locals h ((I, o') :: news₁) →
   wpAny (model prog w) A (execs body env) (TurnG Q s (fun h' g' m₂ news₂ => Gd g' ∧ Fr g' env.locals h' m₂ ∧ News g' env.locals h' news₂ ∧ ND news₂ ∧ (I, o') ∈ news₂ ∧ MapOk names m₂ m ∧ J (i + 1) (drp I news₂))) E { s with heap := h, toks := tk })
  (done : ∀ u g news₁ h tk, ND news₁ → J n news₁ → Gd g → Fr g env.locals h (ovn names u m) → News g env.locals h news₁ → Q .next { s with heap := h, toks := tk })
  (hE : PassesOwn (model prog w) A env E := by passes_own) :
  wpAny (model prog w) A (pyIter (.ref r)) (fun it s₂ =>
   codeAny (model prog w) A (.forLoop (.Name x px) it body [] env) (fun r s' => match r with | .ok f => Q f s' | .error e => cameBackBy (model prog w) A env E e s') s₂) E s := by
 refine e3_2 (id F.ns) ?_
 intro oL _ _ hoL _
 have hIL : s.heap.objs.size ≠ env.locals := (Nat.ne_of_lt (Heap.lt_size hoL)).symm
 have hI0 : h₀.get? s.heap.objs.size = none := by
  cases q : h₀.get? s.heap.objs.size with
  | none => rfl
  | some ob => exact absurd (Heap.lt_size (F.keep _ _ q)) (Nat.lt_irrefl _)
 have fresh : ∀ p ∈ news, p.1 ≠ s.heap.objs.size := fun p hp => Nat.ne_of_lt (Heap.lt_size (N p hp).1)
 refine wpAny_pyIter_range hr hsm ?_
 refine codeAny_forG (R := fun r s' => match r with | .ok f => Q f s' | .error e => cameBackBy (model prog w) A env E e s') (s := { s with heap := s.heap.push _ }) (news := (s.heap.objs.size, _) :: news)
  (LCg.range_walks (I := s.heap.objs.size) hh a n) hx hp hIL Gd hG0 (fun g hg => hGn g hg _ hI0) (fun hm => hIL (List.mem_singleton.mp hm).symm)
  (fun i m₁ news₁ => ND news₁ ∧ (∃ o₁, (s.heap.objs.size, o₁) ∈ news₁ ∧ o₁ = ({ cls := .type "range_iterator", dict := none, data := .fields #[rawInt (a + (i : Nat) * 1), rawInt ((n : Int) - (i : Nat)), rawInt 1], slots := #[] } : Obj)) ∧ (∃ u, m₁ = ovn names u m) ∧ J i (drp s.heap.objs.size news₁)) ?_ ?_ (F.push _) (N.push F _ rfl) ?_ ?_ ?_
 ·intro i m₁ news₁ h g _ _ hR0 N₁
  refine e0_4 hR0 ?_
  (try clear hR0); intro _ hz1 _ hj
  obtain ⟨o₁, ho₁, hi₁⟩ := hz1
  have := (N₁ _ ho₁).1
  rw [hi₁] at this
  exact this
 ·intro i h st
  exact ⟨_, st⟩
 ·refine i0_4 (hnd.cons fun p hp => Heap.lt_size (N p hp).1) ⟨_, .head _, ?_⟩ (MapOk.is fun _ _ => rfl) ?_
  ·rw [hsz]; simp
  ·have e : ∀ ob, drp s.heap.objs.size ((s.heap.objs.size, ob) :: news) = news := by
    intro ob
    unfold drp
    rw [List.filter_cons_of_neg (by simp)]
    exact List.filter_eq_self.mpr fun p hp => by simpa using fresh p hp
   rw [e]; exact hJ
 ·intro i v g m₁ news₁ h tk o' hi hR0 hR1 hst₁ hg₁ hG F₁ N₁
  refine e1_1 hR0 ?_
  (try clear hR0); intro tv hz2
  subst hz2
  refine e0_4 hR1 ?_
  (try clear hR1); intro hnd₁ hz3 hz4 hj
  obtain ⟨o₁, ho₁, hi₁⟩ := hz3
  obtain ⟨u, rfl⟩ := hz4
  have N₁' : News g env.locals h ((s.heap.objs.size, o') :: drp s.heap.objs.size news₁) := by
   intro p hp
   rcases List.mem_cons.mp hp with rfl | hp
   ·exact N₁ _ (mem_rep_self ho₁)
   ·exact N₁ _ (mem_rep_ne' (mem_drp.mp hp).1 (mem_drp.mp hp).2)
  have hnd₁' : ND ((s.heap.objs.size, o') :: drp s.heap.objs.size news₁) := by
   show (_ :: (drp s.heap.objs.size news₁).map (·.1)).Nodup
   refine List.nodup_cons.mpr ⟨fun q => ?_, hnd₁.drp⟩
   refine e1_2 (List.mem_map.mp q) ?_
   intro p hp e
   exact (mem_drp.mp hp).2 e
  have it' : o' = ({ cls := .type "range_iterator", dict := none, data := .fields #[rawInt (a + ((i + 1 : Nat) : Int) * 1), rawInt ((n : Int) - ((i + 1 : Nat) : Int)), rawInt 1], slots := #[] } : Obj) := by
   have z : h.get? s.heap.objs.size = some _ := hst₁
   rw [hg₁] at z
   exact Option.some.inj z
  refine wpAny_passesOwn hE (wpAny_mono (turn s.heap.objs.size i tv u g _ h tk o' fresh hi hnd₁' hj hG F₁ N₁') (fun f s₂ h₂ => ?_) fun _ _ e => e)
  cases f with
  | ret v => exact h₂
  | brk => exact h₂
  | next =>
   refine e5_8 h₂ ?_
   (try clear h₂); intro h' tk' g' m₂ news₂ e hG₂ F₂ N₂ hnd₂ hm₂ hok hj₂
   exact i5_8 h' tk' g' m₂ news₂ e hG₂ F₂ N₂ hnd₂ ⟨o', hm₂, it'⟩ hok.is hj₂
  | cont =>
   refine e5_8 h₂ ?_
   (try clear h₂); intro h' tk' g' m₂ news₂ e hG₂ F₂ N₂ hnd₂ hm₂ hok hj₂
   exact i5_8 h' tk' g' m₂ news₂ e hG₂ F₂ N₂ hnd₂ ⟨o', hm₂, it'⟩ hok.is hj₂
 ·intro g h' tk m' news' hG F' N' hR0
  refine e0_4 hR0 ?_
  (try clear hR0); intro hnd' _ hz5 hj
  obtain ⟨u, rfl⟩ := hz5
  exact done u g _ h' tk hnd'.drp hj hG F' N'
end
end
section
theorem isc_kind : builtinKind "issubclass.nested" = none := by decide +kernel
theorem isc_plain : plainId "issubclass.nested" = true := by decide +kernel
theorem isc_args (a b c : Value) : argsOk "issubclass.nested" ⟨[a, b, c], []⟩ := by unfold argsOk; kernel_rfl
theorem isc_meta : (Value.type ((Manifest.find? "str").elim "type" (·.metatype)) == Value.type "type") = true := by decide +kernel
theorem isc_self : isSubtype (.type "str") (.type "str") = pure true := by rw [isSubtype_type]; kernel_rfl
theorem isc_tup : isSubtype (.type "tuple") (.type "tuple") = pure true := by rw [isSubtype_type]; kernel_rfl
section
variable {prog : Program} {w : World} {A : Around} {E : Value → Shared → Prop} {s : Shared}
theorem isc_one {k : Value} {dep : Int} {tk : Tok} {Q : Fin → Shared → Prop} (hk : k = .int dep tk) (hq : Q (.done (.ret (.bool true))) s) :
  wpAny (model prog w) A (Builtin.«issubclass.nested» ⟨[.type "str", .type "str", k], []⟩) Q E s := by
 subst hk
 have hm := isc_meta
 have hself := isc_self
 repeat (any_goals (first | assumption | (rw [if_pos hm]) | (rw [hself]) | wp_step))
theorem isc_one_meets (dep : Int) (tk : Tok) : Meets (Builtin.«issubclass.nested» ⟨[.type "str", .type "str", .int dep tk], []⟩) (fun _ R s => R (.ok (.ret (.bool true))) s) :=
 Meets.of_wp fun prog w A R s hs => isc_one rfl ⟨_, rfl, hs⟩
theorem isc_all {tp : Addr} {k : Value} {tk : Tok} {Q : Fin → Shared → Prop} (hk : k = .int 0 tk) (ho : s.heap.get? tp = some { cls := .type "tuple", data := .seq #[.type "str", .type "bytes"] })
  (hq : ∀ tk', Q (.done (.ret (.bool true))) { s with toks := tk' }) : wpAny (model prog w) A (Builtin.«issubclass.nested» ⟨[.type "str", .ref tp, k], []⟩) Q E s := by
 subst hk
 obtain ⟨h, g, d, t, os⟩ := s
 have hT2 : (⟨h, g, d, t, os⟩ : Shared).TypeIs (.ref tp) "tuple" := ⟨_, ho, rfl⟩
 have f1 := isc_tup
 show wpAny _ _ (typeOf (.ref tp) >>= _) _ _ _
 refine wpAny_bind (wpAny_typeOf hT2 ?_)
 rw [if_neg (by decide)]
 show wpAny _ _ (Builtin.Builtins.unionMembers (.ref tp) >>= _) _ _ _
 unfold Builtin.Builtins.unionMembers
 refine wpAny_bind (wpAny_bind (wpAny_typeOf hT2 ?_))
 rw [if_neg (by decide)]
 refine wpAny_pure ?_
 refine wpAny_bind (wpAny_isInstance hT2 f1 ?_)
 rw [if_pos rfl, if_neg (by decide)]
 refine wpAny_bind (wpAny_seqItems (a := tp) ho rfl ?_)
 refine wpAny_bind (wpAny_arrayLoop ?_)
 show wpAny _ _ (forIn [Value.type "str", Value.type "bytes"] _ _) _ _ _
 rw [List.forIn_cons]
 refine wpAny_bind (wpAny_bind (call_function_meets isc_kind isc_plain F.entry_issubclass_nested (isc_args _ _ _) (isc_one_meets _ _) ?_))
 show wpAny _ _ (truthy (.bool true) >>= _) _ _ _
 refine wpAny_bind (m := truthy (.bool true)) (wpAny_pure ?_)
 refine wpAny_bind (wpAny_pure (wpAny_pure (wpAny_pure ?_)))
 exact wpAny_pure (hq t)
theorem isc_tuple {tp : Addr} : Meets (Builtin.«issubclass» ⟨[.type "str", .ref tp], []⟩) (fun _ R s => s.heap.get? tp = some { cls := .type "tuple", data := .seq #[.type "str", .type "bytes"] } ∧ ∀ tk, R (.ok (.ret (.bool true))) { s with toks := tk }) :=
 fun _ _ _ _ _ hs => issubclass_outer (isc_all rfl hs.1 hs.2)
theorem call_isc {tp : Addr} {Q : Value → Shared → Prop} (ho : s.heap.get? tp = some { cls := .type "tuple", data := .seq #[.type "str", .type "bytes"] }) (h : ∀ tk, Q (.bool true) { s with toks := tk }) :
  wpAny (model prog w) A (call (.builtin "issubclass") [.type "str", .ref tp]) Q E s := call_issubclass isc_tuple ⟨ho, fun tk => h tk⟩
end
end
section
section
variable {prog : Program} {w : World} {A : Around} {s : Shared} {env : Env} {h₀ : Heap}
theorem iter_seqT {E : Value → Shared → Prop} {Q : Flow → Shared → Prop} {x : Str} {px : Pos} {body : List Stmt} {tup : Bool} {l : Addr} {its : Array Value} {o : Obj} {m : Str → Option Value} {news : List (Addr × Obj)}
  (hh : A.handled = none) (hx : env.kindOf x = some .local)
  (hp : (env.scope.kind == .class || (env.scope.kind == .module && env.locals != env.globals)) = false)
  (J : Nat → (Str → Option Value) → List (Addr × Obj) → Prop)
  (hc : o.cls = .type (if tup then "tuple" else "list")) (hdat : ∃ n, o.data = .seq its n)
  (F : Fr h₀ env.locals s.heap m) (N : News h₀ env.locals s.heap news) (hnd : ND news) (hl : (l, o) ∈ news)
  (hJl : ∀ i m₁ news₁, J i m₁ news₁ → (l, o) ∈ news₁)
  (hJ : J 0 m news)
  (turn : ∀ I i v m₁ news₁ h tk o', (∀ p ∈ news, p.1 ≠ I) → its[i]? = some v → ND ((I, o') :: news₁) → J i m₁ news₁ →
   Fr h₀ env.locals h (fun y => if y = x then some v else m₁ y) → News h₀ env.locals h ((I, o') :: news₁) →
   wpAny (model prog w) A (execs body env) (TurnP Q s fun h' m₂ news₂ => Fr h₀ env.locals h' m₂ ∧ News h₀ env.locals h' news₂ ∧ ND news₂ ∧ (I, o') ∈ news₂ ∧ J (i + 1) m₂ (drp I news₂)) E { s with heap := h, toks := tk })
  (done : ∀ m₁ news₁ h tk, ND news₁ → J its.size m₁ news₁ → Fr h₀ env.locals h m₁ → News h₀ env.locals h news₁ → Q .next { s with heap := h, toks := tk })
  (hE : PassesOwn (model prog w) A env E := by passes_own) :
  wpAny (model prog w) A (pyIter (.ref l)) (fun it s₂ =>
   codeAny (model prog w) A (.forLoop (.Name x px) it body [] env) (fun r s' => match r with | .ok f => Q f s' | .error e => cameBackBy (model prog w) A env E e s') s₂) E s := by
 refine iter_seqLed hh hx hp J hc hdat F N hnd hl hJl hJ (fun I i v m₁ news₁ h tk o' a b c d e f => wpAny_mono (turn I i v m₁ news₁ h tk o' a b c d e f) (fun fl s₂ h₂ => ?_) fun _ _ e => e) done hE
 cases fl <;> exact h₂
end
end
section
open PySem PySem.W PyProof.Rows PySem.Spec PySem.Calls PySem.SeqAt
set_option Elab.async false
open MeetsSeq MeetsSeq2 MeetsSeq3
noncomputable def ltL : List Str → List Str → Bool
 | [], [] => false
 | [], _ :: _ => true
 | _ :: _, [] => false
 | x :: xs, y :: ys => if x == y then ltL xs ys else decide (x.cps.toList < y.cps.toList)
theorem strsAre_at {vs : Array Value} {xs : List Str} (h : StrsAre vs.toList xs) {i : Nat} {x : Str} (e : xs[i]? = some x) : ∃ t, vs[i]? = some (.str x t) := by
 refine e1_1 (h.at e) ?_
 intro t ht
 exact ⟨t, by rw [← Array.getElem?_toList]; exact ht⟩
theorem strsAre_none {vs : Array Value} {xs : List Str} (h : StrsAre vs.toList xs) {i : Nat} (e : xs[i]? = none) : vs[i]? = none := by
 have := h.length
 rw [Array.length_toList] at this
 rw [List.getElem?_eq_none_iff] at e
 rw [Array.getElem?_eq_none_iff]
 omega
theorem drop_head {α : Type} {l : List α} {i : Nat} {x : α} {r : List α} (e : l.drop i = x :: r) : l[i]? = some x ∧ l.drop (i + 1) = r ∧ i < l.length := by
 have hi : i < l.length := by
  rcases Nat.lt_or_ge i l.length with h | h
  ·exact h
  ·rw [List.drop_of_length_le h] at e; cases e
 rw [List.drop_eq_getElem_cons hi] at e
 injection e with e1 e2
 exact i0_3 (by rw [List.getElem?_eq_getElem hi, e1]) e2 hi
theorem drop_nil {α : Type} {l : List α} {i : Nat} (e : l.drop i = []) : l[i]? = none ∧ l.length ≤ i := by
 rw [List.drop_eq_nil_iff] at e
 exact ⟨List.getElem?_eq_none e, e⟩
theorem lt_loopAt (l b : Addr) (items items2 : Array Value) (n n2 : Nat) (dd dd2 : Option Addr) (sl sl2 : Array (Option Value)) (xs ys : List Str) (hx : StrsAre items.toList xs) (hy : StrsAre items2.toList ys) :
  ∀ (xr yr : List Str) (i : Nat), i ≤ xs.length → i ≤ ys.length → xs.drop i = xr → ys.drop i = yr → Meets (Builtin.«list.__eq__.loop» ⟨[.ref l, .ref b, rawInt i, rawInt 0], []⟩)
   (fun A R s => s.heap.get? l = some { cls := .type "list", dict := dd, data := .seq items n, slots := sl } ∧ s.heap.get? b = some { cls := .type "list", dict := dd2, data := .seq items2 n2, slots := sl2 } ∧
    R (.ok (.ret (.bool (ltL xr yr)))) s) := by
 intro xr
 have zx := hx.length
 have zy := hy.length
 rw [Array.length_toList] at zx zy
 induction xr with
 | nil =>
  intro yr i hi1' hi2' hdx hdy prog w A R s h
  obtain ⟨hp, g, d, tk, os⟩ := s; obtain ⟨hl, hb, h⟩ := h
  wp_walk using AutoSeq1.wpAny_loadPart' hl, AutoSeq1.wpAny_loadPart' hb
  have q1 := (drop_nil hdx).2
  have hi1 : items[((i : Nat) : Int).toNat]? = none := strsAre_none hx (drop_nil hdx).1
  rw [hi1]
  wp_walk using AutoSeq1.wpAny_loadPart' hl, AutoSeq1.wpAny_loadPart' hb
  show R (.ok (.ret (.bool (decide (items.size < items2.size))))) _
  cases yr with
  | nil =>
   have q2 := (drop_nil hdy).2
   rw [show decide (items.size < items2.size) = ltL [] [] from decide_eq_false (by omega)]
   exact h
  | cons y yr =>
   have q2 := (drop_head hdy).2.2
   rw [show decide (items.size < items2.size) = ltL [] (y :: yr) from decide_eq_true (by omega)]
   exact h
 | cons x xr ih =>
  intro yr i hi1' hi2' hdx hdy prog w A R s h
  obtain ⟨hp, g, d, tk, os⟩ := s; obtain ⟨hl, hb, h⟩ := h
  wp_walk using AutoSeq1.wpAny_loadPart' hl, AutoSeq1.wpAny_loadPart' hb
  refine e0_3 (drop_head hdx) ?_
  intro p1 p2 p3
  refine e1_1 (strsAre_at hx p1) ?_
  intro t hi1
  have hi1 : items[((i : Nat) : Int).toNat]? = some (.str x t) := hi1
  cases yr with
  | nil =>
   have q2 := (drop_nil hdy).2
   have hi2 : items2[((i : Nat) : Int).toNat]? = none := strsAre_none hy (drop_nil hdy).1
   rw [hi1, hi2]
   wp_walk using AutoSeq1.wpAny_loadPart' hl, AutoSeq1.wpAny_loadPart' hb
   show R (.ok (.ret (.bool (decide (items.size < items2.size))))) _
   rw [show decide (items.size < items2.size) = ltL (x :: xr) [] from decide_eq_false (by omega)]
   exact h
  | cons y yr =>
   refine e0_3 (drop_head hdy) ?_
   intro r1 r2 r3
   refine e1_1 (strsAre_at hy r1) ?_
   intro u hi2
   have hi2 : items2[((i : Nat) : Int).toNat]? = some (.str y u) := hi2
   have hc : ((i : Int) + 1) = ((i + 1 : Nat) : Int) := by push_cast; rfl
   rw [hi1, hi2]
   refine wpAny_bind (EqAt.str_str x t y u prog w _ _ ?_)
   rw [ltL] at h
   cases hb' : (x == y) with
   | true =>
    rw [hb'] at h
    wp_walk
    rw [hc]
    exact ⟨plainId_quiet plain_eq_loop _, codeAny_builtin entry_eq_loop (by
     rw [Around.under_plainId plain_eq_loop _]
     exact ih yr (i + 1) p3 r3 p2 r2 prog w A R _ ⟨hl, hb, by simpa using h⟩)⟩
   | false =>
    rw [hb'] at h
    wp_walk using AutoSeq1.wpAny_loadPart' hl, AutoSeq1.wpAny_loadPart' hb
    rw [hi1, hi2]
    refine wpAny_bind ?_
    show wpAny _ _ (compareOp .Lt (.str x t) (.str y u)) _ _ _
    refine P.lt_str (wpAny_pure ?_)
    simpa using h
theorem meets_lt (l b : Addr) (items items2 : Array Value) (n n2 : Nat) (dd dd2 : Option Addr) (sl sl2 : Array (Option Value)) (xs ys : List Str) (hx : StrsAre items.toList xs) (hy : StrsAre items2.toList ys) :
  Meets (Builtin.«list.__lt__» ⟨[.ref l, .ref b], []⟩)
   (fun _ R s => s.heap.get? l = some { cls := .type "list", dict := dd, data := .seq items n, slots := sl } ∧ s.heap.get? b = some { cls := .type "list", dict := dd2, data := .seq items2 n2, slots := sl2 } ∧
    R (.ok (.ret (.bool (ltL xs ys)))) s) := by
 intro prog w A R s h
 obtain ⟨hp, g, d, tk, os⟩ := s; obtain ⟨hl, hb, h⟩ := h
 have f3 := AutoSeq1.sub_list_list
 wp_walk using AutoSeq1.wpAny_loadPart' hl, AutoSeq1.wpAny_loadPart' hb
 exact ⟨plainId_quiet plain_eq_loop _, codeAny_builtin entry_eq_loop (by
  rw [Around.under_plainId plain_eq_loop _]
  exact lt_loopAt l b items items2 n n2 dd dd2 sl sl2 xs ys hx hy xs ys 0 (Nat.zero_le _) (Nat.zero_le _) rfl rfl prog w A R _ ⟨hl, hb, h⟩)⟩
theorem rc_lt {prog : Program} {w : World} {A : Around} {E : Value → Shared → Prop} {s : Shared} {Q : Value → Shared → Prop} {l b : Addr} {vs us : List Value} {xs ys : List Str} (hl : s.heap.IsList l vs.toArray) (hb : s.heap.IsList b us.toArray) (hu : A.units < cLine)
  (hx : StrsAre vs xs) (hy : StrsAre us ys) (h : Q (.bool (ltL xs ys)) s) : wpAny (model prog w) A (richCompare .Lt (.ref l) (.ref b)) Q E s := by
 obtain ⟨⟨cls, dd, data, sl⟩, ho, hc, n, hd⟩ := id hl
 obtain ⟨⟨cls2, dd2, data2, sl2⟩, ho2, hc2, n2, hd2⟩ := id hb
 simp only at hc hd hc2 hd2
 subst hc hd hc2 hd2
 exact richCompare_meets_room (op := .Lt) ⟨_, ho, rfl⟩ ⟨_, ho2, rfl⟩ F.slot_list_lt F.entry_list_lt (F.args_list_lt_2 _ _) (meets_lt l b vs.toArray us.toArray n n2 dd dd2 sl sl2 xs ys hx hy)
  ⟨ho, ho2, show Value.bool (ltL xs ys) ≠ Value.notImplemented ∧ Q (.bool (ltL xs ys)) s from ⟨(fun x => nomatch x), h⟩⟩ hu
theorem beqC (y x : Str) : (y == x) = (x == y) := by
 rw [Bool.eq_iff_iff, beq_iff_eq, beq_iff_eq]
 exact eq_comm
theorem gt_loopAt (l b : Addr) (items items2 : Array Value) (n n2 : Nat) (dd dd2 : Option Addr) (sl sl2 : Array (Option Value)) (xs ys : List Str) (hx : StrsAre items.toList xs) (hy : StrsAre items2.toList ys) :
  ∀ (xr yr : List Str) (i : Nat), i ≤ xs.length → i ≤ ys.length → xs.drop i = xr → ys.drop i = yr → Meets (Builtin.«list.__eq__.loop» ⟨[.ref l, .ref b, rawInt i, rawInt 4], []⟩)
   (fun A R s => s.heap.get? l = some { cls := .type "list", dict := dd, data := .seq items n, slots := sl } ∧ s.heap.get? b = some { cls := .type "list", dict := dd2, data := .seq items2 n2, slots := sl2 } ∧
    R (.ok (.ret (.bool (ltL yr xr)))) s) := by
 intro xr
 have zx := hx.length
 have zy := hy.length
 rw [Array.length_toList] at zx zy
 induction xr with
 | nil =>
  intro yr i hi1' hi2' hdx hdy prog w A R s h
  obtain ⟨hp, g, d, tk, os⟩ := s; obtain ⟨hl, hb, h⟩ := h
  wp_walk using AutoSeq1.wpAny_loadPart' hl, AutoSeq1.wpAny_loadPart' hb
  have q1 := (drop_nil hdx).2
  have hi1 : items[((i : Nat) : Int).toNat]? = none := strsAre_none hx (drop_nil hdx).1
  rw [hi1]
  wp_walk using AutoSeq1.wpAny_loadPart' hl, AutoSeq1.wpAny_loadPart' hb
  show R (.ok (.ret (.bool (decide (items2.size < items.size))))) _
  cases yr with
  | nil =>
   have q2 := (drop_nil hdy).2
   rw [show decide (items2.size < items.size) = ltL [] [] from decide_eq_false (by omega)]
   exact h
  | cons y yr =>
   have q2 := (drop_head hdy).2.2
   rw [show decide (items2.size < items.size) = ltL (y :: yr) [] from decide_eq_false (by omega)]
   exact h
 | cons x xr ih =>
  intro yr i hi1' hi2' hdx hdy prog w A R s h
  obtain ⟨hp, g, d, tk, os⟩ := s; obtain ⟨hl, hb, h⟩ := h
  wp_walk using AutoSeq1.wpAny_loadPart' hl, AutoSeq1.wpAny_loadPart' hb
  refine e0_3 (drop_head hdx) ?_
  intro p1 p2 p3
  refine e1_1 (strsAre_at hx p1) ?_
  intro t hi1
  have hi1 : items[((i : Nat) : Int).toNat]? = some (.str x t) := hi1
  cases yr with
  | nil =>
   have q2 := (drop_nil hdy).2
   have hi2 : items2[((i : Nat) : Int).toNat]? = none := strsAre_none hy (drop_nil hdy).1
   rw [hi1, hi2]
   wp_walk using AutoSeq1.wpAny_loadPart' hl, AutoSeq1.wpAny_loadPart' hb
   show R (.ok (.ret (.bool (decide (items2.size < items.size))))) _
   rw [show decide (items2.size < items.size) = ltL [] (x :: xr) from decide_eq_true (by omega)]
   exact h
  | cons y yr =>
   refine e0_3 (drop_head hdy) ?_
   intro r1 r2 r3
   refine e1_1 (strsAre_at hy r1) ?_
   intro u hi2
   have hi2 : items2[((i : Nat) : Int).toNat]? = some (.str y u) := hi2
   have hc : ((i : Int) + 1) = ((i + 1 : Nat) : Int) := by push_cast; rfl
   rw [hi1, hi2]
   refine wpAny_bind (EqAt.str_str x t y u prog w _ _ ?_)
   rw [ltL, show (y == x) = (x == y) from beqC y x] at h
   cases hb' : (x == y) with
   | true =>
    rw [hb'] at h
    wp_walk
    rw [hc]
    exact ⟨plainId_quiet plain_eq_loop _, codeAny_builtin entry_eq_loop (by
     rw [Around.under_plainId plain_eq_loop _]
     exact ih yr (i + 1) p3 r3 p2 r2 prog w A R _ ⟨hl, hb, by simpa using h⟩)⟩
   | false =>
    rw [hb'] at h
    wp_walk using AutoSeq1.wpAny_loadPart' hl, AutoSeq1.wpAny_loadPart' hb
    rw [hi1, hi2]
    refine wpAny_bind ?_
    show wpAny _ _ (compareOp .Gt (.str x t) (.str y u)) _ _ _
    refine P.gt_str (wpAny_pure ?_)
    simpa using h
theorem meets_gt (l b : Addr) (items items2 : Array Value) (n n2 : Nat) (dd dd2 : Option Addr) (sl sl2 : Array (Option Value)) (xs ys : List Str) (hx : StrsAre items.toList xs) (hy : StrsAre items2.toList ys) :
  Meets (Builtin.«list.__gt__» ⟨[.ref l, .ref b], []⟩)
   (fun _ R s => s.heap.get? l = some { cls := .type "list", dict := dd, data := .seq items n, slots := sl } ∧ s.heap.get? b = some { cls := .type "list", dict := dd2, data := .seq items2 n2, slots := sl2 } ∧
    R (.ok (.ret (.bool (ltL ys xs)))) s) := by
 intro prog w A R s h
 obtain ⟨hp, g, d, tk, os⟩ := s; obtain ⟨hl, hb, h⟩ := h
 have f3 := AutoSeq1.sub_list_list
 wp_walk using AutoSeq1.wpAny_loadPart' hl, AutoSeq1.wpAny_loadPart' hb
 exact ⟨plainId_quiet plain_eq_loop _, codeAny_builtin entry_eq_loop (by
  rw [Around.under_plainId plain_eq_loop _]
  exact gt_loopAt l b items items2 n n2 dd dd2 sl sl2 xs ys hx hy xs ys 0 (Nat.zero_le _) (Nat.zero_le _) rfl rfl prog w A R _ ⟨hl, hb, h⟩)⟩
theorem rc_gt {prog : Program} {w : World} {A : Around} {E : Value → Shared → Prop} {s : Shared} {Q : Value → Shared → Prop} {l b : Addr} {vs us : List Value} {xs ys : List Str} (hl : s.heap.IsList l vs.toArray) (hb : s.heap.IsList b us.toArray) (hu : A.units < cLine)
  (hx : StrsAre vs xs) (hy : StrsAre us ys) (h : Q (.bool (ltL ys xs)) s) : wpAny (model prog w) A (richCompare .Gt (.ref l) (.ref b)) Q E s := by
 obtain ⟨⟨cls, dd, data, sl⟩, ho, hc, n, hd⟩ := id hl
 obtain ⟨⟨cls2, dd2, data2, sl2⟩, ho2, hc2, n2, hd2⟩ := id hb
 simp only at hc hd hc2 hd2
 subst hc hd hc2 hd2
 exact richCompare_meets_room (op := .Gt) ⟨_, ho, rfl⟩ ⟨_, ho2, rfl⟩ F.slot_list_gt F.entry_list_gt (F.args_list_gt_2 _ _) (meets_gt l b vs.toArray us.toArray n n2 dd dd2 sl sl2 xs ys hx hy)
  ⟨ho, ho2, show Value.bool (ltL ys xs) ≠ Value.notImplemented ∧ Q (.bool (ltL ys xs)) s from ⟨(fun x => nomatch x), h⟩⟩ hu
end
section
inductive TabAre (nw : List (Addr × Obj)) : List Value → List (List Str) → Prop
 | nil : TabAre nw [] []
 | cons {a : Addr} {v : List Value} {k : Nat} {r : List Str} {vs : List Value} {rs : List (List Str)} : (a, W.listOf v.toArray k) ∈ nw → StrsAre v r → TabAre nw vs rs → TabAre nw (.ref a :: vs) (r :: rs)
theorem TabAre.mono {nw nw' : List (Addr × Obj)} {vs : List Value} {rs : List (List Str)} (h : TabAre nw vs rs) (k : ∀ p ∈ nw, p ∈ nw') : TabAre nw' vs rs := by
 induction h with
 | nil => exact .nil
 | cons a b _ ih => exact .cons (k _ a) b ih
theorem TabAre.app {nw : List (Addr × Obj)} {vs us : List Value} {rs qs : List (List Str)} (h : TabAre nw vs rs) (k : TabAre nw us qs) : TabAre nw (vs ++ us) (rs ++ qs) := by
 induction h with
 | nil => exact k
 | cons a b _ ih => exact .cons a b ih
theorem TabAre.length {nw : List (Addr × Obj)} {vs : List Value} {rs : List (List Str)} (h : TabAre nw vs rs) : vs.length = rs.length := by
 induction h with
 | nil => rfl
 | cons a b _ ih => rw [List.length_cons, List.length_cons, ih]
theorem TabAre.at {nw : List (Addr × Obj)} {vs : List Value} {rs : List (List Str)} (h : TabAre nw vs rs) : ∀ {i : Nat} {r : List Str}, rs[i]? = some r → ∃ a v k, vs[i]? = some (.ref a) ∧ (a, W.listOf v.toArray k) ∈ nw ∧ StrsAre v r := by
 induction h with
 | nil => intro i r e; cases e
 | cons a b _ ih =>
  intro i r e
  cases i with
  | zero => cases e; exact ⟨_, _, _, rfl, a, b⟩
  | succ i => exact ih e
noncomputable def rowAt (rs : List (List Str)) (i : Nat) : List Str := rs.getD i []
theorem TabAre.row {nw : List (Addr × Obj)} {vs : List Value} {rs : List (List Str)} (h : TabAre nw vs rs) {i : Nat} {v : Value} (e : vs[i]? = some v) : ∃ a u k, v = .ref a ∧ (a, W.listOf u.toArray k) ∈ nw ∧ StrsAre u (rowAt rs i) ∧ i < rs.length := by
 have hi : i < rs.length := h.length ▸ (List.getElem?_eq_some_iff.mp e).1
 refine e3_3 (h.at (List.getElem?_eq_getElem hi)) ?_
 intro a u k e' hm hs
 have q := e.symm.trans e'
 cases q
 exact i3_4 a u k rfl hm (by rw [rowAt, List.getD_eq_getElem?_getD, List.getElem?_eq_getElem hi]; exact hs) hi
section
variable {prog : Program} {w : World} {A : Around} {E : Value → Shared → Prop} {s : Shared} {h₀ : Heap} {L : Addr} {m : Str → Option Value} {news : List (Addr × Obj)}
theorem iter_vals {l : Addr} {its : Array Value} {Q : Value → Shared → Prop} (hl : s.heap.IsList l its)
  (h : (({ s with heap := s.heap.push { cls := .type "list_iterator", data := .fields #[.ref l, .int 0 0] } } : Shared).heap.IsListIter s.heap.objs.size l 0 ∧ ({ s with heap := s.heap.push { cls := .type "list_iterator", data := .fields #[.ref l, .int 0 0] } } : Shared).heap.IsList l its) →
   (∀ b ∈ [s.heap.objs.size, l], b < (s.heap.push { cls := .type "list_iterator", data := .fields #[.ref l, .int 0 0] }).objs.size) → l ≠ s.heap.objs.size → Q (.ref s.heap.objs.size) { s with heap := s.heap.push { cls := .type "list_iterator", data := .fields #[.ref l, .int 0 0] } }) :
  wpAny (model prog w) A (pyIter (.ref l)) Q E s := by
 have hlt : l < s.heap.objs.size := by obtain ⟨_, e, _⟩ := hl; exact Heap.lt_size e
 refine wpAny_pyIter_list hl (h ⟨⟨_, Heap.get?_push_size _ rfl, rfl, rfl⟩, hl.push _⟩ (fun b hb => ?_) (Nat.ne_of_lt hlt))
 rw [Heap.size_push]
 rcases List.mem_cons.mp hb with rfl | hb
 ·exact Nat.lt_succ_self _
 ·rcases List.mem_cons.mp hb with rfl | hb
  ·exact Nat.lt_succ_of_lt hlt
  ·cases hb
end
section
variable {prog : Program} {w : World} {A : Around} {R : Result → Shared → Prop} {I : Addr} {fp wr : List Addr} {n : Nat} {P : Nat → Value → Prop} {St : Nat → Heap → Prop}
theorem min_turns (W : Walks prog w A.in1 I fp wr n P St) (bt : Nat → Nat → Bool) (Kp : Heap → Prop)
  (hcmp : ∀ i j vi vj (s : Shared) (Q : Value → Shared → Prop) (E : Value → Shared → Prop), P i vi → P j vj → Kp s.heap → Q (.bool (bt i j)) s → wpAny (model prog w) A.in1 (richCompare .Lt vi vj) Q E s) (S : Addr) (hSf : S ∉ fp)
  (hKp : ∀ h h' : Heap, Kp h → (∀ b o, b ∉ wr → b ≠ S → h.get? b = some o → h'.get? b = some o) → Kp h') :
  ∀ (k j : Nat) (s : Shared) (vb : Value) (c : Nat), n = j + 1 + k → St (j + 1) s.heap → Kp s.heap → P (argBest bt j) vb →
  s.heap.get? S = some { cls := .type "list", dict := none, data := .seq #[vb, vb] c, slots := #[] } →
  (∀ v h' tk, P (argBest bt (n - 1)) v → (∀ b o, b ∉ wr → b ≠ S → s.heap.get? b = some o → h'.get? b = some o) → R (.ok (.ret v)) { s with heap := h', toks := tk }) →
  codeAny (model prog w) A (.builtin "min.loop" ⟨[.ref I, .none, .ref S], []⟩) R s := by
 have hSw : S ∉ wr := fun h => hSf (W.sub _ h)
 have hname : (toString "min" ++ toString ".loop" : String) = "min.loop" := by decide
 intro k
 induction k with
 | zero =>
  intro j s vb c hk hst hK hPb hS hR
  refine codeAny_builtin F.entry_min_loop ?_
  rw [Around.under_plainId F.plain_min_loop _]
  refine wpAny_bind (wpAny_seqItems hS rfl ?_)
  refine wpAny_bind (wpAny_tryCatch (W.done s _ _ ((show j + 1 = n by (exact Eq.symm hk)) ▸ hst) fun h' tk hk' => ?_))
  have hS' := hk' S _ hSw hS
  refine wpAny_bind ?_
  refine wpAny_updateSeq hS' rfl (wpAny_bind (wpAny_letGo (wpAny_pure ?_)))
  exact hR vb _ tk (by rw [show n - 1 = j by (exact o129 hk)]; exact hPb) fun b o hbw hbS e => (Heap.get?_update_other _ _ (Ne.symm hbS)).trans (hk' b o hbw e)
 | succ k ih =>
  intro j s vb c hk hst hK hPb hS hR
  refine codeAny_builtin F.entry_min_loop ?_
  rw [Around.under_plainId F.plain_min_loop _]
  refine wpAny_bind (wpAny_seqItems hS rfl ?_)
  refine wpAny_bind (wpAny_tryCatch (W.item (j + 1) s _ _ (by exact o98 hk) hst fun v h' tk hP hst' hk' => ?_))
  have hS' := hk' S _ hSw hS
  have hK' : Kp h' := hKp _ _ hK fun b o hb _ e => hk' b o hb e
  show wpAny _ A.in1 (tryCatch (holding [v, v] (richCompare .Lt v vb >>= _)) _ >>= _) _ _ _
  refine wpAny_bind (wpAny_tryCatch (wpAny_holding (wpAny_bind (hcmp (j + 1) (argBest bt j) v vb _ _ _ hP hPb hK' ?_))))
  refine wpAny_bind (wpAny_holding (wpAny_truthy_bool ?_))
  refine wpAny_bind (wpAny_letGo (wpAny_pure ?_))
  cases hb : bt (j + 1) (argBest bt j) with
  | true =>
   simp only [if_true]
   refine wpAny_bind ?_
   refine wpAny_updateSeq hS' rfl (wpAny_bind (wpAny_letGo ?_))
   rw [hname]
   refine wpAny_pure ⟨plainId_quiet F.plain_min_loop _, ih (j + 1) _ v _ (by exact o63 hk) (W.frame _ _ _ hst' fun b hbf o e => ?_) (hKp _ _ hK' fun b o hbw hbS e => (Heap.get?_update_other _ _ (Ne.symm hbS)).trans e) (by simp only [argBest, hb, if_true]; exact hP) (Heap.get?_update_self _ hS' rfl)
    fun v' h'' tk'' hP' hk'' => ?_⟩
   ·exact (Heap.get?_update_other _ _ (fun h : S = b => hSf (by rw [h]; exact hbf))).trans e
   ·exact hR v' h'' tk'' hP' fun b o hbw hbS e => hk'' b o hbw hbS ((Heap.get?_update_other _ _ (Ne.symm hbS)).trans (hk' b o hbw e))
  | false =>
   simp only [Bool.false_eq_true, if_false]
   refine wpAny_bind (wpAny_letGo ?_)
   rw [hname]
   refine wpAny_pure ⟨plainId_quiet F.plain_min_loop _, ih (j + 1) _ vb c (by exact o63 hk) hst' hK' (by simp only [argBest, hb, Bool.false_eq_true, if_false]; exact hPb) hS' fun v' h'' tk'' hP' hk'' => ?_⟩
   exact hR v' h'' tk'' hP' fun b o hbw hbS e => hk'' b o hbw hbS (hk' b o hbw e)
theorem min_first (W : Walks prog w A.in1 I fp wr n P St) (bt : Nat → Nat → Bool) (Kp : Heap → Prop)
  (hcmp : ∀ i j vi vj (s : Shared) (Q : Value → Shared → Prop) (E : Value → Shared → Prop), P i vi → P j vj → Kp s.heap → Q (.bool (bt i j)) s → wpAny (model prog w) A.in1 (richCompare .Lt vi vj) Q E s) (S : Addr) (hSf : S ∉ fp)
  (hKp : ∀ h h' : Heap, Kp h → (∀ b o, b ∉ wr → b ≠ S → h.get? b = some o → h'.get? b = some o) → Kp h') (hn : 0 < n) {s : Shared} {c : Nat} (hst : St 0 s.heap) (hK : Kp s.heap)
  (hS : s.heap.get? S = some { cls := .type "list", dict := none, data := .seq #[] c, slots := #[] })
  (hR : ∀ v h' tk, P (argBest bt (n - 1)) v → (∀ b o, b ∉ wr → b ≠ S → s.heap.get? b = some o → h'.get? b = some o) → R (.ok (.ret v)) { s with heap := h', toks := tk }) :
  codeAny (model prog w) A (.builtin "min.loop" ⟨[.ref I, .none, .ref S], []⟩) R s := by
 have hSw : S ∉ wr := fun h => hSf (W.sub _ h)
 have hname : (toString "min" ++ toString ".loop" : String) = "min.loop" := by decide
 refine codeAny_builtin F.entry_min_loop ?_
 rw [Around.under_plainId F.plain_min_loop _]
 refine wpAny_bind (wpAny_seqItems hS rfl ?_)
 refine wpAny_bind (wpAny_tryCatch (W.item 0 s _ _ hn hst fun v h' tk hP hst' hk' => ?_))
 have hS' := hk' S _ hSw hS
 show wpAny _ A.in1 (updateSeq S (fun _ => #[v, v]) >>= _) _ _ _
 refine wpAny_bind ?_
 refine wpAny_updateSeq hS' rfl ?_
 rw [hname]
 refine wpAny_pure ⟨plainId_quiet F.plain_min_loop _, min_turns W bt Kp hcmp S hSf hKp (n - 1) 0 _ v _ (by exact o68 hn) (W.frame _ _ _ hst' fun b hbf o e => ?_) (hKp _ _ hK fun b o hbw hbS e => (Heap.get?_update_other _ _ (Ne.symm hbS)).trans (hk' b o hbw e)) hP (Heap.get?_update_self _ hS' rfl) fun v' h'' tk'' hP' hk'' => ?_⟩
 ·exact (Heap.get?_update_other _ _ (fun h : S = b => hSf (by rw [h]; exact hbf))).trans e
 ·exact hR v' h'' tk'' hP' fun b o hbw hbS e => hk'' b o hbw hbS ((Heap.get?_update_other _ _ (Ne.symm hbS)).trans (hk' b o hbw e))
end
section
variable {prog : Program} {w : World} {A : Around} {E : Value → Shared → Prop} {s : Shared} {h₀ : Heap} {L : Addr} {m : Str → Option Value} {news : List (Addr × Obj)}
theorem min_tab {l : Addr} {vs : List Value} {k : Nat} {rows : List (List Str)} {Q : Value → Shared → Prop} (hh : A.handled = none) (FF : Fr h₀ L s.heap m) (N : News h₀ L s.heap news)
  (hl : (l, W.listOf vs.toArray k) ∈ news) (hr : TabAre news vs rows) (hne : 0 < rows.length) (hu : A.units + 8 < cLine)
  (h : ∀ h' tk a u k', Fr h₀ L h' m → News h₀ L h' news → (a, W.listOf u.toArray k') ∈ news → StrsAre u (rowAt rows (argBest (fun i j => ltL (rowAt rows i) (rowAt rows j)) (rows.length - 1))) → Q (.ref a) { s with heap := h', toks := tk }) :
  wpAny (model prog w) A (call (.builtin "min") [.ref l]) Q E s := by
 have hname : (toString "min" ++ toString ".loop" : String) = "min.loop" := by decide
 have hlen := hr.length
 have hIL : s.heap.IsList l vs.toArray := ⟨_, (N _ hl).1, rfl, k, rfl⟩
 refine call_function_tree F.kind_min F.plain_min F.entry_min (F.args_min1 _) ?_
 show wpAny _ A.in1 (Builtin.Builtins.bindParams "min" ["key", "default"] 0 ⟨[], []⟩ >>= _) _ _ s
 refine wpAny_bind (wpAny_of_eq (show Builtin.Builtins.bindParams "min" ["key", "default"] 0 ⟨[], []⟩ = pure [none, none] from rfl) ?_)
 refine wpAny_bind (wpAny_pure ?_)
 refine wpAny_bind (iter_vals hIL fun hst hfp hlI => ?_)
 refine wpAny_bind (wpAny_newObj_type ?_)
 have hSf : (s.heap.push { cls := .type "list_iterator", data := .fields #[.ref l, .int 0 0] }).objs.size ∉ [s.heap.objs.size, l] := fun hm => Nat.lt_irrefl _ (hfp _ hm)
 rw [hname]
 refine wpAny_pure ⟨plainId_quiet F.plain_min_loop _, min_first (n := vs.toArray.size) (Walks.list (A := A.in1) hh _ l hlI vs.toArray) (fun i j => ltL (rowAt rows i) (rowAt rows j)) (fun hp => ∀ p ∈ news, hp.get? p.1 = some p.2) ?_ _ hSf ?_
  (by rw [List.size_toArray]; (exact ul3 hne hlen)) ⟨hst.1.at fun o e => Heap.get?_push_of_some _ e, hst.2.push _⟩ (fun p hp => Heap.get?_push_of_some _ (Heap.get?_push_of_some _ (N p hp).1)) (Heap.get?_push_size _ rfl) fun v h' tk hP hk => ?_⟩
 ·intro i j vi vj s' Q' E' hi hj hK hQ
  rw [List.getElem?_toArray] at hi hj
  refine e3_4 (hr.row hi) ?_
  intro a u k1 hz1 ha hsa _
  subst hz1
  refine e3_4 (hr.row hj) ?_
  intro b v k2 hz2 hb hsb _
  subst hz2
  exact rc_lt ⟨_, hK _ ha, rfl, _, rfl⟩ ⟨_, hK _ hb, rfl, _, rfl⟩ (by ktr_units) hsa hsb hQ
 ·intro hp hp' hK hk p hpm
  refine hk _ _ (fun hm => ?_) ?_ (hK p hpm)
  ·rw [List.mem_singleton] at hm
   exact absurd (Heap.lt_size (N p hpm).1) (by rw [hm]; exact Nat.lt_irrefl _)
  ·refine Nat.ne_of_lt ?_
   rw [Heap.size_push]
   exact Nat.lt_succ_of_lt (Heap.lt_size (N p hpm).1)
 ·rw [List.getElem?_toArray, List.size_toArray, hlen] at hP
  refine e3_4 (hr.row hP) ?_
  intro a u k1 hz3 ha hsa _
  subst hz3
  have hk' : ∀ b o, s.heap.get? b = some o → h'.get? b = some o := fun b o e => hk b o (fun hm => by rw [List.mem_singleton] at hm; exact absurd (Heap.lt_size e) (by rw [hm]; exact Nat.lt_irrefl _)) (Nat.ne_of_lt (by rw [Heap.size_push]; exact Nat.lt_succ_of_lt (Heap.lt_size e))) (Heap.get?_push_of_some _ (Heap.get?_push_of_some _ e))
  exact h _ _ a u k1 (FF.grownK hk') (N.grown hk') ha hsa
end
section
variable {prog : Program} {w : World} {A : Around} {R : Result → Shared → Prop} {I : Addr} {fp wr : List Addr} {n : Nat} {P : Nat → Value → Prop} {St : Nat → Heap → Prop}
theorem max_turns (W : Walks prog w A.in1 I fp wr n P St) (bt : Nat → Nat → Bool) (Kp : Heap → Prop)
  (hcmp : ∀ i j vi vj (s : Shared) (Q : Value → Shared → Prop) (E : Value → Shared → Prop), P i vi → P j vj → Kp s.heap → Q (.bool (bt i j)) s → wpAny (model prog w) A.in1 (richCompare .Gt vi vj) Q E s) (S : Addr) (hSf : S ∉ fp)
  (hKp : ∀ h h' : Heap, Kp h → (∀ b o, b ∉ wr → b ≠ S → h.get? b = some o → h'.get? b = some o) → Kp h') :
  ∀ (k j : Nat) (s : Shared) (vb : Value) (c : Nat), n = j + 1 + k → St (j + 1) s.heap → Kp s.heap → P (argBest bt j) vb →
  s.heap.get? S = some { cls := .type "list", dict := none, data := .seq #[vb, vb] c, slots := #[] } →
  (∀ v h' tk, P (argBest bt (n - 1)) v → (∀ b o, b ∉ wr → b ≠ S → s.heap.get? b = some o → h'.get? b = some o) → R (.ok (.ret v)) { s with heap := h', toks := tk }) →
  codeAny (model prog w) A (.builtin "max.loop" ⟨[.ref I, .none, .ref S], []⟩) R s := by
 have hSw : S ∉ wr := fun h => hSf (W.sub _ h)
 have hname : (toString "max" ++ toString ".loop" : String) = "max.loop" := by decide
 intro k
 induction k with
 | zero =>
  intro j s vb c hk hst hK hPb hS hR
  refine codeAny_builtin F.entry_max_loop ?_
  rw [Around.under_plainId F.plain_max_loop _]
  refine wpAny_bind (wpAny_seqItems hS rfl ?_)
  refine wpAny_bind (wpAny_tryCatch (W.done s _ _ ((show j + 1 = n by (exact Eq.symm hk)) ▸ hst) fun h' tk hk' => ?_))
  have hS' := hk' S _ hSw hS
  refine wpAny_bind ?_
  refine wpAny_updateSeq hS' rfl (wpAny_bind (wpAny_letGo (wpAny_pure ?_)))
  exact hR vb _ tk (by rw [show n - 1 = j by (exact o129 hk)]; exact hPb) fun b o hbw hbS e => (Heap.get?_update_other _ _ (Ne.symm hbS)).trans (hk' b o hbw e)
 | succ k ih =>
  intro j s vb c hk hst hK hPb hS hR
  refine codeAny_builtin F.entry_max_loop ?_
  rw [Around.under_plainId F.plain_max_loop _]
  refine wpAny_bind (wpAny_seqItems hS rfl ?_)
  refine wpAny_bind (wpAny_tryCatch (W.item (j + 1) s _ _ (by exact o98 hk) hst fun v h' tk hP hst' hk' => ?_))
  have hS' := hk' S _ hSw hS
  have hK' : Kp h' := hKp _ _ hK fun b o hb _ e => hk' b o hb e
  show wpAny _ A.in1 (tryCatch (holding [v, v] (richCompare .Gt v vb >>= _)) _ >>= _) _ _ _
  refine wpAny_bind (wpAny_tryCatch (wpAny_holding (wpAny_bind (hcmp (j + 1) (argBest bt j) v vb _ _ _ hP hPb hK' ?_))))
  refine wpAny_bind (wpAny_holding (wpAny_truthy_bool ?_))
  refine wpAny_bind (wpAny_letGo (wpAny_pure ?_))
  cases hb : bt (j + 1) (argBest bt j) with
  | true =>
   simp only [if_true]
   refine wpAny_bind ?_
   refine wpAny_updateSeq hS' rfl (wpAny_bind (wpAny_letGo ?_))
   rw [hname]
   refine wpAny_pure ⟨plainId_quiet F.plain_max_loop _, ih (j + 1) _ v _ (by exact o63 hk) (W.frame _ _ _ hst' fun b hbf o e => ?_) (hKp _ _ hK' fun b o hbw hbS e => (Heap.get?_update_other _ _ (Ne.symm hbS)).trans e) (by simp only [argBest, hb, if_true]; exact hP) (Heap.get?_update_self _ hS' rfl)
    fun v' h'' tk'' hP' hk'' => ?_⟩
   ·exact (Heap.get?_update_other _ _ (fun h : S = b => hSf (by rw [h]; exact hbf))).trans e
   ·exact hR v' h'' tk'' hP' fun b o hbw hbS e => hk'' b o hbw hbS ((Heap.get?_update_other _ _ (Ne.symm hbS)).trans (hk' b o hbw e))
  | false =>
   simp only [Bool.false_eq_true, if_false]
   refine wpAny_bind (wpAny_letGo ?_)
   rw [hname]
   refine wpAny_pure ⟨plainId_quiet F.plain_max_loop _, ih (j + 1) _ vb c (by exact o63 hk) hst' hK' (by simp only [argBest, hb, Bool.false_eq_true, if_false]; exact hPb) hS' fun v' h'' tk'' hP' hk'' => ?_⟩
   exact hR v' h'' tk'' hP' fun b o hbw hbS e => hk'' b o hbw hbS (hk' b o hbw e)
theorem max_first (W : Walks prog w A.in1 I fp wr n P St) (bt : Nat → Nat → Bool) (Kp : Heap → Prop)
  (hcmp : ∀ i j vi vj (s : Shared) (Q : Value → Shared → Prop) (E : Value → Shared → Prop), P i vi → P j vj → Kp s.heap → Q (.bool (bt i j)) s → wpAny (model prog w) A.in1 (richCompare .Gt vi vj) Q E s) (S : Addr) (hSf : S ∉ fp)
  (hKp : ∀ h h' : Heap, Kp h → (∀ b o, b ∉ wr → b ≠ S → h.get? b = some o → h'.get? b = some o) → Kp h') (hn : 0 < n) {s : Shared} {c : Nat} (hst : St 0 s.heap) (hK : Kp s.heap)
  (hS : s.heap.get? S = some { cls := .type "list", dict := none, data := .seq #[] c, slots := #[] })
  (hR : ∀ v h' tk, P (argBest bt (n - 1)) v → (∀ b o, b ∉ wr → b ≠ S → s.heap.get? b = some o → h'.get? b = some o) → R (.ok (.ret v)) { s with heap := h', toks := tk }) :
  codeAny (model prog w) A (.builtin "max.loop" ⟨[.ref I, .none, .ref S], []⟩) R s := by
 have hSw : S ∉ wr := fun h => hSf (W.sub _ h)
 have hname : (toString "max" ++ toString ".loop" : String) = "max.loop" := by decide
 refine codeAny_builtin F.entry_max_loop ?_
 rw [Around.under_plainId F.plain_max_loop _]
 refine wpAny_bind (wpAny_seqItems hS rfl ?_)
 refine wpAny_bind (wpAny_tryCatch (W.item 0 s _ _ hn hst fun v h' tk hP hst' hk' => ?_))
 have hS' := hk' S _ hSw hS
 show wpAny _ A.in1 (updateSeq S (fun _ => #[v, v]) >>= _) _ _ _
 refine wpAny_bind ?_
 refine wpAny_updateSeq hS' rfl ?_
 rw [hname]
 refine wpAny_pure ⟨plainId_quiet F.plain_max_loop _, max_turns W bt Kp hcmp S hSf hKp (n - 1) 0 _ v _ (by exact o68 hn) (W.frame _ _ _ hst' fun b hbf o e => ?_) (hKp _ _ hK fun b o hbw hbS e => (Heap.get?_update_other _ _ (Ne.symm hbS)).trans (hk' b o hbw e)) hP (Heap.get?_update_self _ hS' rfl) fun v' h'' tk'' hP' hk'' => ?_⟩
 ·exact (Heap.get?_update_other _ _ (fun h : S = b => hSf (by rw [h]; exact hbf))).trans e
 ·exact hR v' h'' tk'' hP' fun b o hbw hbS e => hk'' b o hbw hbS ((Heap.get?_update_other _ _ (Ne.symm hbS)).trans (hk' b o hbw e))
end
section
variable {prog : Program} {w : World} {A : Around} {E : Value → Shared → Prop} {s : Shared} {h₀ : Heap} {L : Addr} {m : Str → Option Value} {news : List (Addr × Obj)}
theorem max_tab {l : Addr} {vs : List Value} {k : Nat} {rows : List (List Str)} {Q : Value → Shared → Prop} (hh : A.handled = none) (FF : Fr h₀ L s.heap m) (N : News h₀ L s.heap news)
  (hl : (l, W.listOf vs.toArray k) ∈ news) (hr : TabAre news vs rows) (hne : 0 < rows.length) (hu : A.units + 8 < cLine)
  (h : ∀ h' tk a u k', Fr h₀ L h' m → News h₀ L h' news → (a, W.listOf u.toArray k') ∈ news → StrsAre u (rowAt rows (argBest (fun i j => ltL (rowAt rows j) (rowAt rows i)) (rows.length - 1))) → Q (.ref a) { s with heap := h', toks := tk }) :
  wpAny (model prog w) A (call (.builtin "max") [.ref l]) Q E s := by
 have hname : (toString "max" ++ toString ".loop" : String) = "max.loop" := by decide
 have hlen := hr.length
 have hIL : s.heap.IsList l vs.toArray := ⟨_, (N _ hl).1, rfl, k, rfl⟩
 refine call_function_tree F.kind_max F.plain_max F.entry_max (F.args_max1 _) ?_
 show wpAny _ A.in1 (Builtin.Builtins.bindParams "max" ["key", "default"] 0 ⟨[], []⟩ >>= _) _ _ s
 refine wpAny_bind (wpAny_of_eq (show Builtin.Builtins.bindParams "max" ["key", "default"] 0 ⟨[], []⟩ = pure [none, none] from rfl) ?_)
 refine wpAny_bind (wpAny_pure ?_)
 refine wpAny_bind (iter_vals hIL fun hst hfp hlI => ?_)
 refine wpAny_bind (wpAny_newObj_type ?_)
 have hSf : (s.heap.push { cls := .type "list_iterator", data := .fields #[.ref l, .int 0 0] }).objs.size ∉ [s.heap.objs.size, l] := fun hm => Nat.lt_irrefl _ (hfp _ hm)
 rw [hname]
 refine wpAny_pure ⟨plainId_quiet F.plain_max_loop _, max_first (n := vs.toArray.size) (Walks.list (A := A.in1) hh _ l hlI vs.toArray) (fun i j => ltL (rowAt rows j) (rowAt rows i)) (fun hp => ∀ p ∈ news, hp.get? p.1 = some p.2) ?_ _ hSf ?_
  (by rw [List.size_toArray]; (exact ul3 hne hlen)) ⟨hst.1.at fun o e => Heap.get?_push_of_some _ e, hst.2.push _⟩ (fun p hp => Heap.get?_push_of_some _ (Heap.get?_push_of_some _ (N p hp).1)) (Heap.get?_push_size _ rfl) fun v h' tk hP hk => ?_⟩
 ·intro i j vi vj s' Q' E' hi hj hK hQ
  rw [List.getElem?_toArray] at hi hj
  refine e3_4 (hr.row hi) ?_
  intro a u k1 hz4 ha hsa _
  subst hz4
  refine e3_4 (hr.row hj) ?_
  intro b v k2 hz5 hb hsb _
  subst hz5
  exact rc_gt ⟨_, hK _ ha, rfl, _, rfl⟩ ⟨_, hK _ hb, rfl, _, rfl⟩ (by ktr_units) hsa hsb hQ
 ·intro hp hp' hK hk p hpm
  refine hk _ _ (fun hm => ?_) ?_ (hK p hpm)
  ·rw [List.mem_singleton] at hm
   exact absurd (Heap.lt_size (N p hpm).1) (by rw [hm]; exact Nat.lt_irrefl _)
  ·refine Nat.ne_of_lt ?_
   rw [Heap.size_push]
   exact Nat.lt_succ_of_lt (Heap.lt_size (N p hpm).1)
 ·rw [List.getElem?_toArray, List.size_toArray, hlen] at hP
  refine e3_4 (hr.row hP) ?_
  intro a u k1 hz6 ha hsa _
  subst hz6
  have hk' : ∀ b o, s.heap.get? b = some o → h'.get? b = some o := fun b o e => hk b o (fun hm => by rw [List.mem_singleton] at hm; exact absurd (Heap.lt_size e) (by rw [hm]; exact Nat.lt_irrefl _)) (Nat.ne_of_lt (by rw [Heap.size_push]; exact Nat.lt_succ_of_lt (Heap.lt_size e))) (Heap.get?_push_of_some _ (Heap.get?_push_of_some _ e))
  exact h _ _ a u k1 (FF.grownK hk') (N.grown hk') ha hsa
end
end
section
theorem isL {h₀ h : Heap} {L a : Addr} {news : List (Addr × Obj)} {its : Array Value} {n : Nat} (N : News h₀ L h news) (hm : (a, W.listOf its n) ∈ news) : h.IsList a its := ⟨_, (N _ hm).1, rfl, n, rfl⟩
theorem all_eq_strs {xs ys : List Str} (hlen : xs.length = ys.length) : ((List.range xs.length).all fun j => xs.getD j Str.empty == ys.getD j Str.empty) = decide (xs = ys) := by
 rw [Bool.eq_iff_iff, List.all_eq_true, decide_eq_true_eq]
 constructor
 ·intro h
  refine List.ext_getElem hlen fun i h1 h2 => ?_
  have := eq_of_beq (h i (List.mem_range.mpr h1))
  rwa [List.getD_eq_getElem?_getD, List.getD_eq_getElem?_getD, List.getElem?_eq_getElem h1, List.getElem?_eq_getElem h2] at this
 ·rintro rfl j _
  exact beq_self_eq_true _
section
variable {prog : Program} {w : World} {A : Around} {E : Value → Shared → Prop} {s : Shared}
theorem ne_strsK {a b : Addr} {vs us : List Value} {ns ms : List Str} {Q : Value → Shared → Prop} (hl : s.heap.IsList a vs.toArray) (hi : StrsAre vs ns) (hl' : s.heap.IsList b us.toArray) (hi' : StrsAre us ms) (hu : A.units < cLine)
  (h : Q (.bool (!decide (ns = ms))) s) : wpAny (model prog w) A (compareOp .NotEq (.ref a) (.ref b)) Q E s := by
 show wpAny _ _ (richCompare .NotEq (.ref a) (.ref b)) Q E s
 have l1 := hi.length
 have l2 := hi'.length
 by_cases hlen : ns.length = ms.length
 ·refine PySem.SeqAt.RcNeAt.lists (e := fun j => ns.getD j Str.empty == ms.getD j Str.empty) hl hl' (by rw [List.size_toArray, List.size_toArray]; (exact Eq.trans l1 (Eq.trans hlen (Eq.symm l2)))) hu (fun j h1 h2 => ?_) prog w E Q ?_
  ·rw [List.size_toArray] at h1 h2
   have e1 : ns[j]? = some (ns.getD j Str.empty) := by rw [List.getD_eq_getElem?_getD, List.getElem?_eq_getElem (by exact o157 l1 h1)]; rfl
   have e2 : ms[j]? = some (ms.getD j Str.empty) := by rw [List.getD_eq_getElem?_getD, List.getElem?_eq_getElem (by exact ul2 h2 l2)]; rfl
   refine e1_1 (hi.at e1) ?_
   intro t ht
   refine e1_1 (hi'.at e2) ?_
   intro u hu'
   rw [List.getElem?_eq_getElem h1] at ht
   rw [List.getElem?_eq_getElem h2] at hu'
   have z1 : vs.toArray[j] = .str (ns.getD j Str.empty) t := by rw [List.getElem_toArray]; exact Option.some.inj ht
   have z2 : us.toArray[j] = .str (ms.getD j Str.empty) u := by rw [List.getElem_toArray]; exact Option.some.inj hu'
   rw [z1, z2]
   exact PySem.SeqAt.EqAt.str_str _ _ _ _
  ·rw [List.size_toArray, l1, all_eq_strs hlen]
   exact h
 ·refine PySem.SeqAt.RcNeAt.lists_lengths hl hl' (by rw [List.size_toArray, List.size_toArray, bne_iff_ne]; (exact fun hom => o107 hlen l1 l2 hom)) hu prog w E Q ?_
  rw [decide_eq_false (fun e => hlen (by rw [e]))] at h
  exact h
theorem eq_noneK {a b : Addr} {vs : List Value} {Q : Value → Shared → Prop} (hl : s.heap.IsList a vs.toArray) (hl' : s.heap.IsList b #[]) (hu : A.units < cLine)
  (h : Q (.bool vs.isEmpty) s) : wpAny (model prog w) A (compareOp .Eq (.ref a) (.ref b)) Q E s := by
 show wpAny _ _ (richCompare .Eq (.ref a) (.ref b)) Q E s
 cases vs with
 | nil => exact PySem.SeqAt.RcAt.lists (e := fun _ => true) hl hl' rfl hu (fun j h1 _ => absurd h1 (Nat.not_lt_zero _)) prog w E Q h
 | cons v vs => exact PySem.SeqAt.RcAt.lists_lengths hl hl' (by simp) hu prog w E Q h
theorem slice_L {h₀ : Heap} {L l : Addr} {m : Str → Option Value} {news : List (Addr × Obj)} {us : List Value} {k : Nat} {lo hi : Option Int} {vl vu : Value} {value slice : PySem.Expr} {Q : Value → Shared → Prop} (F : Fr h₀ L s.heap m) (N : News h₀ L s.heap news) (hm : (l, W.listOf us.toArray k) ∈ news) (pl : IsPart vl lo) (pu : IsPart vu hi)
  (h : ∀ D h', Fr h₀ L h' m → News h₀ L h' ((D, W.listOf (kms_pick us lo hi).toArray 0) :: news) → (∀ p ∈ news, p.1 < D) → Q (.ref D) { s with heap := h' })
  (hs : subscripted slice false (.ref l) (.ref s.heap.objs.size) = operate [.ref s.heap.objs.size, .ref l] (getItem (.ref l) (.ref s.heap.objs.size))) (ht : ∀ r, letTemporaryGo value (.ref l) r = pure ()) (hz : us.length ≤ sizeLine) :
  wpAny (model prog w) A (subscriptTail value slice (.ref l) (.ref s.heap.objs.size)) Q E { s with heap := s.heap.push { cls := .type "slice", data := .fields #[vl, vu, .none] } } :=
 kms_slice_lit F N (isL N hm) pl pu rfl h hs ht (by rw [List.size_toArray]; exact hz)
theorem join_L {h₀ : Heap} {L D : Addr} {news : List (Addr × Obj)} {us : List Value} {k : Nat} {x : Str} {t : Tok} {ys : List Str} {Q : Value → Shared → Prop} (N : News h₀ L s.heap news) (hm : (D, W.listOf us.toArray k) ∈ news) (hi : StrsAre us ys) (hok : (ys.map (·.length)).sum + ys.length * x.length ≤ 16777216)
  (h : ∀ t' k, Q (.str (Txt.join x ys) t') { s with toks := k }) : wpAny (model prog w) A (call (.builtin "str.join") [.str x t, .ref D]) Q E s :=
 join_list (isL N hm) hi hok h
end
theorem pick_take (l : List Value) (n : Nat) : kms_pick l none (some ((n : Int))) = l.take n := by
 unfold kms_pick kms_lo kms_hi
 simp only [List.drop_zero, Nat.sub_zero]
 rw [if_neg (by exact fun hom => absurd hom (Int.not_lt.mpr (Int.natCast_nonneg _))), Int.toNat_natCast]
 exact kmk_take_min l n
theorem pick_take1 (l : List Value) (n : Nat) : kms_pick l none (some ((n : Int) + 1)) = l.take (n + 1) := pick_take l (n + 1)
theorem StrsAre.takeN {vs : List Value} {xs : List Str} (h : StrsAre vs xs) : ∀ n, StrsAre (vs.take n) (xs.take n) := by
 induction h with
 | nil => intro n; rw [List.take_nil, List.take_nil]; exact .nil
 | cons a t _ ih =>
  intro n
  cases n with
  | zero => exact .nil
  | succ n => exact .cons a t (ih n)
noncomputable def okAt (rows : List (List Str)) (n : Nat) : Bool := rows.all fun r => decide (r.take (n + 1) = (rowAt rows 0).take (n + 1))
noncomputable def sharedGo (rows : List (List Str)) : Nat → Nat → Nat
 | 0, n => n
 | k + 1, n => if okAt rows n then sharedGo rows k (n + 1) else n
noncomputable def sharedN (rows : List (List Str)) : Nat := sharedGo rows (rowAt rows 0).length 0
noncomputable def sharedS (rows : List (List Str)) : Str := if sharedN rows > 1 then Txt.join (Str.ofString "/") ((rowAt rows 0).take (sharedN rows)) else Str.ofString "/"
end
section
local macro_rules | `(tactic| kd_p) => `(tactic| k_extra "W2")
local macro_rules | `(tactic| ktr_room) => `(tactic| k_extra "W3")
local macro_rules | `(tactic| ktr_units) => `(tactic| k_extra "W3")
local macro_rules | `(tactic| k_room) => `(tactic| ktr_room)
local macro_rules | `(tactic| k_enter) => `(tactic| first | (k_extra "W4"; intro g' L' h' FG' F' N' B' X' T'; (try dsimp only); (try k_lift B'); (try k_fold)) | (k_extra "W5"; intro g' L' h' tk' cells' FG' F' N' Y' B' X' T' l1; (try k_lt l1); k_cells Y'; (try simp only [List.cons_append, List.nil_append] at N'); (try dsimp only); (try k_lift B'); (try k_fold)))
local macro_rules | `(tactic| k_all) => `(tactic| k_extra "W6")
local macro_rules | `(tactic| walk_at "getMethod ref") => `(tactic| k_extra "W7")
local macro_rules | `(tactic| walk_at "call builtin:dict.get") => `(tactic| k_extra "W8")
local macro_rules | `(tactic| k_mem) => `(tactic| k_extra "W9")
local macro_rules | `(tactic| k_ne) => `(tactic| k_extra "W10")
local macro_rules | `(tactic| k_upd) => `(tactic| k_extra "W11")
local macro_rules | `(tactic| k_updF) => `(tactic| k_extra "W12")
local macro_rules | `(tactic| walk_at "setItem ref") => `(tactic| k_extra "W13")
local macro_rules | `(tactic| walk_at "call builtin:len") => `(tactic| k_extra "W14")
local macro_rules | `(tactic| walk_at "call type:bool") => `(tactic| k_extra "W15")
local macro_rules | `(tactic| walk_at "truthy ref") => `(tactic| k_extra "W16")
local macro_rules | `(tactic| walk_at "subscriptTail") => `(tactic| k_extra "W17")
local macro_rules | `(tactic| walk_at "execs cons") => `(tactic| k_extra "W18")
local macro_rules | `(tactic| walk_at "Nx") => `(tactic| k_extra "W19")
local macro_rules | `(tactic| walk_at "eval Constant int") => `(tactic| k_extra "W20")
local macro_rules | `(tactic| walk_at "eval Constant str") => `(tactic| k_extra "W21")
section
local macro_rules | `(tactic| walk_at "exec For") => `(tactic| k_extra "W22")
local macro_rules | `(tactic| walk_at "exec For Name Attribute cons nil") => `(tactic| k_extra "W22")
section
variable {Sx : Addr}
structure Same (g g' : G) : Prop where
 rdy : g'.rdy = g.rdy
 po : g'.po = g.po
 nf : g'.nf = g.nf
theorem Same.refl (g : G) : Same g g := ⟨rfl, rfl, rfl⟩
theorem Same.trans {a b c : G} (h : Same a b) (k : Same b c) : Same a c := ⟨k.rdy.trans h.rdy, k.po.trans h.po, k.nf.trans h.nf⟩
theorem getinfo {w : World} {dp un : Nat} {gd : Option (List Code)} {cn : Str} {cs : Scope} {a : Addr} {ccd : Value} {cl : List (Str × Addr)} {outer : List Env} {A₀ : Around} {base h₀ : Heap} {L : Addr} {m : Str → Option Value} {news : List (Addr × Obj)} {s : Shared} {mean : ExcName → Option Value} {mg mb : Str → Option Value} {Q E : Value → Shared → Prop} (B : Below A₀ base outer h₀) (F : Fr h₀ L s.heap m) (KX : Frag.In (Mine.hd.heap_39 w.params) h₀) (N : News h₀ L s.heap news) (T : Top Mine.hd.view_39 (looseW Mine.hd.view_39 [Str.ofString "_NodeInfo"]) mean mg mb h₀) (hk : cs.kind = .function) {g : G} {j : Nat} {t : Tok}
  (H : SIn w Sx news g) (hnd : ND news) (hj5 : j < 5)
  (hd : dp + 10 < recursionLimit) (hu : un + 80 < cLine)
  (hret : ∀ g' news' h' tk', Fr h₀ L h' m → News h₀ L h' news' → Post w Sx news g news' g' → g'.ab = g.ab.node j → j ∈ g'.ord → Same g g' → Q (.ref (g'.I j)) { s with heap := h', toks := tk' }) :
  wpAny (model PySem.Challenge.rw_ik0081_01.prog w) (ktrTop dp un gd cn cs L a ccd cl outer) (call (.ref 87) [.ref Sx, .str (fname j) t]) Q E s := by
 (try kd_p)
 refine e6_1 H.dict ?_
 intro t1 t2 t3 t4 tp tn hdict
 refine e1_2 H.tab ?_
 intro oD hD hDo
 have hself := H.self
 have hlo : (g.D == sysModules) = false := beq_false_of_ne H.sm
 have hlen : (g.ord.map fun i => (fname i, Value.ref (g.I i))).length ≤ sizeLine := by
  rw [List.length_map, sizeLine_eq]
  have := ord_len H
  exact Nat.le_trans this (by decide)
 by_cases hj : j ∈ g.ord
 ·have hval : valueAt (g.ord.map fun i => (fname i, Value.ref (g.I i))) (fname j) = some (.ref (g.I j)) := by
   rw [valueAt_ord (f := fun i => .ref (g.I i)) H.lo hj5, if_pos hj]
  refine wpAny_call ?_
  k_dflt k_enter
  k_steps
  all_goals (try kd_p)
  exact hret _ _ _ _ (by k_asm) (by k_asm) (Post.refl hnd H) (if_pos hj).symm hj (Same.refl g)
 ·have hval : valueAt (g.ord.map fun i => (fname i, Value.ref (g.I i))) (fname j) = none := by
   rw [valueAt_ord (f := fun i => .ref (g.I i)) H.lo hj5, if_neg hj]
  have fin : ∀ {d' x' l' : Addr} {o' : Obj} {t1 t2 : Tok} {h' : Heap} {tk : Nat}, Fr h₀ L h' m →
    News h₀ L h' ((l', W.listOf #[] 0) :: (x', nodeObj d' (fname j) t1 0 t2 l') :: (d', dictOf [] 0) :: rep g.D o' news) → (∀ p ∈ news, p.1 < d') → @LT.lt Nat _ d' x' → @LT.lt Nat _ x' l' →
    o'.IsDictOf (SK w) (stored (g.ord.map fun j => (fname j, Value.ref (g.I j))) (fname j) (.ref x')) → Q (.ref x') { s with heap := h', toks := tk } := by
   intro d' x' l' o' t1 t2 h' tk F' N' l1 l2 l3 hdo
   have P := sin_new (t1 := t1) (t2 := t2) H hnd hj hj5 hD hdo l1 l2 l3
   have e : (g.addNode j x' d' l').I j = x' := set1_self _ _ _
   have := hret _ _ h' tk F' N' P (if_neg hj).symm (List.mem_append_right _ (.head _)) ⟨rfl, rfl, rfl⟩
   rw [e] at this
   exact this
  refine wpAny_call ?_
  k_dflt k_enter
  k_steps
  all_goals (try kd_p)
  exact fin (by k_asm) (by k_asm) (by assumption) (by assumption) (by exact o142 ‹_›) (by assumption)
end
section
variable {Sx : Addr}
noncomputable def Ab.inc (a : Ab) (k : Nat) (n : Int) : Ab := ⟨a.ord, set1 a.np k (a.np k + n), a.su⟩
noncomputable def Ab.link (a : Ab) (j k : Nat) : Ab := ⟨a.ord, a.np, set1 a.su j (a.su j ++ [k])⟩
noncomputable def Ab.add (a : Ab) (k : Nat) (js : List Nat) : Ab := js.foldl (fun a j => (a.node j).link j k) ((a.node k).inc k js.length)
theorem node_su_len (a : Ab) (i j : Nat) : ((a.node i).su j).length ≤ (a.su j).length := by
 unfold Ab.node
 by_cases h : i ∈ a.ord
 ·rw [if_pos h]; exact Nat.le_refl _
 ·rw [if_neg h]
  show (set1 a.su i [] j).length ≤ _
  by_cases e : j = i
  ·rw [e, set1_self]; exact Nat.zero_le _
  ·rw [set1_ne _ _ e]; exact Nat.le_refl _
theorem link_su_len (a : Ab) (i k j : Nat) : ((a.link i k).su j).length ≤ (a.su j).length + 1 := by
 show (set1 a.su i _ j).length ≤ _
 by_cases e : j = i
 ·subst e; rw [set1_self, List.length_append]; exact Nat.le_refl _
 ·rw [set1_ne _ _ e]; exact Nat.le_succ _
theorem links_len (k j : Nat) : ∀ (js : List Nat) (a : Ab), ((js.foldl (fun a j => (a.node j).link j k) a).su j).length ≤ (a.su j).length + js.length
 | [], _ => Nat.le_refl _
 | i :: r, a => by
  have h := links_len k j r ((a.node i).link i k)
  have h1 := link_su_len (a.node i) i k j
  have h2 := node_su_len a i j
  simp only [List.foldl_cons, List.length_cons]
  exact o40 h h1 h2
end
section
variable {Sx : Addr}
theorem active_spec {w : World} {dp un : Nat} {gd : Option (List Code)} {cn : Str} {cs : Scope} {a : Addr} {ccd : Value} {cl : List (Str × Addr)} {outer : List Env} {A₀ : Around} {base h₀ : Heap} {L : Addr} {m : Str → Option Value} {news : List (Addr × Obj)} {s : Shared} {mean : ExcName → Option Value} {mg mb : Str → Option Value} {Q E : Value → Shared → Prop} (B : Below A₀ base outer h₀) (F : Fr h₀ L s.heap m) (KX : Frag.In (Mine.hd.heap_39 w.params) h₀) (N : News h₀ L s.heap news) (T : Top Mine.hd.view_39 (looseW Mine.hd.view_39 [Str.ofString "_NodeInfo"]) mean mg mb h₀) (hk : cs.kind = .function) {g : G} {R : Addr} {js : List Nat}
  (H : SIn w Sx news g) (hnd : ND news) (hr : g.rdy = some (R, js)) (hz : js.length ≤ 1000)
  (hd : dp + 20 < recursionLimit) (hu : un + 160 < cLine)
  (hret : ∀ h' tk', Fr h₀ L h' m → News h₀ L h' news → Q (.bool (decide (g.nf < g.po) || !js.isEmpty)) { s with heap := h', toks := tk' }) :
  wpAny (model PySem.Challenge.rw_ik0081_01.prog w) (ktrTop dp un gd cn cs L a ccd cl outer) (call (.ref 113) [.ref Sx]) Q E s := by
 have hself := H.self
 (try kd_p)
 refine e6_1 H.dict ?_
 intro t1 t2 t3 t4 tp tn hdict
 have hrv : g.rdyV = .ref R := by unfold G.rdyV; rw [hr]
 rw [hrv] at hdict
 (try kd_p)
 refine e2_2 (H.ready R js hr) ?_
 intro vs n hf hR
 have hl := hf.length
 have hemp : vs.isEmpty = js.isEmpty := by cases hf <;> rfl
 have fin : ∀ {b : Bool} {h' : Heap} {tk : Nat}, Fr h₀ L h' m → News h₀ L h' news → b = (decide (g.nf < g.po) || !js.isEmpty) → Q (.bool b) { s with heap := h', toks := tk } := by
  intro b h' tk F' N' e
  subst e
  exact hret h' tk F' N'
 refine wpAny_call ?_
 k_dflt k_enter
 k_steps
 all_goals (try kd_p)
 ·refine fin (by k_asm) (by k_asm) ?_
  have hc : g.nf < g.po := by first | assumption | omega
  rw [decide_eq_true hc]; rfl
 ·refine fin (by k_asm) (by k_asm) ?_
  have hc : ¬ g.nf < g.po := by first | assumption | omega
  rw [hemp, decide_eq_false hc]; rfl
end
section
variable {Sx : Addr}
theorem node_at {w : World} {news : List (Addr × Obj)} {g : G} (H : SIn w Sx news g) {j : Nat} (hj : j ∈ g.ord) : valueAt (g.ord.map fun i => (fname i, Value.ref (g.I i))) (fname j) = some (.ref (g.I j)) := by
 rw [valueAt_ord (f := fun i => .ref (g.I i)) H.lo (H.lo j hj), if_pos hj]
theorem getready_spec {w : World} {dp un : Nat} {gd : Option (List Code)} {cn : Str} {cs : Scope} {a : Addr} {ccd : Value} {cl : List (Str × Addr)} {outer : List Env} {A₀ : Around} {base h₀ : Heap} {L : Addr} {m : Str → Option Value} {news : List (Addr × Obj)} {s : Shared} {mean : ExcName → Option Value} {mg mb : Str → Option Value} {Q E : Value → Shared → Prop} (B : Below A₀ base outer h₀) (F : Fr h₀ L s.heap m) (KX : Frag.In (Mine.hd.heap_39 w.params) h₀) (N : News h₀ L s.heap news) (T : Top Mine.hd.view_39 (looseW Mine.hd.view_39 [Str.ofString "_NodeInfo"]) mean mg mb h₀) (hk : cs.kind = .function) {g : G} {R : Addr} {js : List Nat}
  (H : SIn w Sx news g) (hnd : ND news) (hr : g.rdy = some (R, js)) (hz : js.length ≤ 1000) (hin : ∀ j ∈ js, j ∈ g.ord)
  (hd : dp + 20 < recursionLimit) (hu : un + 160 < cLine)
  (hret : ∀ T' vs' news' h' tk', Fr h₀ L h' m → News h₀ L h' news' → (T', ({ cls := .type "tuple", data := .seq vs'.toArray } : Obj)) ∈ news' → FilesAre vs' js → (∀ p ∈ news, p.1 ≠ T') →
   Post w Sx news g news' { g with np := js.foldl (fun f j => set1 f j (-1)) g.np, rdy := some (R, []), po := g.po + js.length } → ¬ Own Sx { g with np := js.foldl (fun f j => set1 f j (-1)) g.np, rdy := some (R, []), po := g.po + js.length } T' → Q (.ref T') { s with heap := h', toks := tk' }) :
  wpAny (model PySem.Challenge.rw_ik0081_01.prog w) (ktrTop dp un gd cn cs L a ccd cl outer) (call (.ref 106) [.ref Sx]) Q E s := by
 have hself := H.self
 (try kd_p)
 refine e6_1 H.dict ?_
 intro t1 t2 t3 t4 tp tn hdict
 have hrv : g.rdyV = .ref R := by unfold G.rdyV; rw [hr]
 rw [hrv] at hdict
 (try kd_p)
 refine e2_2 (H.ready R js hr) ?_
 intro vs n hf hR
 have hl := hf.length
 have hlo : (g.D == sysModules) = false := beq_false_of_ne H.sm
 refine wpAny_call ?_
 k_dflt k_enter
 k_steps
 all_goals (try kd_p)
 refine tuple_lst (by k_asm) (by k_asm) hR (by exact ub1 hl (Nat.le_trans hz (by decide))) ?_
 intro T1 h1 F1 N1 lt1
 have hn1 : ND ((T1, ({ cls := .type "tuple", data := .seq vs.toArray } : Obj)) :: news) := hnd.cons lt1
 have H1 : SIn w Sx ((T1, ({ cls := .type "tuple", data := .seq vs.toArray } : Obj)) :: news) g := H.cons
 have hT : ¬ Own Sx g T1 := not_own_fresh H lt1
 k_steps
 all_goals (try kd_p)
 refine iter_seq1 (y := Str.ofString "node") (tup := true) (its := vs.toArray) (o := { cls := .type "tuple", data := .seq vs.toArray }) rfl (by rfl) (by rfl)
  (fun i news₁ => Post w Sx ((T1, ({ cls := .type "tuple", data := .seq vs.toArray } : Obj)) :: news) g news₁ { g with np := (js.take i).foldl (fun f j => set1 f j (-1)) g.np })
  rfl ⟨0, rfl⟩ (by k_asm) (by k_asm) hn1 (.head _) ?_ (Post.refl hn1 H1) ?_ ?_
 ·intro i news₁ P
  exact (P.keep _ (.head _) hT).1
 ·rintro I i v u1 u2 news₁ h tk o' hI hv hn P F₃ N₃
  rw [List.getElem?_toArray] at hv
  have hi : i < js.length := by
   rw [← hf.length]
   exact (List.getElem?_eq_some_iff.mp hv).1
  (try kd_p)
  refine e1_1 (hf.get (List.getElem?_eq_getElem hi)) ?_
  intro t' ht'
  have hv' := hv.symm.trans ht'
  obtain rfl := Option.some.inj hv'
  have H3 : SIn w Sx ((I, o') :: news₁) _ := P.sin.cons
  have hj := hin _ (List.getElem_mem hi)
  have hval := node_at H3 hj
  (try kd_p)
  refine e1_2 H3.tab ?_
  intro oD hD hDo
  refine e2_1 (H3.node _ hj) ?_
  intro w1 w2 hno
  have hdi := H3.ndict _ hj
  dsimp only at hval hD hDo hno hdi
  (try kd_p)
  k_steps
  all_goals (try kd_p)
  rename (News _ _ _ (rep _ _ _)) => N5
  rename (Fr _ _ _ _) => F5
  have P4 := Post.refl hn H3
  have P5 := post_np P4 hj N5
  have hI1 := not_own P.sin hn.head
  refine i4_7 _ _ _ _ rfl F5 N5 P5.nd ((P5.keep _ (.head _) hI1).1) ⟨_, none, map1x⟩ ?_
  rw [List.take_add_one, List.getElem?_eq_getElem hi, Option.toList_some, List.foldl_append]
  exact P.trans (P5.drp hn hI1)
 ·rintro u1 u2 news₁ h tk hn P F₃ N₃
  rw [List.size_toArray, hf.length, List.take_length] at P
  have H3 := P.sin
  have hself3 := H3.self
  (try kd_p)
  refine e6_1 H3.dict ?_
  intro s1 s2 s3 s4 sp sn hdict3
  have hrv3 : ({ g with np := js.foldl (fun f j => set1 f j (-1)) g.np } : G).rdyV = .ref R := hrv
  rw [hrv3] at hdict3
  (try kd_p)
  refine e2_2 (H3.ready R js hr) ?_
  intro vs3 n3 hf3 hR3
  dsimp only at hself3 hdict3 hR3
  have hl3 := hf3.length
  k_steps
  all_goals (try kd_p)
  refine clear_lst (by k_asm) (by k_asm) hR3 (by exact ub1 hl3 (Nat.le_trans hz (by decide))) ?_
  intro k4 h4 F4 N4
  have P4 := post_rdy P hr .nil N4
  have H4 := P4.sin
  have hself4 := H4.self
  (try kd_p)
  refine e6_1 H4.dict ?_
  intro r1 r2 r3 r4 rp rn hdict4
  have hrv4 : ({ g with np := js.foldl (fun f j => set1 f j (-1)) g.np, rdy := some (R, []) } : G).rdyV = .ref R := rfl
  rw [hrv4] at hdict4
  have hT4 := P4.keep _ (.head _) hT
  have hTm := hT4.1
  have hn4 := P4.nd
  dsimp only at hself4 hdict4
  k_steps
  all_goals (try kd_p)
  rename (News h₀ L _ (rep _ _ _)) => N6
  rename (Fr h₀ L _ _) => F6
  have P6 := post_dict P4 hrv4 N6
  rw [hl] at P6
  refine hret T1 vs _ _ _ F6 (by rw [hl] at N6; exact N6) (P6.keep _ (.head _) hT).1 hf (fun p hp => Nat.ne_of_lt (lt1 p hp)) P6.conv (P6.keep _ (.head _) hT).2
end
section
variable {Sx : Addr}
noncomputable def hit (st : (Nat → Int) × List Nat) (k : Nat) : (Nat → Int) × List Nat := (set1 st.1 k (st.1 k - 1), if st.1 k - 1 = 0 then st.2 ++ [k] else st.2)
noncomputable def done1 (su : Nat → List Nat) (st : (Nat → Int) × List Nat) (j : Nat) : (Nat → Int) × List Nat := (su j).foldl hit (set1 st.1 j (-2), st.2)
theorem hits_len : ∀ (l : List Nat) (st : (Nat → Int) × List Nat), (l.foldl hit st).2.length ≤ st.2.length + l.length
 | [], _ => Nat.le_refl _
 | k :: r, st => by
  have h := hits_len r (hit st k)
  have h2 : (hit st k).2.length ≤ st.2.length + 1 := by
   unfold hit
   dsimp only
   split
   ·rw [List.length_append]; exact Nat.le_refl _
   ·exact Nat.le_succ _
  rw [List.foldl_cons, List.length_cons]
  exact o40 h h2 (Nat.le_refl _)
theorem hits_off {j : Nat} : ∀ (l : List Nat) (st : (Nat → Int) × List Nat), j ∉ l → (l.foldl hit st).1 j = st.1 j
 | [], _, _ => rfl
 | k :: r, st, h => by
  rw [List.foldl_cons, hits_off r _ (fun e => h (.tail _ e))]
  exact set1_ne _ _ fun e => h (by rw [e]; exact .head _)
theorem dones_len (su : Nat → List Nat) (hsu : ∀ j, (su j).length ≤ 1000) : ∀ (js : List Nat) (st : (Nat → Int) × List Nat), (js.foldl (done1 su) st).2.length ≤ st.2.length + 1000 * js.length
 | [], _ => Nat.le_refl _
 | j :: r, st => by
  have h := dones_len su hsu r (done1 su st j)
  have h2 := hits_len (su j) (set1 st.1 j (-2), st.2)
  have h3 := hsu j
  have h4 : (done1 su st j).2.length ≤ st.2.length + 1000 := Nat.le_trans h2 (Nat.add_le_add_left h3 _)
  rw [List.foldl_cons, List.length_cons]
  exact o39 h h4
theorem dones_off (su : Nat → List Nat) {j : Nat} : ∀ (js : List Nat) (st : (Nat → Int) × List Nat), j ∉ js → (∀ i ∈ js, j ∉ su i) → (js.foldl (done1 su) st).1 j = st.1 j
 | [], _, _, _ => rfl
 | i :: r, st, h, k => by
  rw [List.foldl_cons, dones_off su r _ (fun e => h (.tail _ e)) fun i' hi' => k i' (.tail _ hi')]
  show ((su i).foldl hit (set1 st.1 i (-2), st.2)).1 j = st.1 j
  rw [hits_off _ _ (k i (.head _))]
  exact set1_ne _ _ fun e => h (by rw [e]; exact .head _)
end
section
variable {Sx : Addr}
local macro_rules | `(tactic| walk_at "exec While") => `(tactic| k_extra "W23")
local macro_rules | `(tactic| walk_at "exec Try") => `(tactic| k_extra "W24")
local macro_rules | `(tactic| walk_at "compareOp In str ref") => `(tactic| k_extra "W25")
local macro_rules | `(tactic| walk_at "call builtin:iter") => `(tactic| (k_extra "W26"; intro I' h' F' N' l'; (try k_lt l')))
local macro_rules | `(tactic| walk_at "getAttr ref") => `(tactic| (k_extra "W27"; intro I' h' F' N' l'; (try k_lt l')))
local macro_rules | `(tactic| walk_at "subscriptTail Name Slice ref ref") => `(tactic| (k_extra "W28"; intro D' h' F' N' l1; (try k_lt l1)))
local macro_rules | `(tactic| walk_at "binaryOp Add ref ref") => `(tactic| (k_extra "W29"; intro D' h' F' N' l1; (try k_lt l1)))
local macro_rules | `(tactic| walk_at "subscriptTail") => `(tactic| k_extra "W30")
local macro_rules | `(tactic| walk_at "call builtin:list.pop") => `(tactic| k_extra "W31")
local macro_rules | `(tactic| walk_at "delItem ref str") => `(tactic| k_extra "W32")
local macro_rules | `(tactic| walk_at "getMethod ref") => `(tactic| k_extra "W33")
local macro_rules | `(tactic| walk_at "getMethod ref") => `(tactic| k_extra "W34")
local macro_rules | `(tactic| walk_at "callWith ref") => `(tactic| k_extra "W35")
theorem find_spec {w : World} {dp un : Nat} {gd : Option (List Code)} {cn : Str} {cs : Scope} {a : Addr} {ccd : Value} {cl : List (Str × Addr)} {outer : List Env} {A₀ : Around} {base h₀ : Heap} {L : Addr} {m : Str → Option Value} {news : List (Addr × Obj)} {s : Shared} {mean : ExcName → Option Value} {mg mb : Str → Option Value} {Q E : Value → Shared → Prop} (B : Below A₀ base outer h₀) (F : Fr h₀ L s.heap m) (KX : Frag.In (Mine.hd.heap_39 w.params) h₀) (N : News h₀ L s.heap news) (T : Top Mine.hd.view_39 (looseW Mine.hd.view_39 [Str.ofString "_NodeInfo"]) mean mg mb h₀) (hk : cs.kind = .function) (XB : Frag.In (Mine.hd.heap_39 w.params) base) (TB : Top Mine.hd.view_39 (looseW Mine.hd.view_39 [Str.ofString "_NodeInfo"]) mean mg mb base) (KD : KtsDicts (outer.filterMap (·.frame)) h₀) {g : G}
  (H : SIn w Sx news g) (hnd : ND news)
  (hcl : ∀ j ∈ g.ord, ∀ k ∈ g.su j, k ∈ g.ord) (hb : ∀ j, (g.su j).length ≤ 1000)
  (hd : dp + 20 < recursionLimit) (hu : un + 160 < cLine)
  (hret : ∀ v g₁ news' h' tk', Gr A₀ base outer (Mine.hd.heap_39 w.params) Mine.hd.view_39 (looseW Mine.hd.view_39 [Str.ofString "_NodeInfo"]) mean mg mb h₀ g₁ → Fr g₁ L h' m → News g₁ L h' news' → ND news' → (∀ p ∈ news, p ∈ news') →
   ((v = .none ∧ ∃ fin, Topo g.su fin ∧ fin.Nodup ∧ ∀ j, j ∈ fin ↔ j ∈ g.ord) ∨ (∃ C vs n, v = .ref C ∧ (C, W.listOf vs.toArray n) ∈ news' ∧ vs ≠ [] ∧ vs.length ≤ 100 ∧ ∃ l, (∀ j ∈ l, j ∈ g.ord) ∧ Ring g.su l)) → Q v { s with heap := h', toks := tk' }) :
  wpAny (model PySem.Challenge.rw_ik0081_01.prog w) (ktrTop dp un gd cn cs L a ccd cl outer) (call (.ref 134) [.ref Sx]) Q E s := by
 have hself := H.self
 (try kd_p)
 refine e6_1 H.dict ?_
 intro t1 t2 t3 t4 tp tn hdict
 have hlo : (g.D == sysModules) = false := beq_false_of_ne H.sm
 refine wpAny_call ?_
 k_dflt (refine' code_defG (cl := cl) (binds := [(Str.ofString "self", Value.ref Sx)]) ?k1 ?k2 ?k3 ?k4 ?k5 ?XB ?TB ?D ?kA ?k6 ?k7 ?k8 ?k9 ?kB ?_ ?cK ?c2 ?c3 ?c4 ?c5)
 case k1 => k_asm
 case k2 => k_asm
 case k3 => k_asm
 case k4 => k_asm
 case k5 => k_asm
 case XB => assumption
 case TB => assumption
 case D => assumption
 case kA => exact rfl
 case k6 => k_is
 case k7 => k_is
 case k8 => ktr_room
 case k9 => exact BindsTo.of_eq rfl
 case kB => exact locs rfl
 case cK => assumption
 case c2 => exact rfl
 case c3 => exact rfl
 case c4 => exact rfl
 case c5 => decide
 k_whole
 intro g₀ L' h₁ FG' F' N' B' X' T' D'
 (try dsimp only)
 (try k_lift B')
 refine gpost (fun Qf hQf => ?_)
 (try kd_p)
 k_steps
 all_goals (try with_reducible refine ws_out ?_)
 rename_i _ _ S _ l3 _ _ T0 _ lT _ _ Z _ led _ hZ lZ _ _ X _ xo loX hX _ _ _ lX h5 F1 N1
 (try kd_p)
 refine e1_2 H.tab ?_
 intro oD hD hDo
 have D0 : DS w g S T0 Z X news _ [] [] [] [] [] := DS.start hnd l3 ⟨lT.1, allLt_mem lT.2⟩ ⟨lZ.1, lZ.2.1, allLt_mem lZ.2.2⟩ ⟨lX.1, lX.2.1, lX.2.2.1, allLt_mem lX.2.2.2⟩ hX hZ
 refine iter_keysC [Str.ofString "node"] rfl (by rfl) (by rfl) hlo hDo (Gr (ktrTop dp un gd cn cs L a ccd cl outer) base (envX cn cs L a ccd cl :: outer) (Mine.hd.heap_39 w.params) Mine.hd.view_39 (looseW Mine.hd.view_39 [Str.ofString "_NodeInfo"]) mean mg mb g₀)
  ⟨.refl, B', X', T', D'⟩ (fun g' hg b hb => hg.turn.none_ b hb)
  (fun i news₁ => ∃ sn fin uu, FS w g S T0 Z X news news₁ none [] sn fin uu (g.ord.take i))
  F1 N1 D0.nd (D0.old _ hD) ?_ ?_ ?_ ?_
 ·intro i news₁ hR0
  (try kd_p)
  refine e3_1 hR0 ?_
  (try clear hR0); intro sn fin uu f
  exact f.D.old _ hD
 ·exact ⟨[], [], g.ord, D0, .init, (fun j => by simp), List.nodup_nil, fun j hj => by rw [List.take_zero] at hj; cases hj⟩
 ·intro I i k v t u g₁ news₁ h tk o' hI hk hn hJ1 hG F2 N2 Q0 r0 b0 c0
  (try kd_p)
  refine e3_1 hJ1 ?_
  (try clear hJ1); intro sn fin uu f
  obtain ⟨j, hj, rfl⟩ : ∃ j, g.ord[i]? = some j ∧ k = fname j := by
   rw [List.getElem?_map] at hk
   (try kd_p)
   refine e1_2 (Option.map_eq_some_iff.mp hk) ?_
   intro j h1 h2
   exact i1_2 j h1 (by injection h2 with h3 h4; exact h3.symm)
  have hjo : j ∈ g.ord := List.mem_of_getElem? hj
  have hlo5 : ∀ x ∈ g.ord, x < 5 := H.lo
  have B2 := hG.below
  have X2 := hG.kin
  have T2 := hG.top
  have D2 := f.D.iter hn
  (try kd_p)
  refine e1_2 D2.seen ?_
  intro so hso hZm
  have hnd2 := D2.nd
  have hsl : sn.length ≤ 5 := nodup_len 5 _ f.snd fun x hx => hlo5 x (f.ord x hx)
  have hin : seenS sn (fname j) = decide (j ∈ sn) := seenS_mem (fun x hx => hlo5 x (f.ord x hx)) (hlo5 j hjo)
  have htake : g.ord.take (i + 1) = g.ord.take i ++ [j] := by rw [List.take_add_one, hj, Option.toList_some]
  (try kd_p)
  k_steps
  all_goals (try with_reducible refine ws_out ?_)
  ·rename seenS sn (fname j) = true => hjs
   rw [hin, decide_eq_true_eq] at hjs
   refine c0 _ _ _ g₁ _ _ trivial hG F2 N2 hn (.head _) (MapOk.set (.head _) .base) ?_
   rw [drp_cons hn.head, htake]
   refine ⟨sn, fin, uu, f.D, f.F, f.iff, f.snd, fun x hx => ?_⟩
   rcases List.mem_append.mp hx with hx | hx
   ·exact f.pre x hx
   ·rw [List.mem_singleton.mp hx]
    exact ((f.iff j).mp hjs).resolve_left fun q => nomatch q
  ·rename seenS sn (fname j) = false => hjs
   rw [hin, decide_eq_false_iff_not] at hjs
   show wpAny _ _ (exec (.While _ _ _ _) _) _ _ _
   refine while_true_C (s := s) (Gr (ktrTop dp un gd cn cs L a ccd cl outer) base (envX cn cs L a ccd cl :: outer) (Mine.hd.heap_39 w.params) Mine.hd.view_39 (looseW Mine.hd.view_39 [Str.ofString "_NodeInfo"]) mean mg mb g₀)
    (fun n (σ : Nat × List Wk × List Nat × List Nat × List Nat) ns m₂ => (∃ t, m₂ = fun z => if z = Str.ofString "node" then some (Value.str (fname σ.1) t) else (if z = Str.ofString "node2stacki" then some (Value.ref X) else if z = Str.ofString "seen" then some (Value.ref Z) else if z = Str.ofString "itstack" then some (Value.ref T0) else if z = Str.ofString "stack" then some (Value.ref S) else if z = Str.ofString "n2i" then some (Value.ref g.D) else List.lookup z [(Str.ofString "self", Value.ref Sx)].reverse)) ∧ FS w g S T0 Z X ((I, o') :: news) ns (some σ.1) σ.2.1 σ.2.2.1 σ.2.2.2.1 σ.2.2.2.2 (g.ord.take i) ∧ (j = σ.1 ∨ j ∈ σ.2.2.1) ∧ σ.1 ∈ g.ord ∧ n = Wt g.su σ.2.2.2.2 + Rt g.su (stOf σ.2.1))
    _ (j, [], sn, fin, uu) rfl hG F2 N2 ⟨⟨t, map1⟩, ⟨D2, f.F.start, f.iff, f.snd, f.pre⟩, .inl rfl, hjo, rfl⟩ ?_
   intro n hR0 g₂ ns m₂ h2 tk2 hR1 hG2 F3 N3 Q1 r1 b1 c1
   (try kd_p)
   obtain ⟨c, wk, sn2, fin2, un2⟩ := hR0
   refine e0_5 hR1 ?_
   (try clear hR1); intro hz1 f2 hjc hco hn2
   obtain ⟨tc, rfl⟩ := hz1
   dsimp only at f2 hjc hco hn2 F3
   refine cut_C (fun s₁ => WS (∃ h3 tk3 g₃ ns3 t3 c3 wk3 sn3 fin3 un3, s₁ = { s with heap := h3, toks := tk3 } ∧ Gr (ktrTop dp un gd cn cs L a ccd cl outer) base (envX cn cs L a ccd cl :: outer) (Mine.hd.heap_39 w.params) Mine.hd.view_39 (looseW Mine.hd.view_39 [Str.ofString "_NodeInfo"]) mean mg mb g₀ g₃ ∧
    Fr g₃ L' h3 (fun z => if z = Str.ofString "node" then some (Value.str (fname c3) t3) else (if z = Str.ofString "node2stacki" then some (Value.ref X) else if z = Str.ofString "seen" then some (Value.ref Z) else if z = Str.ofString "itstack" then some (Value.ref T0) else if z = Str.ofString "stack" then some (Value.ref S) else if z = Str.ofString "n2i" then some (Value.ref g.D) else List.lookup z [(Str.ofString "self", Value.ref Sx)].reverse)) ∧ News g₃ L' h3 ns3 ∧ FS w g S T0 Z X ((I, o') :: news) ns3 none wk3 sn3 fin3 un3 (g.ord.take i) ∧ j ∈ sn3 ∧ Wt g.su un3 + Rt g.su (stOf wk3) ≤ n)) ?_ ?_
   ·intro Q2 m2 r2 _ _
    (try kd_p)
    refine e1_2 f2.D.seen ?_
    intro so2 hso2 hZm2
    refine e1_2 f2.D.idx ?_
    intro xo2 hxo2 hXm2
    refine e2_2 f2.D.stack ?_
    intro vs2 vn2 hvs2 hSm2
    (try kd_p)
    refine e1_1 f2.D.its ?_
    intro iln2 hTm2
    have hnd3 := f2.D.nd
    have HS : SIn w Sx ns g := H.of fun p hp _ => f2.D.old _ (.tail _ hp)
    have hval := node_at HS hco
    have hDm := f2.D.old _ (.tail _ hD)
    have hsl2 : sn2.length ≤ 5 := nodup_len 5 _ f2.snd fun x hx => hlo5 x (f2.ord x hx)
    have hin2 : seenS sn2 (fname c) = decide (c ∈ sn2) := seenS_mem (fun x hx => hlo5 x (f2.ord x hx)) (hlo5 c hco)
    have B3 := hG2.below
    have X3 := hG2.kin
    have T3 := hG2.top
    have hwk5 : ∀ q ∈ ixOf wk, q.1 < 5 := fun q hq => by
     (try kd_p)
     refine e1_2 (List.mem_map.mp hq) ?_
     intro r hr hz2
     subst hz2
     exact hlo5 _ (f2.F.stk_ord r.v (by rw [stOf_fst]; exact List.mem_map.mpr ⟨r, List.mem_reverse.mp hr, rfl⟩))
    have hixm : c ∈ (ixOf wk).map (·.1) ↔ c ∈ wk.map (·.v) := by
     rw [List.map_map]
     constructor
     ·intro h
      (try kd_p)
      refine e1_2 (List.mem_map.mp h) ?_
      intro r hr e
      exact List.mem_map.mpr ⟨r, List.mem_reverse.mp hr, e⟩
     ·intro h
      (try kd_p)
      refine e1_2 (List.mem_map.mp h) ?_
      intro r hr e
      exact List.mem_map.mpr ⟨r, List.mem_reverse.mpr hr, e⟩
    have hidx : (valueAt (idxOf 0 (ixOf wk)) (fname c)).isSome = decide (c ∈ wk.map (·.v)) := by
     by_cases e : c ∈ wk.map (·.v)
     ·(try kd_p)
      refine e2_3 (idx_in 0 hwk5 (hlo5 c hco) (hixm.mpr e)) ?_
      intro n' t' _ _ h3
      rw [h3, decide_eq_true e]; rfl
     ·rw [idx_out 0 hwk5 (hlo5 c hco) (fun q => e (hixm.mp q)), decide_eq_false e]; rfl
    have hwkl : wk.length ≤ 5 := by
     have := nodup_len 5 ((stOf wk).map (·.1)) f2.F.nodup fun x hx => hlo5 x (f2.F.stk_ord x hx)
     rw [List.length_map, List.length_map] at this
     exact this
    have hvsl : vs2.length ≤ 5 := by rw [hvs2.length, List.length_map, List.length_reverse]; exact hwkl
    have hill : ((ilOf wk).map Value.ref).length ≤ 5 := by rw [List.length_map, List.length_map, List.length_reverse]; exact hwkl
    have hS5 : S ≠ X := hnd3.neC hSm2 hXm2 (by rw [dict_cls hxo2]; simp)
    (try kd_p)
    k_steps
    all_goals (try with_reducible refine ws_out ?_)
    ·rename c ∈ wk.map (·.v) => hcw
     (try kd_p)
     refine e2_3 (idx_in 0 hwk5 (hlo5 c hco) (hixm.mpr hcw)) ?_
     intro ip it' hip1 hip2 hipv
     have hpk : (kms_pick vs2 (some (ip : Int)) none).length ≤ 5 := by
      unfold kms_pick
      rw [List.length_take, List.length_drop]
      exact ub5 (ub7 hvsl)
     k_steps
     all_goals (try with_reducible refine ws_out ?_)
     rename (News _ _ _ (_ :: _ :: _ :: ns)) => N9
     rename (Fr _ _ _ _) => F9
     rename ∀ p ∈ ns, _ => l7
     rename _ ∧ AllLt _ ns => l8
     rename _ ∧ _ ∧ AllLt _ ns => l9
     refine r2 _ _ (r1 _ _ (r0 _ _ (hQf _ _ ?_)))
     refine i4_4 g₂ L' _ _ hG2.turn F9 N9 (fun h₀' G' F'' N'' => ?_)
     refine hret _ h₀' _ _ _ G' F'' N'' ?_ ?_ (.inr ⟨_, _, _, rfl, .head _, ?_, ?_, f2.F.ring (by rw [stOf_fst]; exact hcw)⟩)
     ·refine ND.cons (ND.cons (ND.cons hnd3 l7) fun p hp => ?_) fun p hp => ?_
      ·rcases List.mem_cons.mp hp with rfl | hp
       ·exact l8.1
       ·exact allLt_mem l8.2 p hp
      ·rcases List.mem_cons.mp hp with rfl | hp
       ·exact l9.1
       ·rcases List.mem_cons.mp hp with rfl | hp
        ·exact l9.2.1
        ·exact allLt_mem l9.2.2 p hp
     ·intro p hp
      exact .tail _ (.tail _ (.tail _ (f2.D.old p (.tail _ hp))))
     ·simp
     ·simp only [List.length_append, List.length_cons, List.length_nil]
      exact Nat.lt_of_le_of_lt hpk (by decide)
    ·rename seenS sn2 (fname c) = true => hcs
     rw [hin2, decide_eq_true_eq] at hcs
     rename ¬ c ∈ wk.map (·.v) => hcw
     exact m2 _ ⟨_, _, g₂, _, _, _, _, _, _, _, rfl, hG2, F3, N3, ⟨f2.D, f2.F.back (((f2.iff c).mp hcs).resolve_left hcw), f2.iff, f2.snd, f2.pre⟩, hjc.elim (fun q => q ▸ hcs) id, Nat.le_of_eq hn2.symm⟩
    ·rename seenS sn2 (fname c) = false => hcs
     rw [hin2, decide_eq_false_iff_not] at hcs
     rename (News _ _ _ (rep Z _ _)) => N4'
     rename Obj.SetObjOf _ _ (fun k' => seenS sn2 k' || decide (k' = fname c)) _ => hs4
     rw [seenS_add, hin2, decide_eq_false hcs, if_neg (by decide)] at hs4
     (try kd_p)
     refine e1_2 (f2.D.seenE N4' hs4) ?_
     intro n4 N4 D4
     clear N4'
     have hnd4 := D4.nd
     have HS4 : SIn w Sx n4 g := H.of fun p hp _ => D4.old _ (.tail _ hp)
     have hval4 := node_at HS4 hco
     have hDm4 := D4.old _ (.tail _ hD)
     (try kd_p)
     refine e2_1 (HS4.node _ hco) ?_
     intro w1 w2 hno4
     have hdi4 := HS4.ndict _ hco
     (try kd_p)
     refine e2_2 (HS4.list _ hco) ?_
     intro us4 un4 hfu4 hli4
     refine e1_1 D4.its ?_
     intro iln4 hTm4
     k_steps
     all_goals (try with_reducible refine ws_out ?_)
     rename (News _ _ _ (_ :: _ :: rep T0 _ _)) => N5'
     rename ∀ p ∈ n4, _ => hI4
     rename _ ∧ AllLt _ n4 => hM4
     (try kd_p)
     refine e1_2 (D4.walkNewE N5' hI4 hM4.1) ?_
     intro n5 N5 D5
     clear N5'
     have hnd5 := (D5 0).nd
     (try kd_p)
     refine e1_2 ((D5 0).idx) ?_
     intro xo5 hxo5 hXm5
     refine e2_2 ((D5 0).stack) ?_
     intro vs5 vn5 hvs5 hSm5
     have hvsl5 : vs5.length ≤ 5 := by rw [hvs5.length, List.length_map, List.length_reverse]; exact hwkl
     have hixl5 : (idxOf 0 (ixOf wk)).length ≤ sizeLine := by rw [idxOf_len, List.length_map, List.length_reverse, sizeLine_eq]; exact Nat.le_trans hwkl (by decide)
     k_steps
     all_goals (try with_reducible refine ws_out ?_)
     rename (News _ _ _ (rep X _ n5)) => N6'
     rename Obj.IsDictOf _ _ (stored (idxOf 0 (ixOf wk)) (fname c) _) => hX6
     have hvl5 : vs5.length = (ixOf wk).length := by rw [hvs5.length, List.length_map, List.length_map]
     have hcw : c ∉ wk.map (·.v) := fun q => hcs ((f2.iff c).mpr (.inl q))
     have hcf : c ∉ fin2 := fun q => hcs ((f2.iff c).mpr (.inr q))
     rw [hvl5, idx_store hwk5 (hlo5 c hco) (fun q => hcw (hixm.mp q))] at hX6
     (try kd_p)
     obtain ⟨tkk, hX7⟩ : ∃ t, Obj.IsDictOf (PySem.strKind PySem.Challenge.rw_ik0081_01.prog w) _ (idxOf 0 (ixOf wk ++ [(c, t)])) := ⟨_, hX6⟩
     refine e1_2 ((D5 tkk).idxE N6' hX7) ?_
     intro n6 N6 D6
     clear N6'
     have hnd6 := D6.nd
     (try kd_p)
     refine e2_2 D6.stack ?_
     intro vs6 vn6 hvs6 hSm6
     have hvsl6 : vs6.length ≤ 5 := by rw [hvs6.length, List.length_map, List.length_reverse]; exact hwkl
     k_steps
     all_goals (try with_reducible refine ws_out ?_)
     rename (News _ _ _ (rep S _ n6)) => N7'
     rename (Fr _ _ _ _) => F7
     rw [List.push_toArray] at N7'
     (try kd_p)
     refine e1_2 (D6.stackE N7' (hvs6.snoc c _)) ?_
     intro n7 N7 D7
     clear N7'
     (try kd_p)
     refine e1_2 (f2.push D7 hco hcs) ?_
     intro q7 f7 hm7
     refine m2 _ ⟨_, _, g₂, n7, _, c, _, c :: sn2, fin2, un2.erase c, rfl, hG2, F7, N7, f7, hjc.elim (fun q => q ▸ .head _) fun q => .tail _ q, ?_⟩
     rw [hn2]; exact hm7
   ·intro s₁ hR0
    (try kd_p)
    refine e10_7 hR0 ?_
    (try clear hR0); intro h3 tk3 g₃ ns3 t3 c3 wk3 sn3 fin3 un3 hz3 hG3 F4 N4 f3 hj3 hm3
    subst hz3
    refine wpAny_execs_cons ?_
    refine while_C (s := s) (Gr (ktrTop dp un gd cn cs L a ccd cl outer) base (envX cn cs L a ccd cl :: outer) (Mine.hd.heap_39 w.params) Mine.hd.view_39 (looseW Mine.hd.view_39 [Str.ofString "_NodeInfo"]) mean mg mb g₀)
     (fun n' (σ : List Wk × List Nat × List Nat × List Nat) ns m₂ => (∃ t c, m₂ = fun z => if z = Str.ofString "node" then some (Value.str (fname c) t) else (if z = Str.ofString "node2stacki" then some (Value.ref X) else if z = Str.ofString "seen" then some (Value.ref Z) else if z = Str.ofString "itstack" then some (Value.ref T0) else if z = Str.ofString "stack" then some (Value.ref S) else if z = Str.ofString "n2i" then some (Value.ref g.D) else List.lookup z [(Str.ofString "self", Value.ref Sx)].reverse)) ∧ FS w g S T0 Z X ((I, o') :: news) ns none σ.1 σ.2.1 σ.2.2.1 σ.2.2.2 (g.ord.take i) ∧ j ∈ σ.2.1 ∧ Wt g.su σ.2.2.2 + Rt g.su (stOf σ.1) ≤ n ∧ n' = σ.1.length)
     _ (wk3, sn3, fin3, un3) rfl hG3 F4 N4 ⟨⟨t3, c3, rfl⟩, f3, hj3, hm3, rfl⟩ ?_
    intro n' hR0 g₄ ns4 m₄ h4 tk4 hR1 hG4 F5 N5 Q3 r3 b3 c3
    (try kd_p)
    obtain ⟨wk4, sn4, fin4, un4⟩ := hR0
    refine e0_5 hR1 ?_
    (try clear hR1); intro hz4 f4 hj4 hm4 hz5
    obtain ⟨t4, c4, rfl⟩ := hz4
    subst hz5
    dsimp only at f4 hj4 hm4 F5
    have B5 := hG4.below
    have X5 := hG4.kin
    have T5 := hG4.top
    (try kd_p)
    refine e2_2 f4.D.stack ?_
    intro vs4 vn4 hvs4 hSm4
    have hnd6 := f4.D.nd
    have hwkl4 : wk4.length ≤ 5 := by
     have := nodup_len 5 ((stOf wk4).map (·.1)) f4.F.nodup fun x hx => hlo5 x (f4.F.stk_ord x hx)
     rw [List.length_map, List.length_map] at this
     exact this
    have hvsl4 : vs4.length ≤ 5 := by rw [hvs4.length, List.length_map, List.length_reverse]; exact hwkl4
    cases wk4 with
    | nil =>
     obtain rfl : vs4 = [] := by cases hvs4; rfl
     (try kd_p)
     k_steps
     all_goals (try with_reducible refine ws_out ?_)
     refine b1 _ ?_
     refine wpAny_execs_nil ?_
     refine c0 _ _ _ g₄ _ _ trivial hG4 F5 N5 f4.D.nd (f4.D.old _ (.head _)) (MapOk.set (.head _) (fun _ _ => rfl)) ⟨sn4, fin4, un4, f4.D.drop (fun p hp => hI p (D0.old p hp)), f4.F, f4.iff, f4.snd, fun x hx => ?_⟩
     rw [htake] at hx
     rcases List.mem_append.mp hx with hx | hx
     ·exact f4.pre x hx
     ·rw [List.mem_singleton.mp hx]
      exact ((f4.iff j).mp hj4).resolve_left fun q => nomatch q
    | cons q wk5 =>
     have hne4 : vs4.isEmpty = false := by
      rw [slOf_cons] at hvs4
      (try kd_p)
      refine e2_2 hvs4.unsnoc ?_
      intro _ _ hz6 _
      subst hz6
      simp
     (try kd_p)
     k_steps
     all_goals (try with_reducible refine ws_out ?_)
     (try kd_p)
     refine e1_1 f4.D.its ?_
     intro iln4 hTm4
     have hil4 : (ilOf (q :: wk5)).map Value.ref = (ilOf wk5).map Value.ref ++ [Value.ref q.mw] := by rw [ilOf_cons, List.map_append]; rfl
     have hll4 : ((ilOf (q :: wk5)).map Value.ref).length = wk5.length + 1 := by rw [hil4, List.length_append, List.length_map, List.length_map, List.length_reverse]; rfl
     have hzj : seqIndex? (-1) ((ilOf (q :: wk5)).map Value.ref).length = some wk5.length := by
      rw [hll4]
      unfold seqIndex?
      simp
      exact o9
     have hzx : ((ilOf (q :: wk5)).map Value.ref)[wk5.length]? = some (Value.ref q.mw) := by
      rw [hil4, List.getElem?_append_right (by simp)]
      simp
     (try kd_p)
     refine e0_3 (f4.D.walk q (.head _)) ?_
     intro hqm hqi _
     have HS5 : SIn w Sx ns4 g := H.of fun p hp _ => f4.D.old _ (.tail _ hp)
     have hqo : q.v ∈ g.ord := f4.F.stk_ord q.v (.head _)
     (try kd_p)
     refine e2_2 (HS5.list _ hqo) ?_
     intro us5 un5 hfu5 hli5
     show wpAny _ _ (exec (.Try _ _ _ [] _) _) _ _ _
     refine wpAny_Try_except ?_
     cases hc5 : (g.su q.v)[q.i]? with
     | some c5 =>
      (try kd_p)
      refine e1_1 (hfu5.get hc5) ?_
      intro tc5 hu5
      (try kd_p)
      k_steps
      all_goals (try with_reducible refine ws_out ?_)
      refine ws_out ?_
      refine' call_mw_item ?zF ?zN hqm hqi hli5 hu5 ?_
      case zF => exact F5
      case zN => exact N5
      intro h6 F6 N6'
      (try kd_p)
      refine e1_2 (f4.D.nextE N6') ?_
      intro n6 N6 D6
      clear N6'
      (try kd_p)
      k_steps
      all_goals (try with_reducible refine ws_out ?_)
      rename (Fr _ _ _ _) => F7
      rename (News _ _ _ n6) => N7
      refine b3 _ ?_
      refine wpAny_execs_nil ?_
      have hR := Rt.next (su := g.su) (stk := stOf wk5) hc5
      refine c1 _ _ _ g₄ _ n6 _ (c5, ⟨q.v, q.i + 1, q.mw, q.it, q.tk⟩ :: wk5, sn4, fin4, un4) trivial hG4 F7 N7 ?_ ⟨⟨tc5, map1⟩, ⟨?_, f4.F.next hc5, f4.iff, f4.snd, f4.pre⟩, .inr hj4, hcl _ hqo _ (List.mem_of_getElem? hc5), rfl⟩
      ·show Wt g.su un4 + Rt g.su ((q.v, q.i + 1) :: stOf wk5) < n
       have hm5 : Wt g.su un4 + Rt g.su ((q.v, q.i) :: stOf wk5) ≤ n := hm4
       exact o20 hR hm5
      ·have z := D6
       rw [slOf_cons, ilOf_cons, ixOf_cons] at z ⊢
       exact z
     | none =>
      have hu5 : us5[q.i]? = none := by
       rw [List.getElem?_eq_none_iff, hfu5.length]
       exact List.getElem?_eq_none_iff.mp hc5
      (try kd_p)
      k_steps
      all_goals (try with_reducible refine ws_out ?_)
      refine ws_out ?_
      refine' call_mw_end ?zH2 ?zF2 ?zN2 hqm hqi hli5 hu5 ?_
      case zH2 => exact rfl
      case zF2 => exact F5
      case zN2 => exact N5
      intro h6 h7 e6 F6 N6' hx6
      show wpAny _ _ (noteFrame _ _) _ _ _
      refine caught_here0 (T' := "StopIteration") hx6 F6 N6' hG4.below XB TB hG4.dicts hG4.turn ?ex PyProof.Rows.Boot.«StopIteration» (by decide) owsi_raise.isExc (by rw [isSubtype_type]; kernel_rfl) isSubtype_stop ?k rfl rfl (by decide)
      case ex => k_is
      intro h8 g5 T5' F8 N8' B8 X8 P8 D8'
      (try kd_p)
      refine e1_4 (f4.D.topE N8') ?_
      intro n6 N6 D6 _ _
      clear N8'
      (try kd_p)
      refine e2_2 D6.stack ?_
      intro vs6 vn6 hvs6 hSm6
      rw [slOf_cons] at hvs6
      (try kd_p)
      refine e2_2 hvs6.unsnoc ?_
      intro us6 tq6 hz7 hus6
      subst hz7
      have hus6l : us6.length ≤ 5 := by
       rw [hus6.length, List.length_map, List.length_reverse]
       rw [List.length_cons] at hwkl4
       exact o128 hwkl4
      have hnd6' := D6.nd
      (try kd_p)
      k_steps
      all_goals (try with_reducible refine ws_out ?_)
      rename (News _ _ _ (rep S _ n6)) => N7'
      (try kd_p)
      refine e1_2 (D6.stackE N7' hus6) ?_
      intro n7 N7 D7
      clear N7'
      (try kd_p)
      refine e1_2 D7.idx ?_
      intro xo7 hxo7 hXm7
      have hnd7 := D7.nd
      have hq5 : q.v < 5 := hlo5 _ hqo
      have hwk7 : ∀ r ∈ ixOf wk5, r.1 < 5 := fun r hr => by
       (try kd_p)
       refine e1_2 (List.mem_map.mp hr) ?_
       intro x hx hz8
       subst hz8
       exact hlo5 _ (f4.F.stk_ord x.v (by rw [stOf_fst]; exact .tail _ (List.mem_map.mpr ⟨x, List.mem_reverse.mp hx, rfl⟩)))
      have hqn : q.v ∉ (ixOf wk5).map (·.1) := fun h => by
       (try kd_p)
       refine e1_2 (List.mem_map.mp h) ?_
       intro y hy e
       refine e1_2 (List.mem_map.mp hy) ?_
       intro x hx hz9
       subst hz9
       have hnn := f4.F.nodup
       rw [stOf_fst] at hnn
       exact (List.nodup_cons.mp hnn).1 (List.mem_map.mpr ⟨x, List.mem_reverse.mp hx, e⟩)
      have hil7 : (valueAt (idxOf 0 (ixOf (q :: wk5))) (fname q.v)).isSome = true := by
       (try kd_p)
       obtain ⟨_, _, _, _, h⟩ := idx_in (l := ixOf (q :: wk5)) (j := q.v) 0 (fun r hr => by
        rw [ixOf_cons] at hr
        rcases List.mem_append.mp hr with hr | hr
        ·exact hwk7 r hr
        ·rw [List.mem_singleton.mp hr]; exact hq5) hq5 (by rw [ixOf_cons, List.map_append]; exact List.mem_append_right _ (.head _))
       rw [h]; rfl
      have hz7 : (idxOf 0 (ixOf (q :: wk5))).length ≤ sizeLine := by
       rw [idxOf_len, List.length_map, List.length_reverse, sizeLine_eq]
       exact Nat.le_trans hwkl4 (by decide)
      k_steps
      all_goals (try with_reducible refine ws_out ?_)
      rename (News _ _ _ (rep X _ n7)) => N8'
      rename Obj.IsDictOf _ _ (without _ _) => hX8
      rw [ixOf_cons, idx_del hwk7 hq5 hqn] at hX8
      (try kd_p)
      refine e1_2 (D7.idxE N8' hX8) ?_
      intro n8 N8 D8
      clear N8'
      (try kd_p)
      refine e1_1 D8.its ?_
      intro iln8 hTm8
      rw [hil4] at hTm8
      have hnd8 := D8.nd
      have hilp : ((ilOf wk5).map Value.ref).length ≤ 5 := by
       rw [List.length_map, List.length_map, List.length_reverse]
       rw [List.length_cons] at hwkl4
       exact o128 hwkl4
      have hilw : wk5.length ≤ 5 := by
       rw [List.length_cons] at hwkl4
       exact o128 hwkl4
      k_steps
      all_goals (try with_reducible refine ws_out ?_)
      rename (News _ _ _ (rep T0 _ n8)) => N9'
      rename (Fr _ _ _ _) => F9
      (try kd_p)
      refine e1_2 (D8.itsE N9') ?_
      intro n9 N9 D9
      clear N9'
      refine c3 _ _ _ g5 _ n9 wk5.length (wk5, sn4, q.v :: fin4, un4) trivial ⟨T5', B8, X8, P8, D8'⟩ F9 N9 (Nat.lt_succ_self _) ⟨⟨t4, c4, rfl⟩, ⟨D9, f4.F.pop hc5, fun x => ?_, f4.snd, fun x hx => .tail _ (f4.pre x hx)⟩, hj4, ?_, rfl⟩
      ·rw [f4.iff x, List.map_cons, List.mem_cons, List.mem_cons]
       constructor
       ·rintro ((h | h) | h)
        ·exact .inr (.inl h)
        ·exact .inl h
        ·exact .inr (.inr h)
       ·rintro (h | h | h)
        ·exact .inl (.inr h)
        ·exact .inl (.inl h)
        ·exact .inr h
      ·have hm5 : Wt g.su un4 + Rt g.su ((q.v, q.i) :: stOf wk5) ≤ n := hm4
       have := Rt.pop (su := g.su) (v := q.v) (i := q.i) (stk := stOf wk5)
       show Wt g.su un4 + Rt g.su (stOf wk5) ≤ n
       exact o24 hm5 this
 ·intro u g₁ news₁ h tk hn hR0 hG F2 N2
  (try kd_p)
  refine e3_1 hR0 ?_
  (try clear hR0); intro sn fin uu f
  have B2 := hG.below
  have X2 := hG.kin
  have T2 := hG.top
  (try kd_p)
  k_steps
  all_goals (try with_reducible refine ws_out ?_)
  refine hQf _ _ ?_
  refine i4_4 g₁ L' _ _ hG.turn F2 N2 (fun h₀' G' F'' N'' => hret _ h₀' _ _ _ G' F'' N'' hn (fun p hp => f.D.old p hp) (.inl ⟨rfl, fin, f.F.topo, f.F.fnd, fun j => ⟨f.F.fin_ord j, fun hj => f.pre j ?_⟩⟩))
  rw [List.length_map, List.take_of_length_le (Nat.le_refl _)]
  exact hj
end
section
variable {Sx : Addr}
local macro_rules | `(tactic| walk_at "call ref") => `(tactic| (k_extra "W36"; intro g' news' h' tk' F' N' P' hab' hm' hs'; (have hsin' := P'.sin); (have hnd' := P'.nd); (have hself' := hsin'.self); (obtain ⟨u3, u4, u5, u6, u7, u8, hdict'⟩ := hsin'.dict); (have hdi' := hsin'.ndict _ hm'); (obtain ⟨u1, u2, hno'⟩ := hsin'.node _ hm'); (obtain ⟨vs', n', hfa', hli'⟩ := hsin'.list _ hm')))
theorem add_code {w : World} {dp un : Nat} {gd : Option (List Code)} {cn : Str} {cs : Scope} {a : Addr} {ccd : Value} {cl : List (Str × Addr)} {outer : List Env} {A₀ : Around} {base h₀ : Heap} {L : Addr} {m : Str → Option Value} {news : List (Addr × Obj)} {s : Shared} {mean : ExcName → Option Value} {mg mb : Str → Option Value} {R : Result → Shared → Prop} (B : Below A₀ base outer h₀) (F : Fr h₀ L s.heap m) (KX : Frag.In (Mine.hd.heap_39 w.params) h₀) (N : News h₀ L s.heap news) (T : Top Mine.hd.view_39 (looseW Mine.hd.view_39 [Str.ofString "_NodeInfo"]) mean mg mb h₀) (hk : cs.kind = .function) {g : G} {k : Nat} {t : Tok} {vs : List Value} {js : List Nat}
  (H : SIn w Sx news g) (hnd : ND news) (hk5 : k < 5) (hjs : ∀ j ∈ js, j < 5) (hvs : FilesAre vs js) (hr : g.rdy = none) (hz : vs.length ≤ 64) (hb : ∀ j, (g.su j).length ≤ 1000)
  (hd : dp + 20 < recursionLimit) (hu : un + 160 < cLine)
  (hret : ∀ g' news' h' tk', Fr h₀ L h' m → News h₀ L h' news' → Post w Sx news g news' g' → g'.ab = g.ab.add k js → Same g g' → R (.ok (.ret .none)) { s with heap := h', toks := tk' }) :
  codeAny (model PySem.Challenge.rw_ik0081_01.prog w) (ktrTop dp un gd cn cs L a ccd cl outer) (.call (.ref 94) ⟨.ref Sx :: .str (fname k) t :: vs, []⟩) R s := by
 k_dflt (refine' code_rest (vs := vs) ?zB ?zF ?zX ?zN ?zT ?zA ?zf ?zk ?zo ?zc ?zr ?zb ?zz ?zl ?_ ?z1 ?z2 ?z3 ?z4)
 case zB => k_asm
 case zF => k_asm
 case zX => k_asm
 case zN => k_asm
 case zT => k_asm
 case zA => exact rfl
 case zf => exact rfl
 case zk => assumption
 case zo => k_is
 case zc => k_is
 case zr => ktr_room
 case zb => exact bind_add rfl rfl rfl rfl
 case zz => exact Nat.le_trans hz (by decide)
 case zl => intro D; exact locs rfl
 case z1 => exact rfl
 case z2 => exact rfl
 case z3 => exact rfl
 case z4 => decide
 intro Dt g₁ L' h₁ tk₁ lt₁ FG' F' N' B' X' T'
 have hn1 : ND ((Dt, ({ cls := .type "tuple", data := .seq vs.toArray } : Obj)) :: news) := hnd.cons lt₁
 have H1 : SIn w Sx ((Dt, ({ cls := .type "tuple", data := .seq vs.toArray } : Obj)) :: news) g := H.of fun p hp _ => .tail _ hp
 have hself := H1.self
 (try kd_p)
 refine e6_1 H1.dict ?_
 intro t1 t2 t3 t4 tp tn hdict
 have hrv : g.rdyV = .none := by unfold G.rdyV; rw [hr]
 rw [hrv] at hdict
 (try dsimp only)
 (try k_lift B')
 (try kd_p)
 have hoD : ¬ Own Sx g Dt := not_own_fresh H lt₁
 k_steps
 all_goals (try kd_p)
 rename (Post w _ _ g _ _) => P1
 have hDt := P1.keep _ (.head _) hoD
 have hDt1 := hDt.1
 k_steps
 all_goals (try kd_p)
 rename (_ ∈ G.ord _) => hm1
 rename (Same g _) => sm1
 rename (G.ab _ = _) => ab1
 rename (News _ _ _ (rep _ _ _)) => N2
 rename (Fr _ _ _ _) => F2
 have P2 := post_np P1 hm1 N2
 refine iter_seq1 (y := Str.ofString "pred_info") (tup := true) (its := vs.toArray) (o := { cls := .type "tuple", data := .seq vs.toArray }) rfl (by rfl) (by rfl)
  (fun i news₁ => ∃ g₁, Post w Sx ((Dt, ({ cls := .type "tuple", data := .seq vs.toArray } : Obj)) :: news) g news₁ g₁ ∧ Same g g₁ ∧ g₁.ab = (js.take i).foldl (fun a j => (a.node j).link j k) ((g.ab.node k).inc k js.length))
  rfl ⟨0, rfl⟩ F2 N2 P2.nd (P2.keep _ (.head _) hoD).1 ?_ ?_ ?_ ?_
 ·intro i news₁ hR0
  (try kd_p)
  refine e1_2 hR0 ?_
  (try clear hR0); intro g₁ P _
  exact (P.keep _ (.head _) hoD).1
 ·refine i1_3 _ P2 ⟨sm1.rdy, sm1.po, sm1.nf⟩ ?_
  rw [List.take_zero, List.foldl_nil, ← ab1]
  simp only [G.ab, Ab.inc, hvs.length]
 ·intro I i v u1 u2 news₁ h tk o' hI hv hn hR0 F₃ N₃
  (try kd_p)
  refine e1_3 hR0 ?_
  (try clear hR0); intro g₁ P hsm hab
  rw [List.getElem?_toArray] at hv
  have hi : i < js.length := by
   rw [← hvs.length]
   exact (List.getElem?_eq_some_iff.mp hv).1
  (try kd_p)
  refine e1_1 (hvs.get (List.getElem?_eq_getElem hi)) ?_
  intro t' ht'
  have hv' := hv.symm.trans ht'
  obtain rfl := Option.some.inj hv'
  have hj5 := hjs _ (List.getElem_mem hi)
  have H3 : SIn w Sx ((I, o') :: news₁) g₁ := P.sin.cons
  have hself3 := H3.self
  (try kd_p)
  refine e6_1 H3.dict ?_
  intro w1 w2 w3 w4 w5 w6 hdict3
  (try kd_p)
  k_steps
  all_goals (try kd_p)
  rename (Post w _ _ g₁ _ _) => P3
  rename (_ ∈ G.ord _) => hm3
  rename (Same g₁ _) => sm3
  rename (G.ab _ = _) => ab3
  rename (FilesAre _ _) => fa3
  rename (News _ _ _ _) => N4
  rename (Fr _ _ _ _) => F4
  rename (ND _) => nd4
  rename ((_, W.listOf _ _) ∈ _) => li3
  k_dflt (refine' append_K ?zF ?zN ?zU ?_ ?zz)
  case zF => k_asm
  case zN => k_asm
  case zU => exact upd_rep nd4 li3
  case zz =>
   have h1 := links_len k js[i] (js.take i) ((g.ab.node k).inc k js.length)
   rw [← hab] at h1
   have h2 := node_su_len g.ab k js[i]
   have h3 := hb js[i]
   have h4 := node_su_len g₁.ab js[i] js[i]
   rw [← ab3] at h4
   have h5 := fa3.length
   have h6 := List.length_take_le i js
   have h7 := hvs.length
   simp only [G.ab, Ab.inc] at h1 h2 h3 h4
   rw [List.size_toArray, sizeLine_eq]
   exact ub1 h5 (Nat.le_trans h4 (Nat.le_trans h1 (ub10 (Nat.le_trans h2 (Nat.le_trans h3 (by decide))) (Nat.le_trans h6 (ub3 hi (ub12 h7 (Nat.le_trans hz (by decide))))))))
  intro h5 F5 N5
  k_steps
  all_goals (try kd_p)
  have P5 := post_su P3 hm3 fa3 N5
  have hI1 : ¬ Own Sx g₁ I := not_own P.sin hn.head
  refine ⟨_, _, _, _, rfl, F5, N5, P5.nd, (P5.keep _ (.head _) hI1).1, ⟨_, _, map2⟩, _, P.trans (P5.drp hn hI1), hsm.trans ⟨sm3.rdy, sm3.po, sm3.nf⟩, ?_⟩
  rw [List.take_add_one, List.getElem?_eq_getElem hi, Option.toList_some, List.foldl_append, ← hab, List.foldl_cons, List.foldl_nil, ← ab3]
  rfl
 ·intro u1 u2 news₁ h tk hn hR0 F₃ N₃
  (try kd_p)
  refine e1_3 hR0 ?_
  (try clear hR0); intro g₁ P hsm hab
  k_steps
  all_goals (try kd_p)
  refine hret g₁ _ _ _ (by k_asm) (by k_asm) P.conv ?_ hsm
  rw [List.size_toArray, hvs.length, List.take_length] at hab
  exact hab
end
section
variable {Sx : Addr}
theorem done_code {w : World} {dp un : Nat} {gd : Option (List Code)} {cn : Str} {cs : Scope} {a : Addr} {ccd : Value} {cl : List (Str × Addr)} {outer : List Env} {A₀ : Around} {base h₀ : Heap} {L : Addr} {m : Str → Option Value} {news : List (Addr × Obj)} {s : Shared} {mean : ExcName → Option Value} {mg mb : Str → Option Value} {Rr : Result → Shared → Prop} (B : Below A₀ base outer h₀) (F : Fr h₀ L s.heap m) (KX : Frag.In (Mine.hd.heap_39 w.params) h₀) (N : News h₀ L s.heap news) (T : Top Mine.hd.view_39 (looseW Mine.hd.view_39 [Str.ofString "_NodeInfo"]) mean mg mb h₀) (hk : cs.kind = .function) {g : G} {R : Addr} {js r0 : List Nat} {vs : List Value}
  (H : SIn w Sx news g) (hnd : ND news) (hr : g.rdy = some (R, r0)) (hz : js.length ≤ 100) (hz0 : r0.length ≤ 1000) (hin : ∀ j ∈ js, j ∈ g.ord) (hvs : FilesAre vs js)
  (hcl : ∀ j ∈ g.ord, ∀ k ∈ g.su j, k ∈ g.ord) (hout : ∀ j ∈ js, g.np j = -1) (hjn : js.Nodup) (hap : ∀ i ∈ js, ∀ j ∈ js, j ∉ g.su i) (hb : ∀ j, (g.su j).length ≤ 1000)
  (hd : dp + 20 < recursionLimit) (hu : un + 160 < cLine)
  (hret : ∀ news' h' tk', Fr h₀ L h' m → News h₀ L h' news' →
   Post w Sx news g news' { g with np := (js.foldl (done1 g.su) (g.np, r0)).1, rdy := some (R, (js.foldl (done1 g.su) (g.np, r0)).2), nf := g.nf + js.length } → Rr (.ok (.ret .none)) { s with heap := h', toks := tk' }) :
  codeAny (model PySem.Challenge.rw_ik0081_01.prog w) (ktrTop dp un gd cn cs L a ccd cl outer) (.call (.ref 127) ⟨.ref Sx :: vs, []⟩) Rr s := by
 k_dflt (refine' code_rest (vs := vs) ?zB ?zF ?zX ?zN ?zT ?zA ?zf ?zk ?zo ?zc ?zr ?zb ?zz ?zl ?_ ?z1 ?z2 ?z3 ?z4)
 case zB => k_asm
 case zF => k_asm
 case zX => k_asm
 case zN => k_asm
 case zT => k_asm
 case zA => exact rfl
 case zf => exact rfl
 case zk => assumption
 case zo => k_is
 case zc => k_is
 case zr => ktr_room
 case zb => exact bind_done rfl rfl rfl
 case zz => rw [hvs.length, sizeLine_eq]; exact Nat.le_trans hz (by decide)
 case zl => intro D; exact locs rfl
 case z1 => exact rfl
 case z2 => exact rfl
 case z3 => exact rfl
 case z4 => decide
 intro Dt g₁ L' h₁ tk₁ lt₁ FG' F' N' B' X' T'
 have hn1 : ND ((Dt, ({ cls := .type "tuple", data := .seq vs.toArray } : Obj)) :: news) := hnd.cons lt₁
 have H1 : SIn w Sx ((Dt, ({ cls := .type "tuple", data := .seq vs.toArray } : Obj)) :: news) g := H.cons
 have hself := H1.self
 (try kd_p)
 refine e6_1 H1.dict ?_
 intro t1 t2 t3 t4 tp tn hdict
 have hrv : g.rdyV = .ref R := by unfold G.rdyV; rw [hr]
 rw [hrv] at hdict
 have hoD : ¬ Own Sx g Dt := not_own_fresh H lt₁
 have hlo : (g.D == sysModules) = false := beq_false_of_ne H.sm
 (try dsimp only)
 (try k_lift B')
 (try kd_p)
 k_steps
 all_goals (try kd_p)
 refine iter_seqN [Str.ofString "node", Str.ofString "nodeinfo", Str.ofString "stat", Str.ofString "successor", Str.ofString "successor_info"] (tup := true) (its := vs.toArray) (o := { cls := .type "tuple", data := .seq vs.toArray }) rfl (by rfl) (by rfl)
  (fun i news₁ => Post w Sx ((Dt, ({ cls := .type "tuple", data := .seq vs.toArray } : Obj)) :: news) g news₁ { g with np := ((js.take i).foldl (done1 g.su) (g.np, r0)).1, rdy := some (R, ((js.take i).foldl (done1 g.su) (g.np, r0)).2), nf := g.nf + i })
  rfl ⟨0, rfl⟩ (by k_asm) (by k_asm) hn1 (.head _) ?_ ?_ ?_ ?_
 ·intro i news₁ P
  exact (P.keep _ (.head _) hoD).1
 ·have e : ({ g with np := g.np, rdy := some (R, r0), nf := g.nf + ((0 : Nat) : Int) } : G) = g := by
   (try kd_p)
   obtain ⟨x1, x2, x3, x4, x5, x6, x7, x8, x9, x10, x11⟩ := g
   simp only at hr
   simp [hr]
  rw [List.take_zero, List.foldl_nil, e]
  exact Post.refl hn1 H1
 ·rintro I i v u news₁ h tk o' hI hv hn P F₃ N₃
  rw [List.getElem?_toArray] at hv
  have hi : i < js.length := by
   rw [← hvs.length]
   exact (List.getElem?_eq_some_iff.mp hv).1
  refine e1_1 (hvs.get (List.getElem?_eq_getElem hi)) ?_
  intro t' ht'
  have hv' := hv.symm.trans ht'
  obtain rfl := Option.some.inj hv'
  refine gen1 ((js.take i).foldl (done1 g.su) (g.np, r0)) ?_
  intro st hst
  have hlen : st.2.length ≤ 102000 := by
   have := dones_len g.su hb (js.take i) (g.np, r0)
   rw [← hst] at this
   have h6 := List.length_take_le i js
   dsimp only at this
   exact o23 this hz0 h6 hi hz
  have hnp : st.1 js[i] = -1 := by
   have hni : js[i] ∉ js.take i := by
    intro hm
    obtain ⟨k, hk, e⟩ := List.mem_iff_getElem.mp hm
    rw [List.length_take] at hk
    rw [List.getElem_take] at e
    have := (List.getElem_inj hjn).mp e
    exact o46 hk this
   rw [hst, dones_off g.su _ _ hni fun i' hi' => hap i' (List.mem_of_mem_take hi') _ (List.getElem_mem hi)]
   exact hout _ (List.getElem_mem hi)
  have hnext : (js.take (i + 1)).foldl (done1 g.su) (g.np, r0) = done1 g.su st js[i] := by
   rw [List.take_add_one, List.getElem?_eq_getElem hi, Option.toList_some, List.foldl_append, ← hst]
   rfl
  rw [← hst] at P
  rw [hnext]
  (try kd_p)
  have H3 : SIn w Sx ((I, o') :: news₁) _ := P.sin.cons
  have hj := hin _ (List.getElem_mem hi)
  have hI1 := not_own P.sin hn.head
  have hval := node_at H3 hj
  (try kd_p)
  refine e1_2 H3.tab ?_
  intro oD hD hDo
  refine e2_1 (H3.node _ hj) ?_
  intro w1 w2 hno
  have hdi := H3.ndict _ hj
  dsimp only at hval hD hDo hno hdi
  rw [hnp] at hno
  (try kd_p)
  k_steps
  all_goals (try kd_p)
  rename (News _ _ _ (rep _ _ _)) => N4'
  rename (Fr _ _ _ _) => F4
  (try kd_p)
  refine e1_3 (post_npE (Post.refl hn H3) hj N4') ?_
  intro n4 N4 P4 _
  clear N4'
  have H4 := P4.sin
  have hn4 := P4.nd
  (try kd_p)
  refine e2_1 (H4.node _ hj) ?_
  intro x1 x2 hno4
  have hdi4 := H4.ndict _ hj
  (try kd_p)
  refine e2_2 (H4.list _ hj) ?_
  intro us un hfu hli4
  dsimp only at hno4 hdi4 hfu hli4
  k_steps
  all_goals (try kd_p)
  refine iter_seqN [Str.ofString "successor", Str.ofString "successor_info"] (tup := false) (its := us.toArray) (o := W.listOf us.toArray un) rfl (by rfl) (by rfl)
   (fun i2 news₂ => Post w Sx n4 { g with np := set1 st.1 js[i] (-2), rdy := some (R, st.2), nf := g.nf + i } news₂
    { g with np := (((g.su js[i]).take i2).foldl hit (set1 st.1 js[i] (-2), st.2)).1, rdy := some (R, (((g.su js[i]).take i2).foldl hit (set1 st.1 js[i] (-2), st.2)).2), nf := g.nf + i } ∧ (g.Lx js[i], W.listOf us.toArray un) ∈ news₂)
   rfl ⟨un, rfl⟩ F4 N4 hn4 hli4 ?_ ?_ ?_ ?_
  ·intro i2 news₂ h
   exact h.2
  ·exact ⟨Post.refl hn4 H4, hli4⟩
  ·intro I2 i2 v2 u2 news₂ h2 tk2 o2 hI2 hv2 hn2 hR0 F5 N5
   refine e0_2 hR0 ?_
   (try clear hR0); intro P5 hli5
   rw [List.getElem?_toArray] at hv2
   have hi2 : i2 < (g.su js[i]).length := by
    rw [← hfu.length]
    exact (List.getElem?_eq_some_iff.mp hv2).1
   refine e1_1 (hfu.get (List.getElem?_eq_getElem hi2)) ?_
   intro t2' ht2'
   have hv2' := hv2.symm.trans ht2'
   obtain rfl := Option.some.inj hv2'
   refine gen1 (((g.su js[i]).take i2).foldl hit (set1 st.1 js[i] (-2), st.2)) ?_
   intro sv hsv
   have hnext2 : ((g.su js[i]).take (i2 + 1)).foldl hit (set1 st.1 js[i] (-2), st.2) = hit sv (g.su js[i])[i2] := by
    rw [List.take_add_one, List.getElem?_eq_getElem hi2, Option.toList_some, List.foldl_append, ← hsv]
    rfl
   have hlen2 : sv.2.length ≤ 103000 := by
    have := hits_len ((g.su js[i]).take i2) (set1 st.1 js[i] (-2), st.2)
    rw [← hsv] at this
    have h6 := List.length_take_le i2 (g.su js[i])
    have h7 := hb js[i]
    dsimp only at this
    exact o17 this hlen h6 hi2 h7
   rw [← hsv] at P5
   rw [hnext2]
   have H6 : SIn w Sx ((I2, o2) :: news₂) _ := P5.sin.cons
   have hI2' := not_own P5.sin hn2.head
   have hk := hcl _ hj _ (List.getElem_mem hi2)
   refine gen1 ((g.su js[i])[i2]) ?_
   intro k hkk
   rw [← hkk] at hk
   (try kd_p)
   rw [← hkk] at F5
   rw [← hkk]
   have hval6 := node_at H6 hk
   (try kd_p)
   refine e1_2 H6.tab ?_
   intro oD6 hD6 hDo6
   refine e2_1 (H6.node _ hk) ?_
   intro y1 y2 hno6
   have hdi6 := H6.ndict _ hk
   dsimp only at hval6 hD6 hDo6 hno6 hdi6
   (try kd_p)
   k_steps
   all_goals (try kd_p)
   rename (News _ _ _ (rep _ _ _)) => N7'
   rename (Fr _ _ _ _) => F7
   (try kd_p)
   refine e1_3 (post_npE (Post.refl hn2 H6) hk N7') ?_
   intro n7 N7 P7 keep7
   clear N7'
   have H7 := P7.sin
   have hn7 := P7.nd
   (try kd_p)
   refine e2_1 (H7.node _ hk) ?_
   intro z1 z2 hno7
   have hdi7 := H7.ndict _ hk
   have hself7 := H7.self
   (try kd_p)
   refine e6_1 H7.dict ?_
   intro r1 r2 r3 r4 rp rn hdict7
   refine e2_2 (H7.ready R _ rfl) ?_
   intro vs7 vn7 hf7 hR7
   have hrv7 : ({ g with np := set1 sv.1 k (sv.1 k - 1), rdy := some (R, sv.2), nf := g.nf + i } : G).rdyV = .ref R := rfl
   dsimp only at hno7 hdi7 hself7 hdict7
   rw [hrv7] at hdict7
   rw [set1_self] at hno7
   have hlx : g.Lx js[i] ≠ R := fun e => H7.apartR R _ rfl _ hj e.symm
   have hlI : (g.Lx js[i], W.listOf us.toArray un) ∈ n7 := by
    refine keep7 _ (.tail _ hli5) fun e => ?_
    (try kd_p)
    refine e2_1 (H6.node _ hk) ?_
    intro _ _ q1
    exact hn2.neC (.tail _ hli5) q1 (by simp [W.listOf]) e
   have fin2 : ∀ {n9 : List (Addr × Obj)} {r9 : List Nat}, Post w Sx ((I2, o2) :: news₂) { g with np := sv.1, rdy := some (R, sv.2), nf := g.nf + i } n9 { g with np := set1 sv.1 k (sv.1 k - 1), rdy := some (R, r9), nf := g.nf + i } → (g.Lx js[i], W.listOf us.toArray un) ∈ n9 →
     r9 = (hit sv k).2 → (I2, o2) ∈ n9 ∧ Post w Sx n4 { g with np := set1 st.1 js[i] (-2), rdy := some (R, st.2), nf := g.nf + i } (drp I2 n9) { g with np := (hit sv k).1, rdy := some (R, (hit sv k).2), nf := g.nf + i } ∧ (g.Lx js[i], W.listOf us.toArray un) ∈ drp I2 n9 := by
    rintro n9 r9 P9 hl9 rfl
    exact i0_3 ((P9.keep _ (.head _) hI2').1) (P5.trans (P9.drp hn2 hI2')) (mem_drp.mpr ⟨hl9, hn2.head _ hli5⟩)
   k_steps
   all_goals (try kd_p)
   ·have hc : sv.1 k - 1 = 0 := by first | assumption | omega
    k_dflt (refine' append_K ?zF ?zN ?zU ?_ ?zz)
    case zF => k_asm
    case zN => k_asm
    case zU => exact upd_rep hn7 hR7
    case zz =>
     have := hf7.length
     rw [List.size_toArray, sizeLine_eq]
     exact ub1 this (Nat.le_trans hlen2 (by decide))
    intro h8 F8 N8'
    (try kd_p)
    refine e1_3 (post_rdyE P7 rfl hf7 N8') ?_
    intro n8 N8 P8 keep8
    clear N8'
    k_steps
    all_goals (try kd_p)
    obtain ⟨y1, y2, y3⟩ := fin2 P8 (keep8 _ hlI hlx) (by unfold hit; dsimp only; rw [if_pos hc])
    refine i4_8 _ _ _ _ rfl (by k_asm) N8 P8.nd y1 ?_ y2 y3
    refine MapOk.set (by simp) (MapOk.set (by simp) MapOk.base)
   ·have hc : ¬ sv.1 k - 1 = 0 := by first | assumption | omega
    (try kd_p)
    obtain ⟨y1, y2, y3⟩ := fin2 P7 hlI (by unfold hit; dsimp only; rw [if_neg hc])
    refine i4_8 _ _ _ _ rfl (by k_asm) N7 P7.nd y1 ?_ y2 y3
    refine MapOk.set (by simp) (MapOk.set (by simp) MapOk.base)
  ·intro u5 n5 h5 tk5 hn5 hR0 F5 N5
   (try kd_p)
   refine e0_2 hR0 ?_
   (try clear hR0); intro P5 hli5
   rw [List.size_toArray, hfu.length, List.take_length] at P5
   have H5 := P5.sin
   have hself5 := H5.self
   (try kd_p)
   refine e6_1 H5.dict ?_
   intro r1 r2 r3 r4 rp rn hdict5
   dsimp only [G.rdyV] at hself5 hdict5
   k_steps
   all_goals (try kd_p)
   rename (News _ _ _ (rep _ _ _)) => N6'
   rename (Fr _ _ _ _) => F6
   (try kd_p)
   refine e1_3 (post_dictE P5 rfl N6') ?_
   intro n6 N6 P6 _
   clear N6'
   have P7 := P4.trans P6
   refine i4_7 _ _ _ _ rfl F6 N6 P6.nd ((P7.keep _ (.head _) hI1).1) ?_ ?_
   ·refine MapOk.sub (fun z hz => ?_) (MapOk.set (by simp) (MapOk.set (by simp) (MapOk.set (by simp) MapOk.base)))
    simp only [List.mem_cons, List.not_mem_nil, or_false] at hz ⊢
    rcases hz with hz | hz <;> simp [hz]
   ·have e2 : (g.nf + (i : Int) + 1) = g.nf + ((i + 1 : Nat) : Int) := by exact o80
    rw [e2] at P7
    exact P.trans (P7.drp hn hI1)
 ·rintro u5 n5 h5 tk5 hn5 P5 F5 N5
  rw [List.size_toArray, hvs.length, List.take_length] at P5
  k_steps
  all_goals (try kd_p)
  exact hret _ _ _ (by k_asm) (by k_asm) P5.conv
end
section
local macro_rules | `(tactic| walk_at "exec While") => `(tactic| k_extra "W23")
local macro_rules | `(tactic| walk_at "last exec While") => `(tactic| k_extra "W23")
local macro_rules | `(tactic| walk_at "exec Try") => `(tactic| k_extra "W24")
section
theorem more_dec {x : Nat} (h : x > 63) : x / 64 < x := Nat.div_lt_self (Nat.lt_of_lt_of_le (by decide) h) (by decide)
noncomputable def more : Nat → List Nat := WellFounded.fix Nat.lt_wfRel.wf fun x rec => if h : x > 63 then (x / 64 % 64 + 64) :: rec (x / 64) (more_dec h) else []
noncomputable def figs (x : Nat) : List Nat := (x % 64) :: more x
noncomputable def octs (x : Nat) : List Nat := (figs x).reverse
noncomputable abbrev nums (l : List Nat) : List Int := l.map Int.ofNat
theorem more_go {x : Nat} (h : x > 63) : more x = (x / 64 % 64 + 64) :: more (x / 64) := by
 show WellFounded.fix _ _ x = _
 rw [WellFounded.fix_eq, dif_pos h]
 rfl
theorem more_end {x : Nat} (h : ¬ x > 63) : more x = [] := by
 show WellFounded.fix _ _ x = _
 rw [WellFounded.fix_eq, dif_neg h]
theorem fr_map {h₀ h : Heap} {L : Addr} {m m' : Str → Option Value} (F : Fr h₀ L h m) (e : ∀ y, m y = m' y) : Fr h₀ L h m' := (funext e : m = m') ▸ F
theorem news_drop2 {h₀ h : Heap} {L : Addr} {a b : Addr × Obj} {l : List (Addr × Obj)} (N : News h₀ L h (a :: b :: l)) : News h₀ L h (a :: l) := fun p hp => N p (by
 rcases List.mem_cons.mp hp with rfl | hp
 ·exact .head _
 ·exact .tail _ (.tail _ hp))
theorem fmod64 (n : Nat) : Int.fmod (n : Int) 64 = ((n % 64 : Nat) : Int) := by
 rw [Int.fmod_eq_emod_of_nonneg _ (by decide)]; rfl
theorem fdiv64 (n : Nat) : Int.fdiv (n : Int) 64 = ((n / 64 : Nat) : Int) := by
 rw [Int.fdiv_eq_ediv_of_nonneg _ (by decide)]; rfl
theorem octets_spec {w : World} {dp un : Nat} {gd : Option (List Code)} {cn : Str} {cs : Scope} {a : Addr} {ccd : Value} {cl : List (Str × Addr)} {outer : List Env} {A₀ : Around} {base h₀ : Heap} {L : Addr} {m : Str → Option Value} {news : List (Addr × Obj)} {s : Shared} {mean : ExcName → Option Value} {mg mb : Str → Option Value} {Q E : Value → Shared → Prop} (B : Below A₀ base outer h₀) (F : Fr h₀ L s.heap m) (KX : Frag.In (Mine.hd.heap_39 w.params) h₀) (N : News h₀ L s.heap news) (T : Top Mine.hd.view_39 (looseW Mine.hd.view_39 [Str.ofString "_NodeInfo"]) mean mg mb h₀) (hk : cs.kind = .function) {x : Nat} {t : Tok} (hx : x < 1000000)
  (hd : dp + 10 < recursionLimit) (hu : un + 80 < cLine)
  (hret : ∀ D vs k h' tk', Fr h₀ L h' m → News h₀ L h' ((D, W.listOf vs.toArray k) :: news) → (∀ p ∈ news, p.1 < D) → IntsAre vs (nums (octs x)) → Q (.ref D) { s with heap := h', toks := tk' }) :
  wpAny (model PySem.Challenge.rw_ik0081_01.prog w) (ktrTop dp un gd cn cs L a ccd cl outer) (call (.ref 268) [.int x t]) Q E s := by
 refine wpAny_call ?_
 k_dflt k_enter
 k_steps
 rename_i D _ l1 _ F1 N1
 all_goals (try kd_p)
 rw [fmod64] at N1
 rename Below _ _ _ _ => B1
 show wpAny _ _ (exec (.While _ _ _ _) _) _ _ _
 refine while_G (s := s) (fun g => g = _) (fun n (σ : Nat × List Nat) nw m₂ => ∃ vs k t, nw = (D, W.listOf vs.toArray k) :: news ∧ IntsAre vs (nums σ.2) ∧ σ.2 ++ more σ.1 = figs x ∧ σ.2.length + n ≤ 1000001 ∧ n = σ.1 ∧
  m₂ = fun y => if y = Str.ofString "number" then some (.int (σ.1 : Int) t) else if y = Str.ofString "figures" then some (.ref D) else none) x (x, [x % 64]) rfl rfl (fr_map F1 ?_) N1 (i3_6 _ 0 t rfl (.cons _ _ .nil) rfl ?_ rfl rfl) ?_
 ·intro y
  by_cases h : y = Str.ofString "number"
  ·subst h; rfl
  ·simp only [if_neg h]
   by_cases h2 : y = Str.ofString "figures"
   ·simp only [if_pos h2]
   ·simp only [if_neg h2]
    show List.lookup y [(Str.ofString "number", _)] = none
    rw [List.lookup_cons, beq_false_of_ne h]; rfl
 ·simp only [List.length_cons, List.length_nil]; exact o87 hx
 intro n hR0 g nw m₂ h tk hR1 hR2 F2 N2
 (try kd_p)
 obtain ⟨x', acc⟩ := hR0
 refine e3_6 hR1 ?_
 (try clear hR1); intro vs k t' hz1 hvs hfig hlen hz2 hz3
 subst hz1
 subst hz2
 subst hz3
 obtain rfl := hR2
 dsimp only at hvs hfig hlen F2
 have hvl := hvs.length
 rw [List.length_map] at hvl
 (try kd_p)
 k_steps
 all_goals (try kd_p)
 ·have hn : n > 63 := by exact o122 ‹_›
  rename (News g _ _ ((D, W.listOf (Array.push _ _) _) :: news)) => N3
  rename (Fr g _ _ _) => F3
  rw [fdiv64, fmod64] at N3
  rw [fdiv64] at F3
  rw [more_go hn] at hfig
  rw [List.push_toArray] at N3
  refine turnG_w (g' := g) (n' := n / 64) (σ' := (n / 64, acc ++ [n / 64 % 64 + 64])) rfl F3 N3 ?_ (i3_6 _ (k + 1) _ rfl ?_ ?_ ?_ rfl map1)
  ·exact o21 ‹_›
  ·rw [nums, List.map_append]
   exact hvs.append (.cons _ _ .nil)
  ·rw [List.append_assoc]; exact hfig
  ·simp only [List.length_append, List.length_cons, List.length_nil]; exact o104 ‹_› ‹_›
 ·have hn : ¬ n > 63 := by exact fun hom => o138 ‹_› hom
  rw [more_end hn, List.append_nil] at hfig
  rename _ ∧ AllLt _ news => l3
  rename IntsAre _ (nums acc).reverse => hI
  rename (Fr h₀ L _ _) => F4
  rename (News h₀ L _ _) => N4
  refine hret _ _ _ _ _ F4 (news_drop2 N4) (allLt_mem l3.2) ?_
  ·rw [octs, ← hfig, nums, List.map_reverse]
   exact hI
end
section
local macro_rules | `(tactic| walk_at "call builtin:next") => `(tactic| k_extra "W37")
theorem and63 : ∀ b < 128, Builtin.bitAnd ((b : Nat) : Int) 63 = ((b % 64 : Nat) : Int) := by decide +kernel
theorem and64 : ∀ b < 128, Builtin.bitAnd ((b : Nat) : Int) 64 = if b < 64 then 0 else 64 := by decide +kernel
theorem lk1 (y a : Str) (v : Value) : List.lookup y [(a, v)] = if y = a then some v else none := by
 rw [List.lookup_cons, List.lookup_nil]
 by_cases h : y = a
 ·rw [if_pos h, h, beq_self_eq_true]
 ·rw [if_neg h, beq_false_of_ne h]
theorem lkm2 {A B C : Str} {a b : Option Value} {c : Value} : (fun y => if y = A then a else if y = B then b else List.lookup y [(C, c)]) = fun y => if y = A then a else if y = B then b else if y = C then some c else none := by
 funext y
 rw [lk1]
noncomputable def pv (v b : Nat) : List Nat → Option (Nat × List Nat)
 | [] => if b < 64 then some (v, []) else none
 | b' :: r => if b < 64 then some (v, b' :: r) else pv (v * 64 + b' % 64) b' r
theorem pv_le : ∀ {r r' : List Nat} {v b x : Nat}, pv v b r = some (x, r') → v ≤ x
 | [], r', v, b, x, h => by
  unfold pv at h
  split at h
  ·cases h; exact Nat.le_refl _
  ·cases h
 | c :: r, r', v, b, x, h => by
  unfold pv at h
  split at h
  ·cases h; exact Nat.le_refl _
  ·have := pv_le h
   exact o36 this
theorem rep_rep {a : Addr} {o o' : Obj} : ∀ {l : List (Addr × Obj)}, rep a o' (rep a o l) = rep a o' l
 | [] => rfl
 | p :: r => by
  show (if (if p.1 = a then (a, o) else p).1 = a then (a, o') else (if p.1 = a then (a, o) else p)) :: rep a o' (rep a o r) = (if p.1 = a then (a, o') else p) :: rep a o' r
  rw [rep_rep]
  by_cases h : p.1 = a
  ·simp only [if_pos h, if_true]
  ·simp only [if_neg h]
theorem or64 (v d : Nat) (h : d < 64) : Builtin.bitOr ((v : Int) * 64) (d : Int) = ((v * 64 + d : Nat) : Int) := by
 have e : ((v : Int) * 64) = ((v * 64 : Nat) : Int) := by exact o137
 rw [e, bitOr_and, bitAnd_pp (Int.natCast_nonneg _) (Int.natCast_nonneg _)]
 have h2 : (v * 64 &&& d) = 0 := by
  apply Nat.eq_of_testBit_eq
  intro i
  rw [Nat.testBit_and, Nat.zero_testBit]
  by_cases hi : i < 6
  ·have : v * 64 = 2 ^ 6 * v := by exact Nat.mul_comm _ _
   rw [this, Nat.testBit_two_pow_mul, decide_eq_false (by exact fun hom => o135 hi hom), Bool.false_and, Bool.false_and]
  ·rw [Nat.testBit_lt_two_pow (x := d) (Nat.lt_of_lt_of_le (show d < 2 ^ 6 by (exact Nat.lt_of_lt_of_le h (by decide))) (Nat.pow_le_pow_right (by decide) (by exact Nat.le_of_not_lt hi))), Bool.and_false]
 simp only [Int.toNat_natCast, h2]
 exact o131
theorem or64' (v d : Nat) (h : d < 64) : Builtin.bitOr ((v : Int) * 2 ^ Int.toNat 6) (d : Int) = ((v * 64 + d : Nat) : Int) := by
 rw [show ((2 : Int) ^ Int.toNat 6) = 64 by decide]
 exact or64 v d h
theorem map3v {A B : Str} {a b a1 a2 b1 : Option Value} {m : Str → Option Value} : (fun y => if y = A then a else if y = B then b else if y = A then a1 else if y = A then a2 else if y = B then b1 else m y) = fun y => if y = A then a else if y = B then b else m y := by
 funext y
 by_cases h1 : y = A
 ·simp only [if_pos h1]
 ·by_cases h2 : y = B
  ·simp only [if_neg h1, if_pos h2]
  ·simp only [if_neg h1, if_neg h2]
theorem parse_spec {w : World} {dp un : Nat} {gd : Option (List Code)} {cn : Str} {cs : Scope} {a : Addr} {ccd : Value} {cl : List (Str × Addr)} {outer : List Env} {A₀ : Around} {base h₀ : Heap} {L : Addr} {m : Str → Option Value} {news : List (Addr × Obj)} {s : Shared} {mean : ExcName → Option Value} {mg mb : Str → Option Value} {Q E : Value → Shared → Prop} (B : Below A₀ base outer h₀) (F : Fr h₀ L s.heap m) (KX : Frag.In (Mine.hd.heap_39 w.params) h₀) (N : News h₀ L s.heap news) (T : Top Mine.hd.view_39 (looseW Mine.hd.view_39 [Str.ofString "_NodeInfo"]) mean mg mb h₀) (hk : cs.kind = .function) {I l : Addr} {i kl b x : Nat} {vs : List Value} {os r r' : List Nat}
  (hnd : ND news) (hI : (I, liObj l i) ∈ news) (hl : (l, W.listOf vs.toArray kl) ∈ news) (hvs : IntsAre vs (nums os)) (h128 : ∀ o ∈ os, o < 128) (hos : os.drop i = b :: r) (hx : pv (b % 64) b r = some (x, r')) (hz : os.length ≤ 1000) (hxb : x < 1000000)
  (hd : dp + 10 < recursionLimit) (hu : un + 80 < cLine)
  (hret : ∀ t h' tk', Fr h₀ L h' m → News h₀ L h' (rep I (liObj l (os.length - r'.length)) news) → Q (.int x t) { s with heap := h', toks := tk' }) :
  wpAny (model PySem.Challenge.rw_ik0081_01.prog w) (ktrTop dp un gd cn cs L a ccd cl outer) (call (.ref 28) [.ref I]) Q E s := by
 have hb : os[i]? = some b := by
  have := congrArg (·[0]?) hos
  simpa using this
 have hbv : ∃ t, vs[i]? = some (.int (b : Int) t) := hvs.get i b (by rw [List.getElem?_map, hb]; rfl)
 (try kd_p)
 refine e1_1 hbv ?_
 (try clear hbv); intro t0 hbv
 have hb1 : b < 128 := h128 b (List.mem_of_getElem? hb)
 refine wpAny_call ?_
 k_dflt k_enter
 k_steps
 rename_i F1 N1
 all_goals (try kd_p)
 rename Below _ _ _ _ => B1
 rw [and63 b hb1] at F1
 show wpAny _ _ (exec (.While _ _ _ _) _) _ _ _
 refine while_G (s := s) (fun g => g = _) (fun n (σ : Nat × Nat × List Nat) nw m₂ => ∃ t1 t2, nw = rep I (liObj l (os.length - σ.2.2.length)) news ∧ os.drop (os.length - σ.2.2.length) = σ.2.2 ∧ σ.2.2.length ≤ os.length ∧ pv σ.1 σ.2.1 σ.2.2 = some (x, r') ∧ σ.2.1 < 128 ∧ n = σ.2.2.length ∧
  m₂ = fun y => if y = Str.ofString "val" then some (.int (σ.1 : Int) t1) else if y = Str.ofString "b" then some (.int (σ.2.1 : Int) t2) else if y = Str.ofString "iterator" then some (.ref I) else none) r.length (b % 64, b, r) rfl rfl F1 N1 (i2_7 _ _ ?_ ?_ ?_ hx hb1 rfl lkm2) ?_
 ·have hl := congrArg List.length hos
  rw [List.length_drop, List.length_cons] at hl
  show _ = rep I (liObj l (os.length - r.length)) news
  rw [show os.length - r.length = i + 1 by (exact o4 hl)]
 ·have hl := congrArg List.length hos
  rw [List.length_drop, List.length_cons] at hl
  show os.drop (os.length - r.length) = r
  rw [show os.length - r.length = i + 1 by (exact o4 hl), ← List.drop_drop, hos]
  rfl
 ·have hl := congrArg List.length hos
  rw [List.length_drop, List.length_cons] at hl
  show r.length ≤ os.length
  exact o53 hl
 intro n hR0 g nw m₂ h tk hR1 hR2 F2 N2
 (try kd_p)
 obtain ⟨v, c, q⟩ := hR0
 refine e2_7 hR1 ?_
 (try clear hR1); intro t1 t2 hz1 hdr hql hpv hc hz2 hz3
 subst hz1
 subst hz2
 subst hz3
 obtain rfl := hR2
 dsimp only at hdr hql hpv hc F2 N2
 have hvx := pv_le hpv
 have hI2 : (I, liObj l (os.length - q.length)) ∈ rep I (liObj l (os.length - q.length)) news := mem_rep_self hI
 have hl2 : (l, W.listOf vs.toArray kl) ∈ rep I (liObj l (os.length - q.length)) news := mem_rep_ne hl (hnd.neC hl hI (by simp [W.listOf]))
 by_cases hc64 : c < 64
 ·(try kd_p)
  obtain ⟨rfl, rfl⟩ : v = x ∧ q = r' := by
   cases q <;> simp [pv, hc64] at hpv <;> exact ⟨hpv.1, by rw [hpv.2]⟩
  have ha : Builtin.bitAnd (c : Int) 64 = 0 := by rw [and64 c hc, if_pos hc64]
  (try kd_p)
  k_steps
  all_goals (try kd_p)
  ·exfalso; omega
  ·rename (Fr h₀ L _ _) => F4
   rename (News h₀ L _ _) => N4
   exact hret _ _ _ F4 N4
 ·cases q with
  | nil => simp [pv, hc64] at hpv
  | cons c' q =>
   simp only [pv, if_neg hc64] at hpv
   have ha : Builtin.bitAnd (c : Int) 64 = 64 := by rw [and64 c hc, if_neg hc64]
   rw [List.length_cons] at *
   have hj : os[os.length - (q.length + 1)]? = some c' := by
    have := congrArg (·[0]?) hdr
    simpa using this
   have hc' : c' < 128 := h128 c' (List.mem_of_getElem? hj)
   (try kd_p)
   first | refine e1_1 (hvs.get (os.length - (q.length + 1)) c' (by rw [List.getElem?_map, hj]; rfl)) ?_ | refine e0_2 (hvs.get (os.length - (q.length + 1)) c' (by rw [List.getElem?_map, hj]; rfl)) ?_
   intro tc hcv
   (try kd_p)
   k_steps
   all_goals (try kd_p)
   ·rename (Fr g _ _ _) => F3
    rename (News g _ _ _) => N3
    rw [rep_rep] at N3
    rw [and63 c' hc', or64' v _ (Nat.mod_lt _ (by decide))] at F3
    refine turnG_w (g' := g) (n' := q.length) (σ' := (v * 64 + c' % 64, c', q)) rfl F3 N3 (Nat.lt_succ_self _) (i2_7 _ _ ?_ ?_ ?_ hpv hc' rfl map3v)
    ·rw [show os.length - (q.length + 1) + 1 = os.length - q.length by (exact Eq.symm (o123 hql))]
    ·show os.drop (os.length - q.length) = q
     rw [show os.length - q.length = os.length - (q.length + 1) + 1 by (exact o123 hql), ← List.drop_drop, hdr]
     rfl
    ·show q.length ≤ os.length
     exact o128 hql
   ·exfalso; exact o149 ‹_› ‹_›
end
section
theorem parse_end {w : World} {dp un : Nat} {gd : Option (List Code)} {cn : Str} {cs : Scope} {a : Addr} {ccd : Value} {cl : List (Str × Addr)} {outer : List Env} {A₀ : Around} {base h₀ : Heap} {L : Addr} {m : Str → Option Value} {news : List (Addr × Obj)} {s : Shared} {mean : ExcName → Option Value} {mg mb : Str → Option Value} {Q E : Value → Shared → Prop} (B : Below A₀ base outer h₀) (F : Fr h₀ L s.heap m) (KX : Frag.In (Mine.hd.heap_39 w.params) h₀) (N : News h₀ L s.heap news) (T : Top Mine.hd.view_39 (looseW Mine.hd.view_39 [Str.ofString "_NodeInfo"]) mean mg mb h₀) (hk : cs.kind = .function) {I l : Addr} {i kl : Nat} {vs : List Value}
  (hnd : ND news) (hI : (I, liObj l i) ∈ news) (hl : (l, W.listOf vs.toArray kl) ∈ news) (hi : vs[i]? = none)
  (hd : dp + 10 < recursionLimit) (hu : un + 80 < cLine)
  (hexc : ∀ G e t ws h' tk', Fr h₀ L G m → RaisedS base G (envX cn cs L a ccd cl :: outer) e (.type "StopIteration") t ws (rep I (liDone i) news) h' → G.UpToSlots h' → E (.ref e) { s with heap := h', toks := tk' }) :
  wpAny (model PySem.Challenge.rw_ik0081_01.prog w) (ktrTop dp un gd cn cs L a ccd cl outer) (call (.ref 28) [.ref I]) Q E s := by
 refine wpAny_call ?_
 k_dflt k_enter
 k_steps
 all_goals (try kd_p)
 refine' next_end ?zH ?zF ?zN hI hl hi ?_
 case zH => exact rfl
 case zF => k_asm
 case zN => k_asm
 intro h1 h2 e1 F2 N2 x2
 rename Below _ _ (envX cn cs L a ccd cl :: outer) _ => B1
 rename (Fr h₀ L _ m) => FG1
 show wpAny _ _ (leaving _ _) _ _ _
 refine' leave_raiseS B1 (Heap.MadeExc.of x2) F2 N2 ?_
 intro h3 t S3 R3 U3
 exact hexc _ _ _ _ _ _ FG1 S3 U3
end
end
end
section
local macro_rules | `(tactic| walk_at "eval ListComp") => `(tactic| k_extra "W38")
local macro_rules | `(tactic| walk_at "eval ListComp") => `(tactic| k_extra "W39")
local macro_rules | `(tactic| walk_at "exec Assign cons ListComp") => `(tactic| k_extra "W40")
local macro_rules | `(tactic| walk_at "exec Assign cons ListComp") => `(tactic| k_extra "W41")
local macro_rules | `(tactic| walk_at "call builtin:len") => `(tactic| k_extra "W42")
section
local macro_rules | `(tactic| walk_at "call builtin:issubclass") => `(tactic| k_extra "W43")
theorem fspath_spec {w : World} {dp un : Nat} {gd : Option (List Code)} {cn : Str} {cs : Scope} {a : Addr} {ccd : Value} {cl : List (Str × Addr)} {outer : List Env} {A₀ : Around} {base h₀ : Heap} {L : Addr} {m : Str → Option Value} {news : List (Addr × Obj)} {s : Shared} {mean : ExcName → Option Value} {mg mb : Str → Option Value} {Q E : Value → Shared → Prop} (B : Below A₀ base outer h₀) (F : Fr h₀ L s.heap m) (KX : Frag.In (Mine.hd.heap_39 w.params) h₀) (N : News h₀ L s.heap news) (T : Top Mine.hd.view_39 (looseW Mine.hd.view_39 [Str.ofString "_NodeInfo"]) mean mg mb h₀) (hk : cs.kind = .function) {x : Str} {t : Tok}
  (hd : dp + 10 < recursionLimit) (hu : un + 80 < cLine)
  (hret : ∀ h' tk', Fr h₀ L h' m → News h₀ L h' news → Q (.str x t) { s with heap := h', toks := tk' }) :
  wpAny (model PySem.Challenge.rw_ik0081_01.prog w) (ktrTop dp un gd cn cs L a ccd cl outer) (call (.ref 221) [.str x t]) Q E s := by
 refine wpAny_call ?_
 k_dflt k_enter
 k_steps
 all_goals (try kd_p)
 rename (Fr h₀ L _ _) => F4
 rename (News h₀ L _ _) => N4
 exact hret _ _ F4 (fun p hp => N4 p (.tail _ hp))
end
section
local macro_rules | `(tactic| walk_at "exec Try") => `(tactic| k_extra "W24")
local macro_rules | `(tactic| walk_at "last exec Try") => `(tactic| k_extra "W24")
local macro_rules | `(tactic| walk_at "call ref") => `(tactic| k_extra "W44")
noncomputable def joinS (a b : Str) : Str := if Txt.startswith b (Str.ofString "/") = true then b else if a.length = 0 then b else if Txt.endswith a (Str.ofString "/") = true then a ++ b else a ++ (Str.ofString "/" ++ b)
theorem join_spec {w : World} {dp un : Nat} {gd : Option (List Code)} {cn : Str} {cs : Scope} {a : Addr} {ccd : Value} {cl : List (Str × Addr)} {outer : List Env} {A₀ : Around} {base h₀ : Heap} {L : Addr} {m : Str → Option Value} {news : List (Addr × Obj)} {s : Shared} {mean : ExcName → Option Value} {mg mb : Str → Option Value} {Q E : Value → Shared → Prop} (B : Below A₀ base outer h₀) (F : Fr h₀ L s.heap m) (KX : Frag.In (Mine.hd.heap_39 w.params) h₀) (N : News h₀ L s.heap news) (T : Top Mine.hd.view_39 (looseW Mine.hd.view_39 [Str.ofString "_NodeInfo"]) mean mg mb h₀) (hk : cs.kind = .function) {x y : Str} {t1 t2 : Tok} (hx : x.length ≤ 100) (hy : y.length ≤ 100) (hnd : ND news)
  (hd : dp + 30 < recursionLimit) (hu : un + 240 < cLine)
  (hret : ∀ t h' tk', Fr h₀ L h' m → News h₀ L h' news → Q (.str (joinS x y) t) { s with heap := h', toks := tk' }) :
  wpAny (model PySem.Challenge.rw_ik0081_01.prog w) (ktrTop dp un gd cn cs L a ccd cl outer) (call (.ref 242) [.str x t1, .str y t2]) Q E s := by
 refine wpAny_call ?_
 k_dflt (refine' code_rest (vs := [.str y t2]) ?zB ?zF ?zX ?zN ?zT ?zA ?zf ?zk ?zo ?zc ?zr ?zb ?zz ?zl ?_ ?z1 ?z2 ?z3 ?z4)
 case zB => k_asm
 case zF => k_asm
 case zX => k_asm
 case zN => k_asm
 case zT => k_asm
 case zA => exact rfl
 case zf => exact rfl
 case zk => assumption
 case zo => k_is
 case zc => k_is
 case zr => ktr_room
 case zb => exact bind_join rfl rfl rfl
 case zz => exact Nat.le_trans (show 1 ≤ 64 by decide) (by decide)
 case zl => intro D; exact locs rfl
 case z1 => exact rfl
 case z2 => exact rfl
 case z3 => exact rfl
 case z4 => decide
 intro Dt g₁ L' h₁ tk₁ lt₁ FG' F' N' B' X' T'
 (try dsimp only)
 (try k_lift B')
 (try kd_p)
 k_steps
 all_goals (try kd_p)
 show wpAny _ _ (exec (.Try _ _ _ [] _) _) _ _ _
 refine wpAny_Try_except ?_
 (try kd_p)
 k_steps
 all_goals (try kd_p)
 rename (News g₁ L' _ _) => N1
 have hn1 : ND ((Dt, ({ cls := .type "tuple", data := .seq [Value.str y t2].toArray } : Obj)) :: news) := hnd.cons lt₁
 refine For_led ?_ (by with_unfolding_all (intro _; rfl))
 k_steps
 all_goals (try kd_p)
 rename (Fr g₁ L' _ _) => F1'
 (try kd_p)
 obtain ⟨m0, em, F1⟩ : ∃ m0, m0 = _ ∧ Fr g₁ L' _ m0 := ⟨_, rfl, F1'⟩
 clear F1'
 refine iter_seqT (x := Str.ofString "b") (tup := true) (its := [Value.str y t2].toArray) (o := { cls := .type "tuple", data := .seq [Value.str y t2].toArray }) rfl (by rfl) (by rfl)
  (fun i m₁ nw => nw = ((Dt, ({ cls := .type "tuple", data := .seq [Value.str y t2].toArray } : Obj)) :: news) ∧ (i = 0 → m₁ = m0) ∧ (i = 1 → ∃ (t : Tok) (m' : Str → Option Value), m₁ = fun z => if z = Str.ofString "path" then some (.str (joinS x y) t) else m' z))
  rfl ⟨0, rfl⟩ F1 N1 hn1 (.head _) (by rintro i m₁ nw ⟨rfl, _⟩; exact .head _) ⟨rfl, fun _ => rfl, fun h => absurd h (by decide)⟩ ?_ ?_
 ·intro I i v m₁ nw h tk o' hI hv hn hR0 F2 N2
  (try kd_p)
  refine e0_3 hR0 ?_
  (try clear hR0); intro hz1 hm0 _
  subst hz1
  rw [List.getElem?_toArray] at hv
  cases i with
  | succ i => simp at hv
  | zero =>
   cases hv
   have hm0 := hm0 rfl
   subst hm0
   subst em
   (try kd_p)
   k_steps
   all_goals (try kd_p)
   ·rename Txt.startswith y _ = true => hs
    rename (Fr g₁ L' _ _) => F3
    rename (News g₁ L' _ _) => N3
    refine i4_8 _ _ _ _ rfl F3 N3 hn (.head _) (drp_cons hn.head) (fun h => absurd h (by decide)) (fun _ => by rw [joinS, if_pos hs]; exact ⟨_, _, rfl⟩)
   ·rename Txt.startswith y _ = false => hs
    rename Txt.endswith x _ = true => he
    have hl : ¬ x.length = 0 := by exact fun hom => o13 ‹_› hom
    rename (Fr g₁ L' _ _) => F3
    rename (News g₁ L' _ _) => N3
    refine i4_8 _ _ _ _ rfl F3 N3 hn (.head _) (drp_cons hn.head) (fun h => absurd h (by decide)) (fun _ => by rw [joinS, if_neg (by rw [hs]; decide), if_neg hl, if_pos he]; exact ⟨_, _, rfl⟩)
   ·rename Txt.startswith y _ = false => hs
    rename Txt.endswith x _ = false => he
    have hl : ¬ x.length = 0 := by exact fun hom => o13 ‹_› hom
    rename (Fr g₁ L' _ _) => F3
    rename (News g₁ L' _ _) => N3
    refine i4_8 _ _ _ _ rfl F3 N3 hn (.head _) (drp_cons hn.head) (fun h => absurd h (by decide)) (fun _ => by rw [joinS, if_neg (by rw [hs]; decide), if_neg hl, if_neg (by rw [he]; decide)]; exact ⟨_, _, rfl⟩)
   ·rename Txt.startswith y _ = false => hs
    have hl : x.length = 0 := by exact o126 ‹_›
    rename (Fr g₁ L' _ _) => F3
    rename (News g₁ L' _ _) => N3
    refine i4_8 _ _ _ _ rfl F3 N3 hn (.head _) (drp_cons hn.head) (fun h => absurd h (by decide)) (fun _ => by rw [joinS, if_neg (by rw [hs]; decide), if_pos hl]; exact ⟨_, _, rfl⟩)
 ·intro m₁ nw h tk hn hR0 F2 N2
  (try kd_p)
  refine e0_3 hR0 ?_
  (try clear hR0); intro hz2 _ hm1
  subst hz2
  refine e2_1 (hm1 rfl) ?_
  intro t m' hz3
  subst hz3
  (try kd_p)
  k_steps
  all_goals (try kd_p)
  rename (Fr h₀ L _ _) => F4
  rename (News h₀ L _ _) => N4
  exact hret _ _ _ F4 (fun p hp => N4 p (.tail _ hp))
end
section
local macro_rules | `(tactic| walk_at "call ref") => `(tactic| k_extra "W44")
theorem splitroot_spec {w : World} {dp un : Nat} {gd : Option (List Code)} {cn : Str} {cs : Scope} {a : Addr} {ccd : Value} {cl : List (Str × Addr)} {outer : List Env} {A₀ : Around} {base h₀ : Heap} {L : Addr} {m : Str → Option Value} {news : List (Addr × Obj)} {s : Shared} {mean : ExcName → Option Value} {mg mb : Str → Option Value} {Q E : Value → Shared → Prop} (B : Below A₀ base outer h₀) (F : Fr h₀ L s.heap m) (KX : Frag.In (Mine.hd.heap_39 w.params) h₀) (N : News h₀ L s.heap news) (T : Top Mine.hd.view_39 (looseW Mine.hd.view_39 [Str.ofString "_NodeInfo"]) mean mg mb h₀) (hk : cs.kind = .function) {x : Str} {t1 : Tok} (hx : x.length ≤ 100) (hnd : ND news)
  (h1 : Txt.slice x none (some 1) = Str.ofString "/") (h2 : Txt.slice x (some 1) (some 2) ≠ Str.ofString "/")
  (hd : dp + 30 < recursionLimit) (hu : un + 240 < cLine)
  (hret : ∀ D t2 t3 t4 h' tk', Fr h₀ L h' m → News h₀ L h' ((D, ({ cls := .type "tuple", data := .seq #[.str (Str.ofString "") t2, .str (Str.ofString "/") t3, .str (Txt.slice x (some 1) none) t4] } : Obj)) :: news) → (∀ p ∈ news, p.1 < D) → Q (.ref D) { s with heap := h', toks := tk' }) :
  wpAny (model PySem.Challenge.rw_ik0081_01.prog w) (ktrTop dp un gd cn cs L a ccd cl outer) (call (.ref 249) [.str x t1]) Q E s := by
 refine wpAny_call ?_
 k_dflt k_enter
 k_steps
 all_goals (try kd_p)
 all_goals (first
  | (exfalso; simp_all; done)
  | skip)
 rename (Fr h₀ L _ _) => F4
 rename (News h₀ L _ _) => N4
 rename ∀ p ∈ news, _ => l4
 exact hret _ _ _ _ _ _ F4 N4 l4
end
section
local macro_rules | `(tactic| walk_at "call ref") => `(tactic| k_extra "W44")
local macro_rules | `(tactic| walk_at "call ref") => `(tactic| k_extra "W45")
local macro_rules | `(tactic| walk_at "exec For Name Name cons nil") => `(tactic| k_extra "W22")
local macro_rules | `(tactic| walk_at "call builtin:str.split") => `(tactic| (k_extra "W46"; (intro D' l' h' k' e' a' F' N' l1); (try k_lt l1)))
local macro_rules | `(tactic| walk_at "subscriptTail") => `(tactic| k_extra "W47")
local macro_rules | `(tactic| walk_at "call builtin:list.pop") => `(tactic| k_extra "W48")
local macro_rules | `(tactic| walk_at "call builtin:str.join") => `(tactic| k_extra "W49")
noncomputable def normStep (acc : List Str) (c : Str) : List Str :=
 if c.length = 0 then acc else if c = Str.ofString "." then acc else if c ≠ Str.ofString ".." then acc ++ [c]
 else if acc.getLast? = some (Str.ofString "..") then acc ++ [c] else acc.dropLast
noncomputable def normC (x : Str) : List Str := (Txt.split (Txt.slice x (some 1) none) (Str.ofString "/")).foldl normStep []
noncomputable def normS (x : Str) : Str := Str.ofString "/" ++ Txt.join (Str.ofString "/") (normC x)
theorem norm_len : ∀ (cs acc : List Str), (cs.foldl normStep acc).length ≤ acc.length + cs.length
 | [], _ => Nat.le_refl _
 | c :: cs, acc => by
  refine Nat.le_trans (norm_len cs _) ?_
  have : (normStep acc c).length ≤ acc.length + 1 := by
   unfold normStep
   repeat' split
   all_goals (try simp only [List.length_append, List.length_cons, List.length_nil, List.length_dropLast])
   all_goals (first | exact Nat.le_succ _ | exact Nat.le_refl _ | exact o71)
  rw [List.length_cons]
  exact o83 this
theorem nd3 {h₀ h : Heap} {L a b c : Addr} {oa ob oc : Obj} {l : List (Addr × Obj)} (_ : News h₀ L h ((a, oa) :: (b, ob) :: (c, oc) :: l)) (hl : ND l) (h1 : ∀ p ∈ l, p.1 < c)
  (h2 : c < b ∧ AllLt b l) (h3 : b < a ∧ c < a ∧ AllLt a l) : ND ((a, oa) :: (b, ob) :: (c, oc) :: l) := by
 refine ((hl.cons h1).cons fun p hp => ?_).cons fun p hp => ?_
 ·rcases List.mem_cons.mp hp with e | e
  ·rw [e]; exact h2.1
  ·exact allLt_mem h2.2 p e
 ·rcases List.mem_cons.mp hp with e | e
  ·rw [e]; exact h3.1
  ·rcases List.mem_cons.mp e with e | e
   ·rw [e]; exact h3.2.1
   ·exact allLt_mem h3.2.2 p e
theorem ns_keep {I NC Dc : Addr} {o o' o2 oc : Obj} {nw news : List (Addr × Obj)} (hn : ND ((I, o') :: nw)) (hNC : (NC, o) ∈ nw) (hC : (Dc, oc) ∈ nw) (hne : Dc ≠ NC) (hsub : news ⊆ nw) (hnews : ∀ p ∈ news, p.1 ≠ NC) :
  ND (rep NC o2 ((I, o') :: nw)) ∧ (I, o') ∈ rep NC o2 ((I, o') :: nw) ∧ (NC, o2) ∈ drp I (rep NC o2 ((I, o') :: nw)) ∧ (Dc, oc) ∈ drp I (rep NC o2 ((I, o') :: nw)) ∧ news ⊆ drp I (rep NC o2 ((I, o') :: nw)) := by
 have hI := hn.head
 have hNI : NC ≠ I := hI (NC, o) hNC
 refine i0_5 hn.rep (mem_rep_ne (.head _) hNI.symm) (mem_drp.mpr ⟨mem_rep_self (.tail _ hNC), hNI⟩) (mem_drp.mpr ⟨mem_rep_ne (.tail _ hC) hne, hI _ hC⟩) (fun p hp => mem_drp.mpr ⟨mem_rep_ne' (.tail _ (hsub hp)) (hnews p hp), hI _ (hsub hp)⟩)
theorem str_eqK {a b : Str} (h : (a == b) = true) : a = b := eq_of_beq h
theorem str_neK {a b : Str} (h : (a == b) = false) : a ≠ b := ne_of_beq_false h
theorem str_eqN {a b : Str} (h : (a != b) = false) : a = b := by
 unfold bne at h
 exact eq_of_beq (by rw [Bool.not_eq_false'] at h; exact h)
theorem str_neN {a b : Str} (h : (a != b) = true) : a ≠ b := by
 unfold bne at h
 exact ne_of_beq_false (by rw [Bool.not_eq_true'] at h; exact h)
theorem norm_spec {w : World} {dp un : Nat} {gd : Option (List Code)} {cn : Str} {cs : Scope} {a : Addr} {ccd : Value} {cl : List (Str × Addr)} {outer : List Env} {A₀ : Around} {base h₀ : Heap} {L : Addr} {m : Str → Option Value} {news : List (Addr × Obj)} {s : Shared} {mean : ExcName → Option Value} {mg mb : Str → Option Value} {Q E : Value → Shared → Prop} (B : Below A₀ base outer h₀) (F : Fr h₀ L s.heap m) (KX : Frag.In (Mine.hd.heap_39 w.params) h₀) (N : News h₀ L s.heap news) (T : Top Mine.hd.view_39 (looseW Mine.hd.view_39 [Str.ofString "_NodeInfo"]) mean mg mb h₀) (hk : cs.kind = .function) {x : Str} {t1 : Tok} (hx : x.length ≤ 100) (hx0 : 0 < x.length) (hjl : (Txt.join (Str.ofString "/") (normC x)).length ≤ 200) (hok : ((normC x).map (·.length)).sum + (normC x).length * (Str.ofString "/").length ≤ 16777216) (hsz : (Txt.slice x (some 1) none).length + 2 ≤ sizeLine) (hcn : (Txt.split (Txt.slice x (some 1) none) (Str.ofString "/")).length ≤ 100) (hcl : ∀ c ∈ Txt.split (Txt.slice x (some 1) none) (Str.ofString "/"), c.length ≤ 100) (hnd : ND news)
  (h1 : Txt.slice x none (some 1) = Str.ofString "/") (h2 : Txt.slice x (some 1) (some 2) ≠ Str.ofString "/")
  (hret : ∀ t h' tk', Fr h₀ L h' m → News h₀ L h' news → Q (.str (normS x) t) { s with heap := h', toks := tk' })
  (hd : dp + 60 < recursionLimit) (hu : un + 480 < cLine) :
  wpAny (model PySem.Challenge.rw_ik0081_01.prog w) (ktrTop dp un gd cn cs L a ccd cl outer) (call (.ref 256) [.str x t1]) Q E s := by
 refine wpAny_call ?_
 k_dflt k_enter
 k_steps
 rotate_left
 ·exfalso
  rename ((x.length : Int) = 0) => hz
  exact o111 hx0 hz
 rename (StrsAre _ _) => hst
 rename (List.map _ _ = Txt.split _ _) => hsp
 rename List (Str × Tok) => lt
 rename (Fr _ _ _ fun y => if y = Str.ofString "new_comps" then _ else _) => F1'
 rename (News _ _ _ ((_, W.listOf _ _) :: _ :: _ :: news)) => N1'
 rename _ < _ ∧ _ < _ ∧ AllLt _ news => l9
 rename _ < _ ∧ AllLt _ news => l8
 rename (∀ p ∈ news, p.1 < _) => l7
 rename_i Dc hh3 kk3 hh2 NC hh1 hh0
 all_goals (try kd_p)
 refine gen1 (lt.map (fun x => x.fst) : List Str) ?_
 intro cs' ecs
 rw [← ecs] at hst hsp
 (try kd_p)
 refine gen1 (strValues lt : List Value) ?_
 intro vs evs
 rw [← evs] at hst N1'
 (try kd_p)
 obtain ⟨mt, F0'⟩ : ∃ mt : Str → Option Value, Fr _ _ _ (fun y => if y = Str.ofString "new_comps" then _ else if y = Str.ofString "comps" then _ else if y = Str.ofString "path" then _ else if y = Str.ofString "initial_slashes" then _ else if y = Str.ofString "_" then _ else if y = Str.ofString "dotdot" then _ else if y = Str.ofString "dot" then _ else if y = Str.ofString "sep" then _ else mt y) := ⟨_, F1'⟩
 clear F1'
 obtain ⟨m0, F1, em⟩ : ∃ m0, Fr _ _ _ m0 ∧ m0 = _ := ⟨_, F0', rfl⟩
 clear F0'
 have hlen : vs.length = cs'.length := hst.length
 rw [← hsp] at hcn hcl
 have hn1 := nd3 N1' hnd l7 l8 l9
 refine iter_seqN [Str.ofString "comp"] (tup := false) (its := vs.toArray) (o := W.listOf vs.toArray 0) rfl (by rfl) (by rfl)
  (fun i nw => ∃ ns k, StrsAre ns ((cs'.take i).foldl normStep []) ∧ (NC, W.listOf ns.toArray k) ∈ nw ∧ (Dc, W.listOf vs.toArray 0) ∈ nw ∧ news ⊆ nw)
  rfl ⟨0, rfl⟩ F1 N1' hn1 (.tail _ (.head _)) ?_ ?_ ?_ ?_
 ·intro i nw hR0
  (try kd_p)
  refine e2_4 hR0 ?_
  (try clear hR0); intro ns k _ _ hC _
  exact hC
 ·exact i2_4 ([]) 0 .nil (.head _) (.tail _ (.head _)) (fun p hp => .tail _ (.tail _ (.tail _ hp)))
 ·intro I i v u nw h tk o' hI hv hn hR0 F2 N2
  refine e2_4 hR0 ?_
  (try clear hR0); intro ns k hns hNC hC hsub
  rw [List.getElem?_toArray] at hv
  have hi : i < cs'.length := by
   rw [← hlen]
   exact (List.getElem?_eq_some_iff.mp hv).1
  refine e1_1 (hst.at (List.getElem?_eq_getElem hi)) ?_
  intro t' ht'
  have hv' := hv.symm.trans ht'
  obtain rfl := Option.some.inj hv'
  have hnext : (cs'.take (i + 1)).foldl normStep [] = normStep ((cs'.take i).foldl normStep []) cs'[i] := by
   rw [List.take_add_one, List.getElem?_eq_getElem hi, Option.toList_some, List.foldl_append]
   rfl
  rw [hnext]
  refine gen1 ((cs'.take i).foldl normStep []) ?_
  intro acc eacc
  rw [← eacc] at hns ⊢
  have hacc : acc.length ≤ 100 := by rw [eacc]; exact Nat.le_trans (norm_len _ _) (by rw [List.length_take]; simp only [List.length_nil]; (exact ub13 (ub5 hcn)))
  have hnl : ns.length = acc.length := hns.length
  refine gen1 (cs'[i]) ?_
  intro c ec
  rw [← ec] at F2 ⊢
  have hc : c.length ≤ 100 := by rw [ec]; exact hcl _ (List.getElem_mem hi)
  clear hnext ec ht' hv
  (try kd_p)
  subst em
  have hNC' : (NC, W.listOf ns.toArray k) ∈ (I, o') :: nw := .tail _ hNC
  have hcases : (ns.isEmpty = true ∧ acc = []) ∨ ∃ vi yi y ty, ns = vi ++ [.str y ty] ∧ acc = yi ++ [y] ∧ StrsAre vi yi := by
   rcases PyProof.Rows.strs_nil_or_snoc hns with ⟨e1, e2⟩ | e
   ·exact .inl ⟨by rw [e1]; rfl, e2⟩
   ·exact .inr e
  have hneD : Dc ≠ NC := Nat.ne_of_lt l9.1
  have hnewsN : ∀ p ∈ news, p.1 ≠ NC := fun p hp => Nat.ne_of_lt (allLt_mem l9.2.2 p hp)
  rcases hcases with ⟨hemp, rfl⟩ | ⟨vi, yi, y, ty, rfl, rfl, hvi⟩
  ·(try kd_p)
   k_steps
   all_goals (try kd_p)
   all_goals (try dsimp only)
   all_goals (try (exfalso; rename (!List.isEmpty _) = true => hz; rw [hemp] at hz; exact absurd hz (by decide)))
   all_goals rename (Fr _ _ _ fun z => if z = Str.ofString "comp" then _ else _) => F3
   ·rename (c == _) = true => hd1
    have e : normStep [] c = [] := by rw [normStep, if_neg (by exact fun hom => o13 ‹_› hom), if_pos (str_eqK hd1)]
    refine i4_7 _ _ _ _ rfl F3 N2 hn (.head _) (MapOk.set (by simp) MapOk.base) (i2_4 ns k ?_ ?_ ?_ ?_)
    ·rw [e]; exact hns
    all_goals rw [drp_cons hn.head]; assumption
   ·rename (c == _) = false => hd1
    rename (c != _) = true => hd2
    rename (News _ _ _ (rep _ _ _)) => N3
    have e : normStep [] c = [] ++ [c] := by rw [normStep, if_neg (by exact fun hom => o13 ‹_› hom), if_neg (str_neK hd1), if_pos (str_neN hd2)]
    (try kd_p)
    obtain ⟨y1, y2, y3, y4, y5⟩ := ns_keep (o2 := W.listOf (ns ++ [Value.str c t']).toArray (k + 1)) hn hNC hC hneD hsub hnewsN
    refine i4_7 _ _ _ _ rfl F3 ?_ y1 y2 (MapOk.set (by simp) MapOk.base) (i2_4 (ns ++ [Value.str c t']) (k + 1) ?_ y3 y4 y5)
    ·rw [← List.push_toArray]; exact N3
    ·rw [e]; exact kct_snoc hns
   ·rename (c == _) = false => hd1
    rename (c != _) = false => hd2
    have hd2 := str_eqN hd2
    have e : normStep [] c = [] := by
     rw [normStep, if_neg (by exact fun hom => o13 ‹_› hom), if_neg (str_neK hd1), if_neg (fun h => h hd2), if_neg (by simp)]
     rfl
    refine i4_7 _ _ _ _ rfl F3 N2 hn (.head _) (MapOk.set (by simp) MapOk.base) (i2_4 ns k ?_ ?_ ?_ ?_)
    ·rw [e]; exact hns
    all_goals rw [drp_cons hn.head]; assumption
   ·have e : normStep [] c = [] := by rw [normStep, if_pos (by exact o126 ‹_›)]
    refine i4_7 _ _ _ _ rfl F3 N2 hn (.head _) (MapOk.set (by simp) MapOk.base) (i2_4 ns k ?_ ?_ ?_ ?_)
    ·rw [e]; exact hns
    all_goals rw [drp_cons hn.head]; assumption
  ·have hpush : ((vi ++ [Value.str y ty]) ++ [Value.str c t']).toArray = (vi ++ [Value.str y ty]).toArray.push (.str c t') := (List.push_toArray _ _).symm
   have hzj : seqIndex? (-1) (vi ++ [Value.str y ty]).length = some vi.length := by
    rw [List.length_append]
    unfold seqIndex?
    simp
    exact o9
   have hzx : (vi ++ [Value.str y ty])[vi.length]? = some (.str y ty) := by simp
   have hzp : (vi ++ [Value.str y ty]).toArray.toList.length ≤ sizeLine := by
    rw [sizeLine_eq]
    show (vi ++ [Value.str y ty]).length ≤ _
    exact ub1 hnl (Nat.le_trans hacc (by decide))
   (try kd_p)
   k_steps
   all_goals (try kd_p)
   all_goals (try dsimp only)
   all_goals (try (exfalso; rename (List.isEmpty (_ ++ _)) = true => hz; simp at hz))
   all_goals rename (Fr _ _ _ fun z => if z = Str.ofString "comp" then _ else _) => F3
   ·rename (c == _) = true => hd1
    have e : normStep (yi ++ [y]) c = yi ++ [y] := by rw [normStep, if_neg (by exact fun hom => o13 ‹_› hom), if_pos (str_eqK hd1)]
    refine i4_7 _ _ _ _ rfl F3 N2 hn (.head _) (MapOk.set (by simp) MapOk.base) (i2_4 (vi ++ [Value.str y ty]) k ?_ ?_ ?_ ?_)
    ·rw [e]; exact hns
    all_goals rw [drp_cons hn.head]; assumption
   ·rename (c == _) = false => hd1
    rename (c != _) = true => hd2
    rename (News _ _ _ (rep _ _ _)) => N3
    have e : normStep (yi ++ [y]) c = (yi ++ [y]) ++ [c] := by rw [normStep, if_neg (by exact fun hom => o13 ‹_› hom), if_neg (str_neK hd1), if_pos (str_neN hd2)]
    (try kd_p)
    obtain ⟨y1, y2, y3, y4, y5⟩ := ns_keep (o2 := W.listOf ((vi ++ [Value.str y ty]).toArray.push (.str c t')) (k + 1)) hn hNC hC hneD hsub hnewsN
    refine i4_7 _ _ _ _ rfl F3 N3 y1 y2 (MapOk.set (by simp) MapOk.base) (i2_4 ((vi ++ [Value.str y ty]) ++ [Value.str c t']) (k + 1) ?_ ?_ y4 y5)
    ·rw [e]; exact kct_snoc hns
    ·rw [hpush]; exact y3
   ·rename (c == _) = false => hd1
    rename (c != _) = false => hd2
    rename (y == _) = true => hd3
    rename (News _ _ _ (rep _ _ _)) => N3
    have hd2 := str_eqN hd2
    have hd3 := str_eqK hd3
    have e : normStep (yi ++ [y]) c = (yi ++ [y]) ++ [c] := by
     rw [normStep, if_neg (by exact fun hom => o13 ‹_› hom), if_neg (str_neK hd1), if_neg (fun h => h hd2), if_pos (by rw [hd3]; simp)]
    (try kd_p)
    obtain ⟨y1, y2, y3, y4, y5⟩ := ns_keep (o2 := W.listOf ((vi ++ [Value.str y ty]).toArray.push (.str c t')) (k + 1)) hn hNC hC hneD hsub hnewsN
    refine i4_7 _ _ _ _ rfl F3 N3 y1 y2 (MapOk.set (by simp) MapOk.base) (i2_4 ((vi ++ [Value.str y ty]) ++ [Value.str c t']) (k + 1) ?_ ?_ y4 y5)
    ·rw [e]; exact kct_snoc hns
    ·rw [hpush]; exact y3
   ·rename (c == _) = false => hd1
    rename (c != _) = false => hd2
    rename (y == _) = false => hd3
    rename (News _ _ _ (rep _ _ _)) => N3
    have hd2 := str_eqN hd2
    have e : normStep (yi ++ [y]) c = yi := by
     rw [normStep, if_neg (by exact fun hom => o13 ‹_› hom), if_neg (str_neK hd1), if_neg (fun h => h hd2), if_neg (fun h => str_neK hd3 (by simpa using h))]
     simp
    (try kd_p)
    obtain ⟨y1, y2, y3, y4, y5⟩ := ns_keep (o2 := W.listOf vi.toArray (k + 1)) hn hNC hC hneD hsub hnewsN
    refine i4_7 _ _ _ _ rfl F3 N3 y1 y2 (MapOk.set (by simp) MapOk.base) (i2_4 vi (k + 1) ?_ y3 y4 y5)
    rw [e]; exact hvi
   ·have e : normStep (yi ++ [y]) c = yi ++ [y] := by rw [normStep, if_pos (by exact o126 ‹_›)]
    refine i4_7 _ _ _ _ rfl F3 N2 hn (.head _) (MapOk.set (by simp) MapOk.base) (i2_4 (vi ++ [Value.str y ty]) k ?_ ?_ ?_ ?_)
    ·rw [e]; exact hns
    all_goals rw [drp_cons hn.head]; assumption
 ·intro u nw h tk hn hR0 F2 N2
  (try kd_p)
  refine e2_4 hR0 ?_
  (try clear hR0); intro ns k hns hNC hC hsub
  rw [List.size_toArray, hlen, List.take_length, hsp] at hns
  have hns : StrsAre ns (normC x) := hns
  subst em
  (try kd_p)
  k_steps
  all_goals (try kd_p)
  rename (Fr h₀ L _ _) => F4
  rename (News h₀ L _ _) => N4
  exact hret _ _ _ F4 (fun p hp => N4 p (hsub hp))
end
section
local macro_rules | `(tactic| walk_at "exec While") => `(tactic| k_extra "W23")
local macro_rules | `(tactic| walk_at "last exec While") => `(tactic| k_extra "W23")
local macro_rules | `(tactic| walk_at "exec Try") => `(tactic| k_extra "W24")
local macro_rules | `(tactic| walk_at "compareOp NotIn int ref") => `(tactic| k_extra "W50")
local macro_rules | `(tactic| walk_at "compareOp Eq ref ref") => `(tactic| k_extra "W51")
local macro_rules | `(tactic| walk_at "compareOp NotEq ref ref") => `(tactic| k_extra "W52")
local macro_rules | `(tactic| walk_at "subscriptTail Name Slice ref ref") => `(tactic| (k_extra "W53"; intro D' h' F' N' l1; (try k_lt l1)))
local macro_rules | `(tactic| walk_at "subscriptTail") => `(tactic| k_extra "W54")
local macro_rules | `(tactic| walk_at "subscriptTail") => `(tactic| k_extra "W55")
local macro_rules | `(tactic| walk_at "last subscriptTail") => `(tactic| k_extra "W55")
section
local macro_rules | `(tactic| walk_at "exec For") => `(tactic| k_extra "W22")
local macro_rules | `(tactic| walk_at "exec For Name Attribute cons nil") => `(tactic| k_extra "W22")
local macro_rules | `(tactic| walk_at "exec For Name Call cons nil") => `(tactic| k_extra "W22")
local macro_rules | `(tactic| walk_at "exec For Name Name cons nil") => `(tactic| k_extra "W22")
section
variable {Sx : Addr}
theorem raisedS_sub {base G h : Heap} {l : List Env} {e t : Addr} {cls : Value} {vs : List Value} {news news' : List (Addr × Obj)} (R : RaisedS base G l e cls t vs news h) (k : ∀ p ∈ news', p ∈ news) : RaisedS base G l e cls t vs news' h := by
 (try kd_p)
 refine e0_2 R ?_
 (try clear R); intro hz1 f
 obtain ⟨B, a, b, c, d⟩ := hz1
 exact ⟨⟨B, a, b, fun q hq => c q (k q hq), d⟩, f⟩
local macro_rules | `(tactic| walk_at "getMethod ref") => `(tactic| k_extra "W56")
local macro_rules | `(tactic| walk_at "call builtin:dict.values") => `(tactic| (k_extra "W57"; intro D' h' F' N' l1; (try k_lt l1)))
local macro_rules | `(tactic| walk_at "call ref") => `(tactic| k_extra "W58")
local macro_rules | `(tactic| walk_at "getMethod ref") => `(tactic| k_extra "W59")
theorem prepare_spec {w : World} {dp un : Nat} {gd : Option (List Code)} {cn : Str} {cs : Scope} {a : Addr} {ccd : Value} {cl : List (Str × Addr)} {outer : List Env} {A₀ : Around} {base h₀ : Heap} {L : Addr} {m : Str → Option Value} {news : List (Addr × Obj)} {s : Shared} {mean : ExcName → Option Value} {mg mb : Str → Option Value} {Q E : Value → Shared → Prop} (B : Below A₀ base outer h₀) (F : Fr h₀ L s.heap m) (KX : Frag.In (Mine.hd.heap_39 w.params) h₀) (N : News h₀ L s.heap news) (T : Top Mine.hd.view_39 (looseW Mine.hd.view_39 [Str.ofString "_NodeInfo"]) mean mg mb h₀) (hk : cs.kind = .function) (XB : Frag.In (Mine.hd.heap_39 w.params) base) (TB : Top Mine.hd.view_39 (looseW Mine.hd.view_39 [Str.ofString "_NodeInfo"]) mean mg mb base) (KD : KtsDicts (outer.filterMap (·.frame)) h₀) {g : G}
  (H : SIn w Sx news g) (hnd : ND news) (hr : g.rdy = none)
  (hcl : ∀ j ∈ g.ord, ∀ k ∈ g.su j, k ∈ g.ord) (hb : ∀ j, (g.su j).length ≤ 1000)
  (hd : dp + 40 < recursionLimit) (hu : un + 320 < cLine)
  (hret : ∀ R h₀' news' h' tk', Gr A₀ base outer (Mine.hd.heap_39 w.params) Mine.hd.view_39 (looseW Mine.hd.view_39 [Str.ofString "_NodeInfo"]) mean mg mb h₀ h₀' → Fr h₀' L h' m → News h₀' L h' news' → Post w Sx news g news' { g with rdy := some (R, g.ord.filter fun j => decide (g.np j = 0)) } →
   (∃ fin, Topo g.su fin ∧ fin.Nodup ∧ ∀ j, j ∈ fin ↔ j ∈ g.ord) → Q .none { s with heap := h', toks := tk' })
  (hexc : ∀ R h₀' G e t vs news' h' tk', Gr A₀ base outer (Mine.hd.heap_39 w.params) Mine.hd.view_39 (looseW Mine.hd.view_39 [Str.ofString "_NodeInfo"]) mean mg mb h₀ h₀' → Fr h₀' L G m → RaisedS base G (envX cn cs L a ccd cl :: outer) e (.ref 62) t vs news' h' → G.UpToSlots h' →
   Post w Sx news g news' { g with rdy := some (R, g.ord.filter fun j => decide (g.np j = 0)) } → (∃ l, (∀ j ∈ l, j ∈ g.ord) ∧ Ring g.su l) → E (.ref e) { s with heap := h', toks := tk' }) :
  wpAny (model PySem.Challenge.rw_ik0081_01.prog w) (ktrTop dp un gd cn cs L a ccd cl outer) (call (.ref 99) [.ref Sx]) Q E s := by
 have hself := H.self
 (try kd_p)
 refine e6_1 H.dict ?_
 intro t1 t2 t3 t4 tp tn hdict
 have hrv : g.rdyV = .none := by unfold G.rdyV; rw [hr]
 rw [hrv] at hdict
 have hlo : (g.D == sysModules) = false := beq_false_of_ne H.sm
 (try kd_p)
 refine e1_2 H.tab ?_
 intro oD hD hDo
 refine wpAny_call ?_
 k_dflt (refine' code_defG (cl := cl) (binds := [(Str.ofString "self", Value.ref Sx)]) ?k1 ?k2 ?k3 ?k4 ?k5 ?XB ?TB ?D ?kA ?k6 ?k7 ?k8 ?k9 ?kB ?_ ?cK ?c2 ?c3 ?c4 ?c5)
 case k1 => k_asm
 case k2 => k_asm
 case k3 => k_asm
 case k4 => k_asm
 case k5 => k_asm
 case XB => assumption
 case TB => assumption
 case D => assumption
 case kA => exact rfl
 case k6 => k_is
 case k7 => k_is
 case k8 => ktr_room
 case k9 => exact BindsTo.of_eq rfl
 case kB => exact locs rfl
 case cK => assumption
 case c2 => exact rfl
 case c3 => exact rfl
 case c4 => exact rfl
 case c5 => decide
 k_whole
 intro g₀ L' h₁ FG' F' N' B' X' T' D'
 (try dsimp only)
 (try k_lift B')
 (try kd_p)
 k_steps
 all_goals (try with_reducible refine ws_out ?_)
 all_goals (try kd_p)
 rename Addr => V
 rename (Fr g₀ L' _ _) => F1
 rename (News g₀ L' _ ((V, _) :: news)) => N1
 rename ∀ p ∈ news, _ => l1
 have hn1 := hnd.cons l1 (o := { cls := .type "dict_values", data := .fields #[.ref g.D] })
 have hol : g.ord.length ≤ 5 := ord_len H
 refine k_vals (fun i ys nw => nw = [] ∧ FilesAre ys ((g.ord.take i).filter fun j => decide (g.np j = 0))) rfl rfl rfl F1 N1 hn1 ⟨_, (N1 _ (.head _)).1, rfl, rfl⟩ (.tail _ hD) hDo ⟨rfl, .nil⟩ ?_ ?_ ?_
 ·intro i ys nw _ hR0
  (try kd_p)
  refine e0_2 hR0 ?_
  (try clear hR0); intro _ hJ
  have h1 := hJ.length
  have h2 := List.length_filter_le (fun j => decide (g.np j = 0)) (g.ord.take i)
  rw [List.length_take] at h2
  rw [sizeLine_eq]
  exact ub1 h1 (Nat.le_trans h2 (ub5 (Nat.le_trans hol (by decide))))
 ·intro gg C i ys new₀ nw oC m₂ h tk E' hi hB hoC hJ sub0 sub1 hC ndw F2 N2
  (try kd_p)
  refine e0_2 hJ ?_
  (try clear hJ); intro hz2 hJ
  subst hz2
  refine e1_2 hB ?_
  (try clear hB); intro v hz3 hm
  first | refine e1_1 (hz3) ?_ | refine e0_2 (hz3) ?_
  intro k hk
  rw [List.getElem?_map] at hk
  (try kd_p)
  refine e1_2 (Option.map_eq_some_iff.mp hk) ?_
  intro j hj e
  cases e
  have hjo := List.mem_of_getElem? hj
  have HS : SIn w Sx nw g := H.of fun p hp _ => sub0 _ (.tail _ hp)
  (try kd_p)
  refine e2_1 (HS.node j hjo) ?_
  intro w1 w2 hno
  have hdi := HS.ndict j hjo
  have htake : g.ord.take (i + 1) = g.ord.take i ++ [j] := by rw [List.take_add_one, hj, Option.toList_some]
  refine wpAny_tests_one ?_
  dsimp only
  (try kd_p)
  k_steps
  all_goals (try with_reducible refine ws_out ?_)
  all_goals (try kd_p)
  ·have h0 : g.np j = 0 := by first | assumption | omega
   refine i3_7 _ _ ([]) rfl (by k_asm) (by k_asm) (fun p hp => nomatch hp) List.nodup_nil rfl ?_
   rw [htake, List.filter_append, List.filter_cons_of_pos (by simpa using h0)]
   exact hJ.snoc j w1
  ·have h0 : ¬ g.np j = 0 := by first | assumption | omega
   refine i3_7 _ _ ([]) rfl (by k_asm) (by k_asm) (fun p hp => nomatch hp) List.nodup_nil rfl ?_
   rw [htake, List.filter_append, List.filter_cons_of_neg (by simpa using h0), List.filter_nil, List.append_nil]
   exact hJ
 ·intro gg R h tk ys new F2 N2 hn2 hR0
  (try kd_p)
  refine e0_2 hR0 ?_
  (try clear hR0); intro hz4 hJ
  subst hz4
  rw [List.length_map, List.take_length] at hJ
  rw [List.nil_append] at N2 hn2
  have H2 : SIn w Sx ((R, W.listOf ys.toArray ys.length) :: (V, { cls := .type "dict_values", data := .fields #[.ref g.D] }) :: news) g := SIn.cons (SIn.cons H)
  have hself2 := H2.self
  (try kd_p)
  refine e6_1 H2.dict ?_
  intro u1 u2 u3 u4 up un hdict2
  rw [hrv] at hdict2
  dsimp only
  (try kd_p)
  k_steps
  all_goals (try with_reducible refine ws_out ?_)
  all_goals (try kd_p)
  rename (News g₀ L' _ (rep _ _ _)) => N3'
  rename (Fr g₀ L' _ _) => F3
  (try kd_p)
  obtain ⟨n3, N3, hn3, H3, sub3⟩ : ∃ n3, News g₀ L' _ n3 ∧ ND n3 ∧ SIn w Sx n3 { g with rdy := some (R, g.ord.filter fun j => decide (g.np j = 0)) } ∧ ∀ p ∈ news, ¬ Own Sx g p.1 → p ∈ n3 := by
   have z := sin_dict (t1 := u1) (t2 := u2) (t3 := u3) (t4 := u4) (tp := up) (tn := un) (p := g.po) (n := g.nf) (rdy := some (R, g.ord.filter fun j => decide (g.np j = 0))) H2 hn2 (.inr ⟨R, _, ys, ys.length, rfl, hJ, .head _, ?_⟩)
   ·exact i1_4 _ N3' z.1 z.2 (fun p hp hf => mem_rep_ne' (.tail _ (.tail _ hp)) fun e => hf (.inr (.inl e)))
   ·intro j hj e
    (try kd_p)
    refine e2_2 (H.list j hj) ?_
    intro _ _ _ q
    exact hn2.head _ (.tail _ q) e.symm
  clear N3'
  have hself3 := H3.self
  (try kd_p)
  refine e6_1 H3.dict ?_
  intro q1 q2 q3 q4 qp qn hdict3
  dsimp only [G.rdyV] at hself3 hdict3
  k_steps
  all_goals (try with_reducible refine ws_out ?_)
  all_goals (try kd_p)
  rename (Gr _ _ _ _ _ _ _ _ _ _ _) => G4
  rename (_ ∨ _) => res4
  rename (ND _) => hn4
  rename ∀ p ∈ n3, _ => sub4
  have B4 := G4.below
  have X4 := G4.kin
  have T4 := G4.top
  have P4 : Post w Sx news g _ { g with rdy := some (R, g.ord.filter fun j => decide (g.np j = 0)) } := ⟨hn4, H3.of fun p hp _ => sub4 p hp, fun p hp hf => ⟨sub4 p (sub3 p hp hf), fun q => by
   rcases q with q | q | q | q | ⟨R', js', e1, q⟩
   ·exact hf (.inl q)
   ·exact hf (.inr (.inl q))
   ·exact hf (.inr (.inr (.inl q)))
   ·exact hf (.inr (.inr (.inr (.inl q))))
   ·cases e1
    exact hn2.head _ (.tail _ hp) q⟩⟩
  rename (News _ _ _ _) => N4
  rename (Fr _ _ _ _) => F4
  rcases res4 with ⟨rfl, hT⟩ | ⟨C, vs, n, rfl, hC, hv0, hvl, hR⟩
  ·(try kd_p)
   k_steps
   all_goals (try with_reducible refine ws_out ?_)
   all_goals (try kd_p)
   refine i4_4 _ L' _ _ G4.turn F4 N4 (fun h₀' G' F'' N'' => hret _ h₀' _ _ _ G' F'' N'' P4 hT)
  ·have hne : vs.isEmpty = false := by cases vs with | nil => exact absurd rfl hv0 | cons _ _ => rfl
   (try kd_p)
   k_steps
   all_goals (try with_reducible refine ws_out ?_)
   all_goals (try kd_p)
   rename (RaisedS _ _ _ _ _ _ _ _ _) => S5
   rename Heap.UpToSlots _ _ => U5
   (try kd_p)
   refine e1_2 (backG B FG' XB TB KD G4.turn) ?_
   intro h₀' Gr' Fr'
   refine hexc R h₀' _ _ _ _ _ _ _ Gr' Fr' (raisedS_sub S5 ?_) U5 P4 hR
   intro p hp
   first | exact hp | exact .tail _ hp | exact .tail _ (.tail _ hp) | exact .tail _ (.tail _ (.tail _ hp))
end
section
local macro_rules | `(tactic| walk_at "call builtin:iter") => `(tactic| (k_extra "W26"; intro I' h' F' N' l'; (try k_lt l')))
theorem ws_call {M : Model} {A : Around} {E Q : Value → Shared → Prop} {s : Shared} {f : Value} {as : List Value} (h : WS (wpAny M A (call f as) Q E s)) : wpAny M A (call f as) Q E s := h
local macro_rules | `(tactic| walk_at "call ref") => `(tactic| k_extra "W60")
theorem small_up {a b : Int} (ha : -(2 ^ 62) ≤ a) (ha' : a < 2 ^ 62) (hb : -(2 ^ 62) ≤ b) (hb' : b < 2 ^ 62) : Builtin.Range.small a b 1 = true := by
 have h := rangeSize_nat a b
 unfold Builtin.Range.small Builtin.Range.rangeFitsLong
 rw [h]
 simp
 have l : ∀ {z : Int}, -(2 ^ 62) ≤ z → -9223372036854775808 ≤ z := fun h => Int.le_trans (by decide) h
 have u : ∀ {z : Int}, z < 2 ^ 62 → z < 9223372036854775808 := fun h => Int.lt_of_lt_of_le h (by decide)
 exact ⟨⟨⟨⟨l ha, u ha'⟩, l hb, u hb'⟩, Int.le_trans (by decide) (Int.le_max_right _ _), Int.max_lt.mpr ⟨Int.lt_of_lt_of_le (Int.sub_lt_sub_of_lt_of_le hb' ha) (by decide), by decide⟩⟩, .inr ⟨l hb, u hb'⟩⟩
theorem pv_go {v b : Nat} (h : ¬ b < 64) (c : Nat) (r : List Nat) : pv v b (c :: r) = pv (v * 64 + c % 64) c r := by rw [pv, if_neg h]
theorem pv_end {v b : Nat} (h : b < 64) (r : List Nat) : pv v b r = some (v, r) := by cases r <;> rw [pv, if_pos h]
theorem pv_more : ∀ y : Nat, ∃ b r, (more y).reverse ++ [y % 64 + 64] = b :: r ∧ ∀ tail, pv (b % 64) b (r ++ tail) = pv y (y % 64 + 64) tail := by
 intro y
 induction y using Nat.strongRecOn with
 | ind y ih =>
  by_cases h : y > 63
  ·(try kd_p)
   refine e2_2 (ih (y / 64) (by exact o22 h)) ?_
   intro b r e k
   refine i2_2 b (r ++ [y % 64 + 64]) ?_ (fun tail => ?_)
   ·rw [more_go h, List.reverse_cons, e]; rfl
   ·rw [List.append_assoc, k]
    show pv (y / 64) (y / 64 % 64 + 64) ((y % 64 + 64) :: tail) = _
    rw [pv_go (by exact fun hom => o86 hom), show y / 64 * 64 + (y % 64 + 64) % 64 = y by (exact o11)]
  ·refine i2_2 (y % 64 + 64) ([]) ?_ (fun tail => ?_)
   ·rw [more_end h]; rfl
   ·rw [List.nil_append, show (y % 64 + 64) % 64 = y by (exact o31 h)]
theorem pv_octs (x : Nat) : ∃ b r, octs x = b :: r ∧ ∀ rest, pv (b % 64) b (r ++ rest) = some (x, rest) := by
 by_cases h : x > 63
 ·(try kd_p)
  refine e2_2 (pv_more (x / 64)) ?_
  intro b r e k
  refine i2_2 b (r ++ [x % 64]) ?_ (fun rest => ?_)
  ·rw [octs, figs, more_go h, List.reverse_cons, List.reverse_cons, e]; rfl
  ·rw [List.append_assoc, k]
   show pv (x / 64) (x / 64 % 64 + 64) ((x % 64) :: rest) = _
   rw [pv_go (by exact fun hom => o86 hom), show x / 64 * 64 + x % 64 % 64 = x by (exact o12), pv_end (by exact Nat.mod_lt _ (by decide))]
 ·refine i2_2 (x % 64) ([]) ?_ (fun rest => ?_)
  ·rw [octs, figs, more_end h]; rfl
  ·rw [List.nil_append, pv_end (by exact Nat.mod_lt _ (by decide))]
   congr 2
   exact o32 h
theorem more_lt : ∀ x, ∀ o ∈ more x, o < 128 := by
 intro x
 induction x using Nat.strongRecOn with
 | ind x ih =>
  intro o ho
  by_cases h : x > 63
  ·rw [more_go h] at ho
   rcases List.mem_cons.mp ho with rfl | ho
   ·exact Nat.add_lt_add_right (Nat.mod_lt _ (by decide)) 64
   ·exact ih _ (by exact o22 h) o ho
  ·rw [more_end h] at ho; cases ho
theorem octs_lt (x : Nat) : ∀ o ∈ octs x, o < 128 := fun o ho => by
 rw [octs, List.mem_reverse, figs] at ho
 rcases List.mem_cons.mp ho with rfl | ho
 ·exact Nat.lt_of_lt_of_le (Nat.mod_lt _ (by decide)) (by decide)
 ·exact more_lt x o ho
theorem octs_len {x : Nat} (h : x < 1000000) : (octs x).length ≤ 4 := by
 rw [octs, List.length_reverse, figs, List.length_cons]
 have h3 : ∀ y, y < 64 → (more y).length = 0 := fun y hy => by rw [more_end (by exact fun hom => o141 ‹_› hom)]; rfl
 have h2 : ∀ y, y < 4096 → (more y).length ≤ 1 := fun y hy => by
  by_cases h : y > 63
  ·rw [more_go h, List.length_cons, h3 _ (by exact o66 hy (by decide))]; exact Nat.le_refl _
  ·rw [more_end h]; exact Nat.zero_le _
 have h1 : ∀ y, y < 262144 → (more y).length ≤ 2 := fun y hy => by
  by_cases h : y > 63
  ·rw [more_go h, List.length_cons]; have := h2 (y / 64) (by exact o66 hy (by decide)); exact Nat.lt_of_le_of_lt this (by decide)
  ·rw [more_end h]; exact Nat.zero_le _
 by_cases hx : x > 63
 ·rw [more_go hx, List.length_cons]; have := h1 (x / 64) (by exact o66 h (by decide)); exact rm4 this (by decide)
 ·rw [more_end hx]; decide
noncomputable def wire (xs : List Nat) : List Nat := xs.flatMap octs
theorem wire_cons (x : Nat) (xs : List Nat) : wire (x :: xs) = octs x ++ wire xs := by simp [wire]
theorem wire_len : ∀ xs : List Nat, xs.length ≤ (wire xs).length
 | [] => Nat.le_refl _
 | x :: xs => by
  (try kd_p)
  refine e2_2 (pv_octs x) ?_
  intro b r e _
  rw [wire_cons, e]
  have := wire_len xs
  simp only [List.length_cons, List.length_append]
  exact o88 this
theorem wire_lt (xs : List Nat) : ∀ o ∈ wire xs, o < 128 := fun o ho => by
 (try kd_p)
 refine e1_2 (List.mem_flatMap.mp ho) ?_
 intro x _ h
 exact octs_lt x o h
theorem wire_app (xs ys : List Nat) : wire (xs ++ ys) = wire xs ++ wire ys := by simp [wire]
theorem read_spec {w : World} {dp un : Nat} {gd : Option (List Code)} {cn : Str} {cs : Scope} {a : Addr} {ccd : Value} {cl : List (Str × Addr)} {outer : List Env} {A₀ : Around} {base h₀ : Heap} {L : Addr} {m : Str → Option Value} {news : List (Addr × Obj)} {s : Shared} {mean : ExcName → Option Value} {mg mb : Str → Option Value} {Q E : Value → Shared → Prop} (B : Below A₀ base outer h₀) (F : Fr h₀ L s.heap m) (KX : Frag.In (Mine.hd.heap_39 w.params) h₀) (N : News h₀ L s.heap news) (T : Top Mine.hd.view_39 (looseW Mine.hd.view_39 [Str.ofString "_NodeInfo"]) mean mg mb h₀) (hk : cs.kind = .function) (XB : Frag.In (Mine.hd.heap_39 w.params) base) (TB : Top Mine.hd.view_39 (looseW Mine.hd.view_39 [Str.ofString "_NodeInfo"]) mean mg mb base) (KD : KtsDicts (outer.filterMap (·.frame)) h₀) {l : Addr} {kl : Nat} {vs : List Value} {xs : List Nat}
  (hnd : ND news) (hl : (l, W.listOf vs.toArray kl) ∈ news) (hvs : IntsAre vs (nums (wire xs))) (hxs : ∀ x ∈ xs, x < 1000000) (hz : xs.length ≤ 100) (hz2 : (wire xs).length ≤ 1000)
  (hd : dp + 20 < recursionLimit) (hu : un + 160 < cLine)
  (hret : ∀ h₀' D ws k h' tk', Gr A₀ base outer (Mine.hd.heap_39 w.params) Mine.hd.view_39 (looseW Mine.hd.view_39 [Str.ofString "_NodeInfo"]) mean mg mb h₀ h₀' → Fr h₀' L h' m → News h₀' L h' ((D, W.listOf ws.toArray k) :: news) → ND ((D, W.listOf ws.toArray k) :: news) → IntsAre ws (nums xs) → Q (.ref D) { s with heap := h', toks := tk' }) :
  wpAny (model PySem.Challenge.rw_ik0081_01.prog w) (ktrTop dp un gd cn cs L a ccd cl outer) (call (.ref 275) [.ref l]) Q E s := by
 have hvl := hvs.length
 rw [List.length_map] at hvl
 refine wpAny_call ?_
 k_dflt (refine' code_defG (cl := cl) (binds := [(Str.ofString "octets", Value.ref l)]) ?k1 ?k2 ?k3 ?k4 ?k5 ?XB ?TB ?D ?kA ?k6 ?k7 ?k8 ?k9 ?kB ?_ ?cK ?c2 ?c3 ?c4 ?c5)
 case k1 => k_asm
 case k2 => k_asm
 case k3 => k_asm
 case k4 => k_asm
 case k5 => k_asm
 case XB => assumption
 case TB => assumption
 case D => assumption
 case kA => exact rfl
 case k6 => k_is
 case k7 => k_is
 case k8 => ktr_room
 case k9 => exact BindsTo.of_eq rfl
 case kB => exact locs rfl
 case cK => assumption
 case c2 => exact rfl
 case c3 => exact rfl
 case c4 => exact rfl
 case c5 => decide
 k_whole
 intro g₀ L' h₁ FG' F' N' B' X' T' D'
 (try dsimp only)
 (try k_lift B')
 (try kd_p)
 k_steps
 rename IsRange _ _ _ _ _ _ _ _ => hr
 rename IntsAre vs _ => hvs
 rename (Fr g₀ L' _ _) => F1
 rename (News g₀ L' _ _) => N1
 rename_i _ I _ lI D _ lD Dt _ lDt _ _ _ _ _ _ _ _ _ _ _ _
 all_goals (try kd_p)
 have hnI : ND ((I, liObj l 0) :: news) := hnd.cons lI
 have hnD : ND ((D, W.listOf #[] 0) :: (I, liObj l 0) :: news) := hnI.cons fun p hp => by
  rcases List.mem_cons.mp hp with rfl | hp
  ·exact lD.1
  ·exact allLt_mem lD.2 p hp
 have N2 : News g₀ L' _ ((D, W.listOf #[] 0) :: (I, liObj l 0) :: news) := fun p hp => N1 p (.tail _ hp)
 refine iter_rangeG [Str.ofString "k"] (n := (wire xs).length + 1) rfl (by rfl) (by rfl) hr ?_ ?_ (Gr (ktrTop dp un gd cn cs L a ccd cl outer) base (envX cn cs L a ccd cl :: outer) (Mine.hd.heap_39 w.params) Mine.hd.view_39 (looseW Mine.hd.view_39 [Str.ofString "_NodeInfo"]) mean mg mb g₀)
  ⟨.refl, B', X', T', D'⟩ (fun g' hg b hb => hg.turn.none_ b hb)
  (fun i nw => ∃ ws k, i ≤ xs.length ∧ (D, W.listOf ws.toArray k) ∈ nw ∧ IntsAre ws (nums (xs.take i)) ∧ (I, liObj l ((wire xs).length - (wire (xs.drop i)).length)) ∈ nw ∧ ∀ p ∈ news, p ∈ nw)
  F1 N2 hnD ⟨[], 0, Nat.zero_le _, .head _, .nil, ?_, fun p hp => .tail _ (.tail _ hp)⟩ ?_ ?_
 ·refine small_up (by decide) (by decide) ?_ ?_ <;> rw [List.length_map] <;> (first | exact uc4 (by decide) | exact uc5 (Nat.lt_of_le_of_lt (m := 1000000) (ub10 (Nat.le_trans ‹_› (by decide)) (by decide)) (by decide)))
 ·rw [rangeSize_nat, List.length_map]; exact o15
 ·rw [List.drop_zero, Nat.sub_self]
  exact .tail _ (.head _)
 ·intro Ir i t u g₁ nw h tk o' hIr hi hn hR0 hG F2 N3
  (try kd_p)
  refine e2_5 hR0 ?_
  (try clear hR0); intro ws k hix hD hws hI hsub
  have B2 := hG.below
  have X2 := hG.kin
  have T2 := hG.top
  have hDi : D ≠ Ir := fun e => hn.head _ hD e
  have hIi : I ≠ Ir := fun e => hn.head _ hI e
  have hwl := hws.length
  rw [List.length_map, List.length_take] at hwl
  have hD2 : (D, W.listOf ws.toArray k) ∈ (Ir, o') :: nw := .tail _ hD
  have hI2 := List.mem_cons_of_mem (Ir, o') hI
  have hl2 : (l, W.listOf vs.toArray kl) ∈ (Ir, o') :: nw := .tail _ (hsub _ hl)
  have hwx : wire xs = wire (xs.take i) ++ wire (xs.drop i) := by rw [← wire_app, List.take_append_drop]
  have hdrop : (wire xs).drop ((wire xs).length - (wire (xs.drop i)).length) = wire (xs.drop i) := by
   have e : (wire xs).length - (wire (xs.drop i)).length = (wire (xs.take i)).length := by
    rw [hwx, List.length_append]; exact o124
   rw [e]
   conv => lhs; rw [hwx]
   exact List.drop_left
  (try kd_p)
  k_steps
  all_goals (try kd_p)
  show wpAny _ _ (exec (.Try _ _ _ [] _) _) _ _ _
  refine wpAny_Try_except ?_
  by_cases hlt : i < xs.length
  ·have hxi : xs.drop i = xs[i] :: xs.drop (i + 1) := List.drop_eq_getElem_cons hlt
   (try kd_p)
   refine e2_2 (pv_octs xs[i]) ?_
   intro b r eo hpv
   have hI3 := hI2
   rw [hxi, wire_cons, eo, List.cons_append] at hdrop hI3
   have hDI : D ≠ I := hn.neC hD2 hI2 (by simp [W.listOf])
   (try kd_p)
   k_steps
   all_goals (try kd_p)
   show wpAny _ _ (call _ _) _ _ _
   k_dflt (refine' parse_spec ?zB ?zF ?zX ?zN ?zT ?zk hn hI3 hl2 hvs (wire_lt xs) hdrop (hpv _) hz2 (hxs _ (List.getElem_mem hlt)) ?zd ?zu ?_)
   case zB => k_asm
   case zF => k_asm
   case zX => k_asm
   case zN => k_asm
   case zT => k_asm
   case zk => exact rfl
   case zd => ktr_room
   case zu => ktr_units
   intro tx h4 tk4 F4 N4'
   (try kd_p)
   obtain ⟨n4, N4, hn4, hD4, hI4, hIr4, hsub4⟩ : ∃ n4, News g₁ L' h4 n4 ∧ ND n4 ∧ (D, W.listOf ws.toArray k) ∈ n4 ∧ (I, liObj l ((wire xs).length - (wire (xs.drop (i + 1))).length)) ∈ n4 ∧ (Ir, o') ∈ n4 ∧ ∀ p ∈ news, p ∈ n4 :=
    ⟨_, N4', hn.rep, mem_rep_ne hD2 hDI, mem_rep_self hI3, mem_rep_ne (.head _) (Ne.symm hIi), fun p hp => mem_rep_ne' (.tail _ (hsub p hp)) (Nat.ne_of_lt (lI p hp))⟩
   clear N4'
   k_steps
   all_goals (try kd_p)
   rename (News g₁ L' _ (rep D _ n4)) => N5
   rename (Fr g₁ L' _ _) => F5
   rw [List.push_toArray] at N5
   refine turnG (g' := g₁) (i0_7 hG F5 N5 hn4.rep (mem_rep_ne hIr4 (Ne.symm hDi)) (MapOk.set (.head _) MapOk.base) (i2_5 _ (k + 1) hlt (mem_drp.mpr ⟨mem_rep_self hD4, hDi⟩) ?_ (mem_drp.mpr ⟨mem_rep_ne hI4 (Ne.symm hDI), hIi⟩) (fun p hp => mem_drp.mpr ⟨mem_rep_ne' (hsub4 p hp) ?_, ?_⟩)))
   ·rw [List.take_add_one, List.getElem?_eq_getElem hlt, Option.toList_some, nums, List.map_append]
    exact hws.append (.cons _ _ .nil)
   ·exact Nat.ne_of_lt (allLt_mem lD.2 p hp)
   ·exact hIr p (.tail _ (.tail _ hp))
  ·have hie : i = xs.length := by exact o62 hix hlt
   subst hie
   rw [List.drop_length] at hI2
   (try kd_p)
   k_steps
   all_goals (try kd_p)
   show wpAny _ _ (call _ _) _ _ _
   k_dflt (refine' parse_end ?zB ?zF ?zX ?zN ?zT ?zk hn hI2 hl2 ?zi ?zd ?zu ?_)
   case zB => k_asm
   case zF => k_asm
   case zX => k_asm
   case zN => k_asm
   case zT => k_asm
   case zk => exact rfl
   case zi =>
    rw [List.getElem?_eq_none_iff, hvs.length, List.length_map]
    show (wire xs).length ≤ (wire xs).length - 0
    exact o127
   case zd => ktr_room
   case zu => ktr_units
   intro G e t4 ws4 h4 tk4 F4 R4 U4
   show wpAny _ _ (noteFrame _ _) _ _ _
   refine caught_S0 (X := "StopIteration") (T' := "StopIteration") R4 F4 hG.below U4 XB TB hG.dicts hG.turn ?ex PyProof.Rows.Boot.«StopIteration» (by decide) owsi_raise.isExc (by rw [isSubtype_type]; kernel_rfl) isSubtype_stop ?k rfl rfl (by decide)
   case ex => k_is
   intro h5 g5 nw5 T5 F5 N5' G5 N5 B5 X5 P5 D5
   have hDI : D ≠ I := hn.neC hD2 hI2 (by simp [W.listOf])
   have hD5 : (D, W.listOf ws.toArray k) ∈ rep I (liDone ((wire xs).length - (wire []).length)) ((Ir, o') :: nw) := mem_rep_ne hD2 hDI
   clear N5'
   (try kd_p)
   k_steps
   all_goals (try kd_p)
   refine i4_4 g5 L' _ _ T5 F5 N5 (fun h₀' G' F'' N'' => hret h₀' D ws k _ _ G' F'' (fun p hp => ?_) (hnd.cons (allLt_mem lD.2)) ?_)
   ·rcases List.mem_cons.mp hp with rfl | hp
    ·exact N'' _ hD5
    ·exact N'' _ (mem_rep_ne' (.tail _ (hsub p hp)) (Nat.ne_of_lt (lI p hp)))
   ·rw [List.take_length] at hws
    exact hws
 ·intro u g₁ nw h tk hn hR0 hG F2 N2
  (try kd_p)
  refine e2_2 hR0 ?_
  (try clear hR0); intro ws k hix _
  have := wire_len xs
  exact False.elim (o89 hix this)
end
section
noncomputable def bitAt (bits : Int) (j : Nat) : Bool := decide (Int.fmod (Int.fdiv bits (2 ^ j)) 2 = 1)
noncomputable def extra (k : Nat) (bits : Int) : List Nat := if Int.fmod (Int.fdiv bits 32) 16 = 14 then [(k + 1) % 5] else if Int.fmod (Int.fdiv bits 32) 16 = 15 then [k] else []
noncomputable def waits (k : Nat) (bits : Int) : List Nat := ((List.range k).filter (bitAt bits)) ++ extra k bits
theorem news_keep {h₀ h : Heap} {L : Addr} {a : Addr × Obj} {l l' : List (Addr × Obj)} (N : News h₀ L h (a :: l)) (k : ∀ p ∈ l', p ∈ l) : News h₀ L h (a :: l') := fun p hp => N p (by
 rcases List.mem_cons.mp hp with rfl | hp
 ·exact .head _
 ·exact .tail _ (k p hp))
theorem waits_spec {w : World} {dp un : Nat} {gd : Option (List Code)} {cn : Str} {cs : Scope} {a : Addr} {ccd : Value} {cl : List (Str × Addr)} {outer : List Env} {A₀ : Around} {base h₀ : Heap} {L : Addr} {m : Str → Option Value} {news : List (Addr × Obj)} {s : Shared} {mean : ExcName → Option Value} {mg mb : Str → Option Value} {Q E : Value → Shared → Prop} (B : Below A₀ base outer h₀) (F : Fr h₀ L s.heap m) (KX : Frag.In (Mine.hd.heap_39 w.params) h₀) (N : News h₀ L s.heap news) (T : Top Mine.hd.view_39 (looseW Mine.hd.view_39 [Str.ofString "_NodeInfo"]) mean mg mb h₀) (hk : cs.kind = .function) {k : Nat} {bits : Int} {t1 t2 : Tok} (hnd : ND news) (hk5 : k < 5)
  (hd : dp + 10 < recursionLimit) (hu : un + 80 < cLine)
  (hret : ∀ D vs n h' tk', Fr h₀ L h' m → News h₀ L h' ((D, W.listOf vs.toArray n) :: news) → (∀ p ∈ news, p.1 < D) → IntsAre vs (nums (waits k bits)) → Q (.ref D) { s with heap := h', toks := tk' }) :
  wpAny (model PySem.Challenge.rw_ik0081_01.prog w) (ktrTop dp un gd cn cs L a ccd cl outer) (call (.ref 280) [.int k t1, .int bits t2]) Q E s := by
 refine wpAny_call ?_
 k_dflt k_enter
 k_steps
 all_goals (try kd_p)
 rename IsRange _ _ _ _ _ _ _ _ => hr
 rename Obj => oc
 rename Obj.data oc = _ => d1
 rename ∀ p ∈ news, _ => l1
 rename (Fr _ _ _ (bindL _ _ _)) => F1
 rename (News _ _ _ ((_, _) :: news)) => N1
 have hn1 := hnd.cons (o := oc) fun p hp => Nat.lt_succ_of_lt (l1 p hp)
 refine k_range (n := k) (fun i ys nw => nw = [] ∧ IntsAre ys (nums ((List.range i).filter (bitAt bits)))) rfl rfl rfl F1 N1 hn1 hr ?_ ?_ ⟨rfl, .nil⟩ ?_ ?_ ?_
 ·exact small_up (by decide) (by decide) (by exact uc2 (by decide)) (by exact uc1 (Nat.lt_of_lt_of_le hk5 (by decide)))
 ·rw [rangeSize_nat]; exact o16
 ·intro i ys nw hi hR0
  (try kd_p)
  refine e0_2 hR0 ?_
  (try clear hR0); intro _ hJ
  have h1 := hJ.length
  have h2 := List.length_filter_le (bitAt bits) (List.range i)
  rw [List.length_map] at h1
  rw [List.length_range] at h2
  rw [sizeLine_eq]
  exact ub1 h1 (Nat.le_trans h2 (Nat.le_trans hi (ub3 hk5 (by decide))))
 ·intro gg C i ys new₀ nw oC m₂ h tk E' hi hB hoC hJ sub0 sub1 hC ndw F2 N2
  (try kd_p)
  refine e0_2 hJ ?_
  (try clear hJ); intro hz1 hJ
  subst hz1
  refine e1_2 hB ?_
  (try clear hB); intro v hz2 hm
  obtain ⟨tv, rfl⟩ := hz2
  rw [Int.zero_add] at hm
  have hcell := sub0 _ (.head _)
  refine wpAny_tests_one ?_
  dsimp only
  (try kd_p)
  k_steps
  all_goals (try kd_p)
  ·rename _ = (1 : Int) => hb
   refine i3_7 _ _ ([]) rfl (by k_asm) (by k_asm) (fun p hp => nomatch hp) List.nodup_nil rfl ?_
   rw [List.range_succ, List.filter_append, List.filter_cons_of_pos (by simpa [bitAt] using hb), nums, List.map_append]
   exact hJ.append (.cons _ _ .nil)
  ·rename ¬ _ = (1 : Int) => hb
   refine i3_7 _ _ ([]) rfl (by k_asm) (by k_asm) (fun p hp => nomatch hp) List.nodup_nil rfl ?_
   rw [List.range_succ, List.filter_append, List.filter_cons_of_neg (by simpa [bitAt] using hb), List.filter_nil, List.append_nil]
   exact hJ
 ·intro gg R h tk ys new F2 N2 hn2 hR0
  (try kd_p)
  refine e0_2 hR0 ?_
  (try clear hR0); intro hz3 hJ
  subst hz3
  rw [List.nil_append] at N2 hn2
  have hr0 := Int.fmod_nonneg_of_pos (bits.fdiv 32) (b := 16) (by decide)
  have hr1 := Int.fmod_lt_of_pos (bits.fdiv 32) (b := 16) (by decide)
  dsimp only
  (try kd_p)
  k_steps
  all_goals (try kd_p)
  obtain h | h | h : (bits.fdiv 32).fmod 16 ≤ 13 ∨ (bits.fdiv 32).fmod 16 = 14 ∨ (bits.fdiv 32).fmod 16 = 15 := by exact o18 hr1
  have hJl := hJ.length
  rw [List.length_map] at hJl
  have hJm := List.length_filter_le (bitAt bits) (List.range k)
  rw [List.length_range] at hJm
  ·rw [show (if 0 > (bits.fdiv 32).fmod 16 - 13 then (0 : Int) else (bits.fdiv 32).fmod 16 - 13) = 0 by split <;> (first | exact rfl | exact o41 ‹_› ‹_›)]
   k_steps
   all_goals (try kd_p)
   rename (Fr h₀ L _ _) => F6
   rename (News h₀ L _ ((_, _) :: _)) => N6
   rename _ ∧ _ ∧ _ ∧ _ ∧ _ ∧ _ ∧ AllLt _ news => l5
   rename IntsAre _ (_ ++ _) => hI
   refine hret _ _ 0 _ _ F6 (news_keep N6 fun p hp => ?_) (allLt_mem l5.2.2.2.2.2.2) ?_
   ·exact .tail _ (.tail _ (.tail _ (.tail _ (.tail _ (.tail _ hp)))))
   ·rw [waits, nums, List.map_append, show extra k bits = [] by rw [extra, if_neg (by exact fun hom => o92 h hom (by decide)), if_neg (by exact fun hom => o92 h hom (by decide))]]
    exact hI
  ·rw [show (if 0 > (bits.fdiv 32).fmod 16 - 13 then (0 : Int) else (bits.fdiv 32).fmod 16 - 13) = 1 by split <;> (first | exact False.elim (o95 ‹_› ‹_› (by decide)) | exact o85 h (by decide))]
   k_steps
   all_goals (try kd_p)
   show wpAny _ _ (binaryOp _ (Value.ref R) (Value.ref _)) _ _ _
   k_dflt (refine' kmk_add_ints (vs := ys) (ws := [_]) ?zF ?zN ?za ?zb hJ (.cons _ _ .nil) ?_ ?zz)
   case zF => k_asm
   case zN => k_asm
   case za => exact News.isList (by k_asm) (by k_mem)
   case zb => exact News.isList (by k_asm) (by k_mem)
   case zz => rw [nums, List.length_map]; simp only [List.length_cons, List.length_nil]; rw [sizeLine_eq]; (have hq := List.length_filter_le (bitAt bits) (List.range k)); rw [List.length_range] at hq; exact ub10 (Nat.le_trans hq (ub3 hk5 (by decide))) (by decide)
   intro D us h5 F5 N5 l5 hI
   k_steps
   all_goals (try kd_p)
   rename (Fr h₀ L _ _) => F6
   rename (News h₀ L _ _) => N6
   refine hret _ _ 0 _ _ F6 (news_keep N6 fun p hp => ?_) (fun p hp => l5 p ?_) ?_
   ·exact .tail _ (.tail _ (.tail _ (.tail _ (.tail _ (.tail _ hp)))))
   ·exact .tail _ (.tail _ (.tail _ (.tail _ (.tail _ (.tail _ hp)))))
   ·rw [waits, nums, List.map_append, show extra k bits = [(k + 1) % 5] by rw [extra, if_pos h]]
    rw [show ((k : Int) + 1).fmod 5 = Int.ofNat ((k + 1) % 5) by rw [Int.fmod_eq_emod_of_nonneg _ (by decide)]; rfl] at hI
    exact hI
  ·rw [show (if 0 > (bits.fdiv 32).fmod 16 - 13 then (0 : Int) else (bits.fdiv 32).fmod 16 - 13) = 2 by split <;> (first | exact False.elim (o95 ‹_› ‹_› (by decide)) | exact o85 h (by decide))]
   k_steps
   all_goals (try kd_p)
   show wpAny _ _ (binaryOp _ (Value.ref R) (Value.ref _)) _ _ _
   k_dflt (refine' kmk_add_ints (vs := ys) (ws := [_]) ?zF ?zN ?za ?zb hJ (.cons _ _ .nil) ?_ ?zz)
   case zF => k_asm
   case zN => k_asm
   case za => exact News.isList (by k_asm) (by k_mem)
   case zb => exact News.isList (by k_asm) (by k_mem)
   case zz => rw [nums, List.length_map]; simp only [List.length_cons, List.length_nil]; rw [sizeLine_eq]; (have hq := List.length_filter_le (bitAt bits) (List.range k)); rw [List.length_range] at hq; exact ub10 (Nat.le_trans hq (ub3 hk5 (by decide))) (by decide)
   intro D us h5 F5 N5 l5 hI
   k_steps
   all_goals (try kd_p)
   rename (Fr h₀ L _ _) => F6
   rename (News h₀ L _ _) => N6
   refine hret _ _ 0 _ _ F6 (news_keep N6 fun p hp => ?_) (fun p hp => l5 p ?_) ?_
   ·exact .tail _ (.tail _ (.tail _ (.tail _ (.tail _ (.tail _ hp)))))
   ·exact .tail _ (.tail _ (.tail _ (.tail _ (.tail _ (.tail _ hp)))))
   ·rw [waits, nums, List.map_append, show extra k bits = [k] by rw [extra, if_neg (by exact fun hom => o146 h hom), if_pos h]]
    exact hI
end
section
section
variable {prog : Program} {w : World} {A : Around} {E : Value → Shared → Prop} {s : Shared} {h₀ : Heap} {L : Addr} {news : List (Addr × Obj)}
theorem item_nat {value slice : PySem.Expr} {a : Addr} {l : List Value} {n k : Nat} {u : Tok} {x : Value} {Q : Value → Shared → Prop} (N : News h₀ L s.heap news) (hm : (a, W.listOf l.toArray n) ∈ news)
  (hx : l[k]? = some x) (hk : k < 1000000) (h : Q x s)
  (hs : subscripted slice false (.ref a) (.int (k : Int) u) = operate [.ref a, .int (k : Int) u] (getItem (.ref a) (.int (k : Int) u))) (hg : ∀ r, letTemporaryGo value (.ref a) r = pure ()) :
  wpAny (model prog w) A (subscriptTail value slice (.ref a) (.int (k : Int) u)) Q E s :=
 item_listL (News.isList N hm) (by exact Int.natCast_nonneg _) (by exact uc1 (Nat.lt_of_lt_of_le hk (by decide))) (by simpa using hx) h hs hg
theorem item_at {value slice : PySem.Expr} {a : Addr} {l : List Value} {n : Nat} {k : Int} {u : Tok} {x : Value} {Q : Value → Shared → Prop} (N : News h₀ L s.heap news) (hm : (a, W.listOf l.toArray n) ∈ news)
  (h0 : 0 ≤ k) (h1 : k < 2 ^ 63) (hx : l[k.toNat]? = some x) (h : Q x s)
  (hs : subscripted slice false (.ref a) (.int k u) = operate [.ref a, .int k u] (getItem (.ref a) (.int k u))) (hg : ∀ r, letTemporaryGo value (.ref a) r = pure ()) :
  wpAny (model prog w) A (subscriptTail value slice (.ref a) (.int k u)) Q E s :=
 item_listL (News.isList N hm) h0 h1 hx h hs hg
end
structure RowsIn (nw : List (Addr × Obj)) (Rw : Addr) (sz : Nat → Int) (need : Nat → List Nat) : Prop where
 rows : ∃ rs kR, (Rw, W.listOf (List.map Value.ref rs).toArray kR) ∈ nw ∧ rs.length = 5 ∧ ∀ i r, rs[i]? = some r → ∃ Wn ts kk vs kv, (r, W.listOf #[.int (sz i) ts, .ref Wn] kk) ∈ nw ∧ (Wn, W.listOf vs.toArray kv) ∈ nw ∧ IntsAre vs (nums (need i))
noncomputable def free1 (need : Nat → List Nat) (known : List Nat) (k : Nat) : Bool := !known.contains k && ((need k).filter fun j => !known.contains j).isEmpty
noncomputable def freeOf (need : Nat → List Nat) (known : List Nat) : List Nat := (List.range 5).filter (free1 need known)
inductive ListsAre (nw : List (Addr × Obj)) : List Value → List (List Nat) → Prop
 | nil : ListsAre nw [] []
 | cons {a : Addr} {v : List Value} {k : Nat} {r : List Nat} {vs : List Value} {rs : List (List Nat)} : (a, W.listOf v.toArray k) ∈ nw → IntsAre v (nums r) → ListsAre nw vs rs → ListsAre nw (.ref a :: vs) (r :: rs)
theorem ListsAre.mono {nw nw' : List (Addr × Obj)} {vs : List Value} {rs : List (List Nat)} (h : ListsAre nw vs rs) (k : ∀ p ∈ nw, p ∈ nw') : ListsAre nw' vs rs := by
 induction h with
 | nil => exact .nil
 | cons h1 h2 _ ih => exact .cons (k _ h1) h2 ih
theorem ListsAre.app {nw : List (Addr × Obj)} {vs us : List Value} {rs qs : List (List Nat)} (h : ListsAre nw vs rs) (k : ListsAre nw us qs) : ListsAre nw (vs ++ us) (rs ++ qs) := by
 induction h with
 | nil => exact k
 | cons h1 h2 _ ih => exact .cons h1 h2 ih
theorem ListsAre.length {nw : List (Addr × Obj)} {vs : List Value} {rs : List (List Nat)} (h : ListsAre nw vs rs) : vs.length = rs.length := by
 induction h with
 | nil => rfl
 | cons _ _ _ ih => simp [ih]
theorem ListsAre.take {nw : List (Addr × Obj)} {vs : List Value} {rs : List (List Nat)} (h : ListsAre nw vs rs) : ∀ n, ListsAre nw (vs.take n) (rs.take n) := by
 induction h with
 | nil => intro n; rw [List.take_nil, List.take_nil]; exact .nil
 | cons h1 h2 _ ih =>
  intro n
  cases n with
  | zero => exact .nil
  | succ n => exact .cons h1 h2 (ih n)
noncomputable def roundsGo (need : Nat → List Nat) : Nat → List Nat → List (List Nat)
 | 0, _ => []
 | n + 1, known => if freeOf need known = [] then [] else freeOf need known :: roundsGo need n (known ++ freeOf need known)
noncomputable def rounds (need : Nat → List Nat) : List (List Nat) := roundsGo need 6 []
theorem freeOf_new {need : Nat → List Nat} {known : List Nat} {k : Nat} (h : k ∈ freeOf need known) : k < 5 ∧ k ∉ known := by
 (try kd_p)
 refine e0_2 (List.mem_filter.mp h) ?_
 intro h1 h2
 refine ⟨List.mem_range.mp h1, fun q => ?_⟩
 rw [free1, List.contains_iff_mem.mpr q] at h2
 simp at h2
theorem freeOf_nodup (need : Nat → List Nat) (known : List Nat) : (freeOf need known).Nodup := List.Nodup.sublist List.filter_sublist List.nodup_range
theorem known_len {need : Nat → List Nat} {known : List Nat} (hn : known.Nodup) (h5 : ∀ j ∈ known, j < 5) : known.length ≤ 5 := nodup_len 5 _ hn h5
theorem known_add {need : Nat → List Nat} {known : List Nat} (hn : known.Nodup) (h5 : ∀ j ∈ known, j < 5) : (known ++ freeOf need known).Nodup ∧ ∀ j ∈ known ++ freeOf need known, j < 5 := by
 refine ⟨List.nodup_append.mpr ⟨hn, freeOf_nodup _ _, fun a ha b hb e => (freeOf_new hb).2 (e ▸ ha)⟩, fun j hj => ?_⟩
 rcases List.mem_append.mp hj with hj | hj
 ·exact h5 j hj
 ·exact (freeOf_new hj).1
theorem roundsGo_fuel (need : Nat → List Nat) : ∀ (n m : Nat) (known : List Nat), known.Nodup → (∀ j ∈ known, j < 5) → 6 - known.length ≤ n → 6 - known.length ≤ m → roundsGo need n known = roundsGo need m known
 | 0, _, known, hn, h5, h1, _ => by have := known_len (need := need) hn h5; exact False.elim (o37 h1 this)
 | n + 1, 0, known, hn, h5, _, h1 => by have := known_len (need := need) hn h5; exact False.elim (o37 h1 this)
 | n + 1, m + 1, known, hn, h5, h1, h2 => by
  have hl := known_len (need := need) hn h5
  rw [roundsGo, roundsGo]
  by_cases hf : freeOf need known = []
  ·rw [if_pos hf, if_pos hf]
  ·rw [if_neg hf, if_neg hf]
   have hp : 0 < (freeOf need known).length := List.length_pos_iff.mpr hf
   (try kd_p)
   first | refine e1_1 (known_add (need := need) hn h5) ?_ | refine e0_2 (known_add (need := need) hn h5) ?_
   intro a b
   rw [roundsGo_fuel need n m _ a b (by rw [List.length_append]; (exact o7 h1 hp)) (by rw [List.length_append]; (exact o7 h2 hp))]
theorem roundsGo_step {need : Nat → List Nat} {known : List Nat} (hn : known.Nodup) (h5 : ∀ j ∈ known, j < 5) (hf : freeOf need known ≠ []) :
  roundsGo need (6 - known.length) known = freeOf need known :: roundsGo need (6 - (known ++ freeOf need known).length) (known ++ freeOf need known) := by
 have hl := known_len (need := need) hn h5
 have hp : 0 < (freeOf need known).length := List.length_pos_iff.mpr hf
 (try kd_p)
 first | refine e1_1 (known_add (need := need) hn h5) ?_ | refine e0_2 (known_add (need := need) hn h5) ?_
 intro a b
 rw [show 6 - known.length = (5 - known.length) + 1 by (exact Nat.succ_sub hl), roundsGo, if_neg hf]
 rw [roundsGo_fuel need (5 - known.length) (6 - (known ++ freeOf need known).length) _ a b (by rw [List.length_append]; (exact o43 hp)) (Nat.le_refl _)]
theorem map_sw {A B : Str} {a b a' b' : Option Value} {m : Str → Option Value} (h : A ≠ B) : (fun y => if y = B then b else if y = A then a else (if y = A then a' else if y = B then b' else m y)) = fun y => if y = A then a else if y = B then b else m y := by
 funext y
 by_cases h1 : y = A
 ·subst h1
  simp only [if_neg h, if_pos rfl, if_true]
 ·by_cases h2 : y = B
  ·simp only [if_neg h1, if_pos h2]
  ·simp only [if_neg h1, if_neg h2]
theorem any_nums (l : List Nat) (i : Nat) : ((nums l).any fun x => x == (i : Int)) = l.contains i := by
 rw [List.any_map, ← List.any_beq']
 congr 1
 funext x
 show (Int.ofNat x == (i : Int)) = (x == i)
 by_cases h : x = i
 ·subst h; simp
 ·rw [beq_false_of_ne h]
  exact beq_false_of_ne (fun e => h (Int.ofNat.inj e))
theorem mem_rep_lst {nw : List (Addr × Obj)} {c a : Addr} {oK o' : Obj} {v : Option Value} {its : Array Value} {k : Nat} (hn : ND nw) (hc : (c, oK) ∈ nw) (hd : oK.data = .cell v) (h : (a, W.listOf its k) ∈ nw) : (a, W.listOf its k) ∈ rep c o' nw :=
 mem_rep_ne h (hn.ne h hc fun e => by rw [← e] at hd; cases hd)
theorem ListsAre.rep {nw : List (Addr × Obj)} {c : Addr} {oK o' : Obj} {v : Option Value} {vs : List Value} {rs : List (List Nat)} (h : ListsAre nw vs rs) (hn : ND nw) (hc : (c, oK) ∈ nw) (hd : oK.data = .cell v) : ListsAre (Mine.rep c o' nw) vs rs := by
 induction h with
 | nil => exact .nil
 | cons h1 h2 _ ih => exact .cons (mem_rep_lst hn hc hd h1) h2 ih
theorem pick_init (l : List Value) : kms_pick l none (some (-1)) = l.take (l.length - 1) := by
 unfold kms_pick kms_lo kms_hi
 simp
theorem rounds_spec {w : World} {dp un : Nat} {gd : Option (List Code)} {cn : Str} {cs : Scope} {a : Addr} {ccd : Value} {cl : List (Str × Addr)} {outer : List Env} {A₀ : Around} {base h₀ : Heap} {L : Addr} {m : Str → Option Value} {news : List (Addr × Obj)} {s : Shared} {mean : ExcName → Option Value} {mg mb : Str → Option Value} {Q E : Value → Shared → Prop} (B : Below A₀ base outer h₀) (F : Fr h₀ L s.heap m) (KX : Frag.In (Mine.hd.heap_39 w.params) h₀) (N : News h₀ L s.heap news) (T : Top Mine.hd.view_39 (looseW Mine.hd.view_39 [Str.ofString "_NodeInfo"]) mean mg mb h₀) (hk : cs.kind = .function) {Rw : Addr} {sz : Nat → Int} {need : Nat → List Nat} (hnd : ND news) (hR : RowsIn news Rw sz need) (hneed : ∀ k, (need k).length ≤ 1000)
  (hd : dp + 10 < recursionLimit) (hu : un + 240 < cLine)
  (hret : ∀ D rv k nw' h' tk', Fr h₀ L h' m → News h₀ L h' nw' → ND nw' → (∀ p ∈ news, p ∈ nw') → (D, W.listOf rv.toArray k) ∈ nw' → ListsAre nw' rv (rounds need) → Q (.ref D) { s with heap := h', toks := tk' }) :
  wpAny (model PySem.Challenge.rw_ik0081_01.prog w) (ktrTop dp un gd cn cs L a ccd cl outer) (call (.ref 285) [.ref Rw]) Q E s := by
 refine wpAny_call ?_
 k_dflt k_enter
 k_steps
 rename_i g₀ L' _ tk0 FG1 B1 X1 T1 l0 _ oR _ dR K _ lK Rd _ lRd Fa _ lFa Dt _ lDt _ _ oK dK _ _ F1 N1
 all_goals (try kd_p)
 have hn1 : ND ((L' + 1, oR) :: news) := hnd.cons fun p hp => Nat.lt_succ_of_lt (l0 p hp)
 have hn2 : ND ((L' + 1 + 1, oK) :: (L' + 1, oR) :: news) := hn1.cons fun p hp => by
  rcases List.mem_cons.mp hp with rfl | hp
  ·exact Nat.lt_succ_self _
  ·exact Nat.lt_succ_of_lt (Nat.lt_succ_of_lt (l0 p hp))
 have hn3 : ND ((Fa, W.listOf #[Value.int 0 tk0] 0) :: (Rd, W.listOf #[] 0) :: (K, W.listOf #[] 0) :: (L' + 1 + 1, oK) :: (L' + 1, oR) :: news) :=
  ((hn2.cons (a := K) (allLt_mem lK)).cons (a := Rd) (allLt_mem lRd)).cons (allLt_mem lFa)
 have N2 : News g₀ L' _ ((Fa, W.listOf #[Value.int 0 tk0] 0) :: (Rd, W.listOf #[] 0) :: (K, W.listOf #[] 0) :: (L' + 1 + 1, oK) :: (L' + 1, oR) :: news) := fun p hp => N1 p (.tail _ hp)
 have dR' : oR.data = .cell (some (.ref Rw)) := dR
 clear N1 dR
 show wpAny _ _ (exec (.While _ _ _ _) _) _ _ _
 (try kd_p)
 obtain ⟨mB, F2⟩ : ∃ mB : Str → Option Value, Fr g₀ L' _ (fun y => if y = Str.ofString "free" then some (.ref Fa) else if y = Str.ofString "rounds" then some (.ref Rd) else mB y) := ⟨_, F1⟩
 clear F1
 refine while_G (s := s) (fun g => g = g₀) (fun n (σ : List Nat × List (List Nat) × List Nat) nw m₂ => ∃ K Rd Fa kv rv fv k1 k2 k3 oK, ND nw ∧ (L' + 1 + 1, oK) ∈ nw ∧ oK.data = .cell (some (.ref K)) ∧ (K, W.listOf kv.toArray k1) ∈ nw ∧ IntsAre kv (nums σ.1) ∧
   (Rd, W.listOf rv.toArray k2) ∈ nw ∧ ListsAre nw rv σ.2.1 ∧ (Fa, W.listOf fv.toArray k3) ∈ nw ∧ IntsAre fv (nums σ.2.2) ∧ (L' + 1, oR) ∈ nw ∧ (∀ p ∈ news, p ∈ nw) ∧ σ.1.Nodup ∧ (∀ j ∈ σ.1, j < 5) ∧ n = (if σ.2.2 = [] then 0 else 6 - σ.1.length) ∧
   (if σ.2.2 = [] then σ.2.1 = rounds need ++ [[]] else σ.2.1 ++ roundsGo need (6 - σ.1.length) σ.1 ++ [[]] = rounds need ++ [[]]) ∧ σ.2.1.length + n ≤ 7 ∧ σ.2.2.length ≤ 5 ∧
   m₂ = (fun y => if y = Str.ofString "free" then some (.ref Fa) else if y = Str.ofString "rounds" then some (.ref Rd) else mB y)) 6 ([], [], [0]) rfl rfl F2 N2
  (i10_18 K Rd Fa ([]) ([]) _ 0 0 0 oK hn3 (.tail _ (.tail _ (.tail _ (.head _)))) dK (.tail _ (.tail _ (.head _))) .nil (.tail _ (.head _)) .nil (.head _) (.cons _ _ .nil) (.tail _ (.tail _ (.tail _ (.tail _ (.head _))))) (fun p hp => .tail _ (.tail _ (.tail _ (.tail _ (.tail _ hp))))) List.nodup_nil (fun j hj => nomatch hj) rfl rfl (by decide) (by decide) rfl) ?_
 intro n hR0 g nw m₂ h tk hR1 hR2 F3 N3
 (try kd_p)
 obtain ⟨known, rs, free⟩ := hR0
 refine e10_18 hR1 ?_
 (try clear hR1); intro K Rd Fa kv rv fv k1 k2 k3 oK hn hcK dK hK hkv hRd hrv hFa hfv hcR hsub hkn hk5 hz1 hres hrl hfl hz2
 subst hz1
 subst hz2
 obtain rfl := hR2
 dsimp only at hkv hrv hfv hkn hk5 hres hrl hfl F3
 have hkl := known_len (need := need) hkn hk5
 have hkvl := hkv.length
 have hfvl := hfv.length
 have hrvl := hrv.length
 rw [List.length_map] at hkvl hfvl
 (try kd_p)
 refine e2_3 hR.rows ?_
 intro rows kR hRw hr5 hrow
 (try kd_p)
 k_steps
 all_goals (try kd_p)
 ·rename decide _ = true => hdc
  have hf : free = [] := by simpa using hdc
  subst hf
  rw [if_pos rfl] at hres hrl
  rename (News g _ _ ((_, _) :: nw)) => N4'
  rename ∀ p ∈ nw, _ => l4
  (try kd_p)
  obtain ⟨nw4, N4, hn4, hRd4, sub4⟩ : ∃ nw4, News g L' _ nw4 ∧ ND nw4 ∧ (Rd, W.listOf rv.toArray k2) ∈ nw4 ∧ ∀ p ∈ nw, p ∈ nw4 := ⟨_, N4', hn.cons l4, .tail _ hRd, fun p hp => .tail _ hp⟩
  clear N4'
  k_steps
  all_goals (try kd_p)
  rename (Fr h₀ L _ _) => F6
  rename (News h₀ L _ _) => N6
  rename ∀ p ∈ nw4, _ => l6
  refine hret _ _ 0 _ _ _ F6 N6 (hn4.cons l6) (fun p hp => .tail _ (sub4 _ (hsub p hp))) (.head _) ?_
  rw [pick_init, hrvl, hres, List.length_append, List.length_singleton, Nat.add_sub_cancel]
  have z := (hrv.mono fun p hp => sub4 p hp).take (rounds need).length
  rw [hres, List.take_left'  rfl] at z
  exact z.mono fun p hp => .tail _ hp
 ·rename decide _ = false => hdc
  have hf : free ≠ [] := by simpa using hdc
  rw [if_neg hf] at hres hrl
  rename IsRange _ _ _ _ _ _ _ _ => hr
  rename (Fr g _ _ _) => F5
  rename (News g _ _ ((_, _) :: nw)) => N5
  rename ∀ p ∈ nw, _ => l4
  have hn4 := hn.cons (o := W.listOf #[] 0) l4
  refine k_range (n := 5) (fun i ys new => new = [] ∧ IntsAre ys (nums ((List.range i).filter (free1 need known)))) rfl rfl rfl F5 N5 hn4 hr ?_ ?_ ⟨rfl, .nil⟩ ?_ ?_ ?_
  ·exact small_up (by decide) (by decide) (by decide) (by decide)
  ·rw [rangeSize_nat]; rfl
  ·intro i ys new hi hR0
   (try kd_p)
   refine e0_2 hR0 ?_
   (try clear hR0); intro _ hJ
   have h1 := hJ.length
   have h2 := List.length_filter_le (free1 need known) (List.range i)
   rw [List.length_map] at h1
   rw [List.length_range] at h2
   rw [sizeLine_eq]
   exact ub1 h1 (Nat.le_trans h2 (Nat.le_trans hi (by decide)))
  ·intro gg C i ys new₀ nw2 oC m₂ h tk E' hi hB hoC hJ sub0 sub1 hC ndw F6 N6
   (try kd_p)
   refine e0_2 hJ ?_
   (try clear hJ); intro hz3 hJ
   subst hz3
   refine e1_2 hB ?_
   (try clear hB); intro v hz4 hm
   obtain ⟨tv, rfl⟩ := hz4
   rw [Int.zero_add] at hm
   have hcK6 := sub0 _ (.tail _ hcK)
   have hcR6 := sub0 _ (.tail _ hcR)
   have hK6 := sub0 _ (.tail _ hK)
   have hRw6 := sub0 _ (.tail _ (hsub _ hRw))
   (try kd_p)
   obtain ⟨r, hri⟩ : ∃ r, rows[i]? = some r := ⟨rows[i]'(by exact ul3 hi hr5), List.getElem?_eq_getElem (by exact ul3 hi hr5)⟩
   have hri' : (List.map Value.ref rows)[i]? = some (.ref r) := by rw [List.getElem?_map, hri]; rfl
   (try kd_p)
   refine e5_3 (hrow i r hri) ?_
   intro Wn ts kk vs kv' hr1 hr2 hr3
   have hr16 := sub0 _ (.tail _ (hsub _ hr1))
   have hr26 := sub0 _ (.tail _ (hsub _ hr2))
   refine wpAny_tests_one ?_
   dsimp only
   (try kd_p)
   k_steps
   all_goals (try kd_p)
   ·rename List.any _ _ = true => hk
    have hc : ¬ free1 need known i = true := by
     rw [any_nums] at hk
     rw [free1, hk]
     simp
    refine i3_7 _ _ ([]) rfl F6 N6 (fun p hp => nomatch hp) List.nodup_nil rfl ?_
    rw [List.range_succ, List.filter_append, List.filter_cons_of_neg hc, List.filter_nil, List.append_nil]
    exact hJ
   ·rename List.any _ _ = false => hk
    rw [any_nums] at hk
    refine k_list (o := W.listOf vs.toArray kv') (its := vs.toArray) (fun j ys2 new => new = [] ∧ IntsAre ys2 (nums (((need i).take j).filter fun x => !known.contains x))) rfl rfl rfl F6 (by exact N6) ndw hr26 rfl ⟨_, rfl⟩ ⟨rfl, .nil⟩ ?_ ?_ ?_
    ·intro j ys2 new hj hR0
     (try kd_p)
     refine e0_2 hR0 ?_
     (try clear hR0); intro _ hJ2
     have h1 := hJ2.length
     have h2 := List.length_filter_le (fun x => !known.contains x) ((need i).take j)
     have h3 := hneed i
     rw [List.length_map] at h1
     rw [List.length_take] at h2
     rw [sizeLine_eq]
     exact ub1 h1 (Nat.le_trans h2 (ub5 (Nat.le_trans h3 (by decide))))
    ·intro g2 C2 j ys2 new₂ nw3 oC2 m3 h3 tk3 E3 hj hB2 hoC2 hJ2 s0 s1 hC2 ndw2 F7 N7
     (try kd_p)
     refine e0_2 hJ2 ?_
     (try clear hJ2); intro hz5 hJ2
     subst hz5
     refine e1_2 hB2 ?_
     (try clear hB2); intro v hv hm3
     rw [List.getElem?_toArray] at hv
     (try kd_p)
     refine e2_2 (hr3.at j v hv) ?_
     intro nv tv2 hz6 hnv
     subst hz6
     rw [List.getElem?_map] at hnv
     (try kd_p)
     refine e1_2 (Option.map_eq_some_iff.mp hnv) ?_
     intro x hx hz7
     subst hz7
     have hcK7 := s0 _ hcK6
     have hK7 := s0 _ hK6
     have htake : (need i).take (j + 1) = (need i).take j ++ [x] := by rw [List.take_add_one, hx, Option.toList_some]
     refine wpAny_tests_one ?_
     dsimp only
     (try kd_p)
     k_steps
     all_goals (try kd_p)
     ·rename List.any _ _ = true => hk2
      have hk3 := (any_nums known x).symm.trans hk2
      refine i3_7 _ _ ([]) rfl F7 N7 (fun p hp => nomatch hp) List.nodup_nil rfl ?_
      rw [htake, List.filter_append, List.filter_cons_of_neg (by rw [hk3]; simp), List.filter_nil, List.append_nil]
      exact hJ2
     ·rename List.any _ _ = false => hk2
      have hk3 := (any_nums known x).symm.trans hk2
      refine i3_7 _ _ ([]) rfl F7 N7 (fun p hp => nomatch hp) List.nodup_nil rfl ?_
      rw [htake, List.filter_append, List.filter_cons_of_pos (by rw [hk3]; rfl), nums, List.map_append]
      exact hJ2.append (.cons _ _ .nil)
    ·intro g2 D2 h4 tk4 ys2 new F8 N8 hn8 hR0
     (try kd_p)
     refine e0_2 hR0 ?_
     (try clear hR0); intro hz8 hJ2
     subst hz8
     rw [List.nil_append] at N8 hn8
     dsimp only
     (try kd_p)
     rw [List.size_toArray, hr3.length, List.length_map, List.take_length] at hJ2
     k_steps
     all_goals (try kd_p)
     ·rename decide _ = true => hd2
      have hfree : free1 need known i = true := by
       rw [decide_eq_true_eq, nums, List.map_eq_nil_iff] at hd2
       rw [free1, hk, hd2]; rfl
      rename (Fr g _ _ _) => F9
      rename (News g _ _ ((_, _) :: _)) => N9
      refine i3_7 _ _ ([]) rfl F9 (fun p hp => N9 p (.tail _ (.tail _ hp))) (fun p hp => nomatch hp) List.nodup_nil rfl ?_
      rw [List.range_succ, List.filter_append, List.filter_cons_of_pos hfree, nums, List.map_append]
      exact hJ.append (.cons _ _ .nil)
     ·rename decide _ = false => hd2
      have hfree : ¬ free1 need known i = true := by
       rw [decide_eq_false_iff_not, nums, List.map_eq_nil_iff] at hd2
       rw [free1, hk, Bool.not_false, Bool.true_and, List.isEmpty_iff]
       exact hd2
      rename (Fr g _ _ _) => F9
      rename (News g _ _ ((_, _) :: _)) => N9
      refine i3_7 _ _ ([]) rfl F9 (fun p hp => N9 p (.tail _ (.tail _ hp))) (fun p hp => nomatch hp) List.nodup_nil rfl ?_
      rw [List.range_succ, List.filter_append, List.filter_cons_of_neg hfree, List.filter_nil, List.append_nil]
      exact hJ
  ·intro gg Fb h5 tk5 ys new F6 N6 hn6 hR0
   (try kd_p)
   refine e0_2 hR0 ?_
   (try clear hR0); intro hz9 hJ
   subst hz9
   rw [List.nil_append] at N6 hn6
   dsimp only at F6 hJ
   have hJl := hJ.length
   have hfo : (List.range 5).filter (free1 need known) = freeOf need known := rfl
   rw [hfo] at hJ hJl
   have hfol := nodup_len 5 _ (freeOf_nodup need known) fun j hj => (freeOf_new hj).1
   rw [List.length_map] at hJl
   (try kd_p)
   obtain ⟨nw7, N7, hn7, hFb7, sub7⟩ : ∃ nw7, News g _ h5 nw7 ∧ ND nw7 ∧ (Fb, W.listOf ys.toArray ys.length) ∈ nw7 ∧ ∀ p ∈ nw, p ∈ nw7 := ⟨_, N6, hn6, .head _, fun p hp => .tail _ (.tail _ hp)⟩
   clear N6 hn6
   have hcK7 := sub7 _ hcK
   have hK7 := sub7 _ hK
   have hRd7 := sub7 _ hRd
   dsimp only
   (try kd_p)
   k_steps
   rename IntsAre _ (_ ++ _) => hI7
   rename_i K7 ws7 _ lK7 S7 _ F8 N8 lS7
   all_goals (try kd_p)
   show wpAny _ _ (binaryOp _ _ _) _ _ _
   k_dflt (refine' kmk_add_lit (its := rv.toArray) (its2 := #[.ref Fb]) ?zF ?zN ?za ?zb rfl ?_ ?zz)
   case zF => k_asm
   case zN => exact N8
   case za => exact News.isList N8 (.tail _ (.tail _ hRd7))
   case zb => exact News.isList N8 (.head _)
   case zz => simp only [List.length_cons, List.length_nil]; rw [sizeLine_eq]; exact ub10 (ub1 hrvl (ub8 hrl (by decide))) (by decide)
   intro R7 h9 F9 N9 lR7
   clear N8
   (try kd_p)
   k_steps
   all_goals (try kd_p)
   rename (Fr g _ _ _) => F10
   rename (News g _ _ ((_, _) :: (R7, _) :: _)) => N10'
   have hnS : ND ((S7, W.listOf #[Value.ref Fb] 0) :: (K7, W.listOf ws7.toArray 0) :: nw7) := (hn7.cons lK7).cons (allLt_mem lS7)
   (try kd_p)
   obtain ⟨nw8, N8, hn8, hcK8, hK8, hR8, sub8⟩ : ∃ nw8, News g L' _ nw8 ∧ ND nw8 ∧ (L' + 1 + 1, oK) ∈ nw8 ∧ (K7, W.listOf ws7.toArray 0) ∈ nw8 ∧ (R7, W.listOf (rv ++ [Value.ref Fb]).toArray 0) ∈ nw8 ∧ ∀ p ∈ nw7, p ∈ nw8 :=
    ⟨_, fun p hp => N10' p (.tail _ hp), hnS.cons lR7, .tail _ (.tail _ (.tail _ hcK7)), .tail _ (.tail _ (.head _)), .head _, fun p hp => .tail _ (.tail _ (.tail _ hp))⟩
   clear N10'
   k_steps
   all_goals (try kd_p)
   rename (Fr g _ _ _) => F11
   rename (News g _ _ (rep _ _ nw8)) => N11
   rename Obj.data _ = Data.cell (some (Value.ref K7)) => d11
   rename Obj => oK2
   have hsw : (Str.ofString "free") ≠ Str.ofString "rounds" := by decide
   have hadd := known_add (need := need) hkn hk5
   refine turnG_w (g' := g) (n' := (if freeOf need known = [] then 0 else 6 - (known ++ freeOf need known).length)) (σ' := (known ++ freeOf need known, rs ++ [freeOf need known], freeOf need known)) rfl F11 N11 ?_ (i10_18 K7 R7 Fb ws7 (rv ++ [Value.ref Fb]) ys 0 0 ys.length oK2 hn8.rep (mem_rep_self hcK8) d11 (mem_rep_lst hn8 hcK8 dK hK8) (by rw [nums, List.map_append]; exact hI7) (mem_rep_lst hn8 hcK8 dK hR8) ?_ (mem_rep_lst hn8 hcK8 dK (sub8 _ hFb7)) hJ ?_ ?_ hadd.1 hadd.2 rfl ?_ ?_ hfol (map_sw hsw))
   ·show _ < (if free = [] then 0 else 6 - known.length)
    rw [if_neg hf, List.length_append]
    by_cases hfe : freeOf need known = []
    ·rw [if_pos hfe]; exact o44 hkl
    ·rw [if_neg hfe]
     have := List.length_pos_iff.mpr hfe
     exact o5 hkl this
   ·refine ListsAre.rep (ListsAre.app (hrv.mono fun p hp => sub8 p (sub7 p hp)) (.cons (sub8 _ hFb7) hJ .nil)) hn8 hcK8 dK
   ·exact mem_rep_ne (sub8 _ (sub7 _ hcR)) (fun e => absurd e (Nat.ne_of_lt (Nat.lt_succ_self _)))
   ·intro p hp
    exact mem_rep_ne' (sub8 _ (sub7 _ (hsub p hp))) (Nat.ne_of_lt (Nat.lt_succ_of_lt (Nat.lt_succ_of_lt (l0 p hp))))
   ·dsimp only
    by_cases hfe : freeOf need known = []
    ·rw [if_pos hfe, hfe]
     have h6 : roundsGo need (6 - known.length) known = [] := by
      rw [show 6 - known.length = (5 - known.length) + 1 by (exact Nat.succ_sub hkl), roundsGo, if_pos hfe]
     rw [h6, List.append_nil] at hres
     exact hres
    ·rw [if_neg hfe]
     rw [roundsGo_step hkn hk5 hfe] at hres
     rw [List.append_assoc rs]
     exact hres
   ·dsimp only
    rw [List.length_append, List.length_append, List.length_singleton]
    by_cases hfe : freeOf need known = []
    ·rw [if_pos hfe]; exact o14 hrl hkl
    ·rw [if_neg hfe]
     have := List.length_pos_iff.mpr hfe
     exact o6 hkl this hrl
end
section
local macro_rules | `(tactic| walk_at "call builtin:str.split") => `(tactic| (k_extra "W46"; (intro D' l' h' k' e' a' F' N' l1); (try k_lt l1)))
theorem TabAre.rep {nw : List (Addr × Obj)} {c : Addr} {oK o' : Obj} {v : Option Value} {vs : List Value} {rs : List (List Str)} (h : TabAre nw vs rs) (hn : ND nw) (hc : (c, oK) ∈ nw) (hd : oK.data = .cell v) : TabAre (Mine.rep c o' nw) vs rs := by
 induction h with
 | nil => exact .nil
 | cons h1 h2 _ ih => exact .cons (mem_rep_lst hn hc hd h1) h2 ih
theorem strs_pick1 {us : List Value} {xs : List Str} (h : StrsAre us xs) (n : Nat) : StrsAre (kms_pick us none (some ((n : Int) + 1))) (xs.take (n + 1)) := by
 rw [pick_take1]
 exact StrsAre.takeN h (n + 1)
theorem strs_pick0 {us : List Value} {xs : List Str} (h : StrsAre us xs) (n : Nat) : StrsAre (kms_pick us none (some (n : Int))) (xs.take n) := by
 rw [pick_take]
 exact StrsAre.takeN h n
local macro_rules | `(tactic| walk_at "subscriptTail") => `(tactic| k_extra "W61")
local macro_rules | `(tactic| walk_at "subscriptTail Name Slice ref ref") => `(tactic| (k_extra "W62"; intro D' h' F' N' l1; (try k_lt l1)))
local macro_rules | `(tactic| walk_at "last subscriptTail") => `(tactic| (k_extra "W62"; intro D' h' F' N' l1; (try k_lt l1)))
local macro_rules | `(tactic| walk_at "compareOp NotEq ref ref") => `(tactic| k_extra "W63")
local macro_rules | `(tactic| walk_at "compareOp Eq ref ref") => `(tactic| k_extra "W64")
theorem sum_len {B : Nat} : ∀ {l : List Str}, (∀ c ∈ l, c.length ≤ B) → (l.map (·.length)).sum ≤ B * l.length
 | [], _ => Nat.zero_le _
 | c :: l, h => by
  have h1 := sum_len (l := l) fun d hd => h d (.tail _ hd)
  have h2 := h c (.head _)
  rw [List.map_cons, List.sum_cons, List.length_cons, Nat.mul_succ]
  exact o81 h1 h2
theorem join_ok {l : List Str} (h1 : l.length ≤ 100) (h2 : ∀ c ∈ l, c.length ≤ 100) (n : Nat) : (((l.take n).map (·.length)).sum + (l.take n).length * (Str.ofString "/").length ≤ 16777216) := by
 have h3 := sum_len (B := 100) (l := l.take n) fun c hc => h2 c (List.mem_of_mem_take hc)
 have h4 := List.length_take_le' n l
 rw [show (Str.ofString "/").length = 1 from rfl]
 exact ub10 (Nat.le_trans h3 (ub11 (Nat.le_trans h4 (Nat.le_trans h1 (by decide))))) (ub18 (Nat.le_trans h4 (Nat.le_trans h1 (by decide))))
theorem go_stop {rows : List (List Str)} {n σ : Nat} (h : n = 0 ∨ okAt rows σ = false) : sharedGo rows n σ = σ := by
 cases n with
 | zero => rfl
 | succ n =>
  rcases h with h | h
  ·cases h
  ·rw [sharedGo, h]; rfl
theorem shared_spec {w : World} {dp un : Nat} {gd : Option (List Code)} {cn : Str} {cs : Scope} {a : Addr} {ccd : Value} {cl : List (Str × Addr)} {outer : List Env} {A₀ : Around} {base h₀ : Heap} {L : Addr} {m : Str → Option Value} {news : List (Addr × Obj)} {s : Shared} {mean : ExcName → Option Value} {mg mb : Str → Option Value} {Q E : Value → Shared → Prop} (B : Below A₀ base outer h₀) (F : Fr h₀ L s.heap m) (KX : Frag.In (Mine.hd.heap_39 w.params) h₀) (N : News h₀ L s.heap news) (T : Top Mine.hd.view_39 (looseW Mine.hd.view_39 [Str.ofString "_NodeInfo"]) mean mg mb h₀) (hk : cs.kind = .function) {Pd : Addr} {pv : List Value} {kp : Nat} {xs : List Str} (hnd : ND news) (hP : (Pd, W.listOf pv.toArray kp) ∈ news) (hpv : StrsAre pv xs) (hxl : xs.length ≤ 5) (hx0 : 0 < xs.length) (hx : ∀ x ∈ xs, x.length ≤ 100) (hxr : ∀ x ∈ xs, (Txt.split x (Str.ofString "/")).length ≤ 100 ∧ ∀ c ∈ Txt.split x (Str.ofString "/"), c.length ≤ 100)
  (hd : dp + 20 < recursionLimit) (hu : un + 480 < cLine)
  (hret : ∀ t h' tk', Fr h₀ L h' m → News h₀ L h' news → Q (.str (sharedS (xs.map fun x => Txt.split x (Str.ofString "/"))) t) { s with heap := h', toks := tk' }) :
  wpAny (model PySem.Challenge.rw_ik0081_01.prog w) (ktrTop dp un gd cn cs L a ccd cl outer) (call (.ref 290) [.ref Pd]) Q E s := by
 refine wpAny_call ?_
 k_dflt k_enter
 k_steps
 rename_i g₀ L' _ tk0 FG1 F1 B1 X1 T1 l0 oS oN dS dN N1
 all_goals (try kd_p)
 have hn1 : ND ((L' + 1, oN) :: news) := hnd.cons fun p hp => Nat.lt_succ_of_lt (l0 p hp)
 have hn2 : ND ((L' + 1 + 1, oS) :: (L' + 1, oN) :: news) := hn1.cons fun p hp => by
  rcases List.mem_cons.mp hp with rfl | hp
  ·exact Nat.lt_succ_self _
  ·exact Nat.lt_succ_of_lt (Nat.lt_succ_of_lt (l0 p hp))
 have hpl := hpv.length
 refine k_list (o := W.listOf pv.toArray kp) (its := pv.toArray) (fun i ys new => TabAre new ys ((xs.take i).map fun x => Txt.split x (Str.ofString "/"))) rfl rfl rfl F1 N1 hn2 (.tail _ (.tail _ hP)) rfl ⟨_, rfl⟩ .nil ?_ ?_ ?_
 ·intro i ys new hi hJ
  have := hJ.length
  rw [List.length_map, List.length_take] at this
  rw [sizeLine_eq]
  exact ub1 this (ub5 (Nat.le_trans hxl (by decide)))
 ·intro gg C i ys new₀ nw2 oC m₂ h tk E' hi hB hoC hJ sub0 sub1 hC ndw F6 N6
  (try kd_p)
  refine e1_2 hB ?_
  (try clear hB); intro v hv hm
  rw [List.getElem?_toArray] at hv
  have hi' : i < xs.length := by rw [← hpl]; exact (List.getElem?_eq_some_iff.mp hv).1
  (try kd_p)
  refine e1_1 (hpv.at (List.getElem?_eq_getElem hi')) ?_
  intro tx htx
  have hv' := hv.symm.trans htx
  obtain rfl := Option.some.inj hv'
  have hxl1 := hx _ (List.getElem_mem hi')
  have hsz : (xs[i]).length + 2 ≤ sizeLine := by rw [sizeLine_eq]; exact rm3 hxl1 (by decide)
  refine wpAny_tests_nil ?_
  dsimp only
  (try kd_p)
  k_steps
  all_goals (try kd_p)
  rename List.map _ _ = Txt.split _ _ => hsp
  rename StrsAre (strValues _) _ => hss
  rename (Fr g₀ _ _ _) => F7
  rename (News g₀ _ _ ((_, _) :: nw2)) => N7
  rename ∀ p ∈ nw2, _ => l7
  rw [hsp] at hss
  refine i3_6 _ _ ([(_, _)]) rfl F7 N7 ?_ ?_ ?_
  ·intro p hp q hq
   rw [List.mem_singleton.mp hp]
   exact (Nat.ne_of_lt (l7 q hq)).symm
  ·exact List.nodup_cons.mpr ⟨List.not_mem_nil, List.nodup_nil⟩
  ·rw [List.take_add_one, List.getElem?_eq_getElem hi', Option.toList_some, List.map_append]
   exact (hJ.mono fun p hp => .tail _ hp).app (.cons (.head _) hss .nil)
 ·intro gg Nd h5 tk5 ys new F6 N6 hn6 hJ
  dsimp only at F6 hJ
  rw [List.size_toArray, hpl, List.take_length] at hJ
  (try kd_p)
  refine gen1 (xs.map fun x => Txt.split x (Str.ofString "/")) ?_
  intro rows erows
  have hrow : ∀ i, i < rows.length → (rowAt rows i).length ≤ 100 ∧ ∀ c ∈ rowAt rows i, c.length ≤ 100 := by
   intro i hi
   have e : rowAt rows i ∈ rows := by
    rw [rowAt, List.getD_eq_getElem?_getD, List.getElem?_eq_getElem hi]
    exact List.getElem_mem hi
   (try kd_p)
   refine gen1 (rowAt rows i) ?_
   intro row erow
   rw [← erow] at e ⊢
   rw [erows] at e
   (try kd_p)
   refine e1_2 (List.mem_map.mp e) ?_
   intro x hx1 hx2
   rw [← hx2]
   exact hxr x hx1
  rw [← erows] at hJ hret
  have hrl : rows.length = xs.length := by rw [erows, List.length_map]
  have hyl := hJ.length
  (try kd_p)
  obtain ⟨nw7, N7, hn7, hcS, hcN, hNd, sub7, hT⟩ : ∃ nw7, News g₀ L' h5 nw7 ∧ ND nw7 ∧ (L' + 1 + 1, oS) ∈ nw7 ∧ (L' + 1, oN) ∈ nw7 ∧ (Nd, W.listOf ys.toArray ys.length) ∈ nw7 ∧ (∀ p ∈ news, p ∈ nw7) ∧ TabAre nw7 ys rows :=
   ⟨_, N6, hn6, .tail _ (List.mem_append_right _ (.head _)), .tail _ (List.mem_append_right _ (.tail _ (.head _))), .head _, fun p hp => .tail _ (List.mem_append_right _ (.tail _ (.tail _ hp))), hJ.mono fun p hp => .tail _ (List.mem_append_left _ hp)⟩
  clear N6 hn6
  (try kd_p)
  k_steps
  all_goals (try kd_p)
  rename (Fr g₀ _ _ _) => F8
  rename (News g₀ _ _ (rep _ _ nw7)) => N8'
  rename Obj.data _ = Data.cell (some (Value.ref Nd)) => dN8
  (try kd_p)
  obtain ⟨nw8, N8, hn8, hcS8, hcN8, hNd8, sub8, hT8⟩ : ∃ nw8, News g₀ L' _ nw8 ∧ ND nw8 ∧ (L' + 1 + 1, oS) ∈ nw8 ∧ (L' + 1, _) ∈ nw8 ∧ (Nd, W.listOf ys.toArray ys.length) ∈ nw8 ∧ (∀ p ∈ news, p ∈ nw8) ∧ TabAre nw8 ys rows :=
   ⟨_, N8', hn7.rep, mem_rep_ne hcS (Nat.ne_of_gt (Nat.lt_succ_self _)), mem_rep_self hcN, mem_rep_lst hn7 hcN dN hNd, fun p hp => mem_rep_ne' (sub7 p hp) (Nat.ne_of_lt (Nat.lt_succ_of_lt (l0 p hp))), hT.rep hn7 hcN dN⟩
  clear N8'
  k_steps
  all_goals (try kd_p)
  rename (Fr g₀ _ _ _) => F9
  rename (News g₀ _ _ (rep _ _ nw8)) => N9'
  rename Obj.data _ = Data.cell (some (Value.int _ _)) => dS9
  (try kd_p)
  obtain ⟨nw9, N9, hn9, hcS9, hcN9, hNd9, sub9, hT9⟩ : ∃ nw9, News g₀ L' _ nw9 ∧ ND nw9 ∧ (L' + 1 + 1, _) ∈ nw9 ∧ (L' + 1, _) ∈ nw9 ∧ (Nd, W.listOf ys.toArray ys.length) ∈ nw9 ∧ (∀ p ∈ news, p ∈ nw9) ∧ TabAre nw9 ys rows :=
   ⟨_, N9', hn8.rep, mem_rep_self hcS8, mem_rep_ne hcN8 (Nat.ne_of_lt (Nat.lt_succ_self _)), mem_rep_lst hn8 hcS8 dS hNd8, fun p hp => mem_rep_ne' (sub8 p hp) (Nat.ne_of_lt (Nat.lt_succ_of_lt (Nat.lt_succ_of_lt (l0 p hp)))), hT8.rep hn8 hcS8 dS⟩
  clear N9'
  show wpAny _ _ (exec (.While _ _ _ _) _) _ _ _
  (try kd_p)
  obtain ⟨mB, emB, FB⟩ : ∃ mB : Str → Option Value, mB = _ ∧ Fr g₀ L' _ mB := ⟨_, rfl, F9⟩
  clear F9
  refine while_G (s := s) (fun g => g = g₀) (fun n (σ : Nat) nw m₂ => ∃ oS oN t, ND nw ∧ (L' + 1 + 1, oS) ∈ nw ∧ oS.data = .cell (some (.int (σ : Int) t)) ∧ (L' + 1, oN) ∈ nw ∧ oN.data = .cell (some (.ref Nd)) ∧ (Nd, W.listOf ys.toArray ys.length) ∈ nw ∧ TabAre nw ys rows ∧ (∀ p ∈ news, p ∈ nw) ∧
    σ + n = (rowAt rows 0).length ∧ sharedGo rows n σ = sharedN rows ∧ m₂ = mB) (rowAt rows 0).length 0 rfl rfl FB N9
   (i3_11 _ _ _ hn9 hcS9 dS9 hcN9 dN8 hNd9 hT9 sub9 (Nat.zero_add _) rfl rfl) ?_
  intro n σ g nw m₂ h tk hR0 hR1 F10 N10
  (try kd_p)
  refine e3_11 hR0 ?_
  (try clear hR0); intro oS oN tS hn hcS dS hcN dN hNd hT hsub hσ hgo hz1
  subst hz1
  obtain rfl := hR1
  have hr0 : 0 < rows.length := by exact ul3 hx0 hrl
  (try kd_p)
  obtain ⟨r0, u0, k0, hy0, hm0, hs0⟩ := hT.at (i := 0) (r := rowAt rows 0) (by rw [rowAt, List.getD_eq_getElem?_getD, List.getElem?_eq_getElem hr0]; rfl)
  have hl0 : (rowAt rows 0).length ≤ 200 := Nat.le_trans (hrow 0 hr0).1 (by decide)
  have hjk := fun n => join_ok (hrow 0 hr0).1 (hrow 0 hr0).2 n
  have hu0 := hs0.length
  subst emB
  (try kd_p)
  k_steps
  all_goals (try kd_p)
  refine k_list (o := W.listOf ys.toArray ys.length) (its := ys.toArray) (fun i zs new => new = [] ∧ zs.length ≤ i ∧ zs.isEmpty = (rows.take i).all fun r => decide (r.take (σ + 1) = (rowAt rows 0).take (σ + 1))) rfl rfl rfl F10 N10 hn hNd rfl ⟨_, rfl⟩ ⟨rfl, Nat.le_refl _, rfl⟩ ?_ ?_ ?_
  ·intro i zs new hi hR0
   (try kd_p)
   refine e0_3 hR0 ?_
   (try clear hR0); intro _ hz _
   rw [List.size_toArray] at hi
   rw [sizeLine_eq]
   exact Nat.le_trans hz (Nat.le_trans hi (ub1 hyl (ub1 hrl (Nat.le_trans hxl (by decide)))))
  ·intro gg C i zs new₀ nw2 oC m₂ h tk E' hi hB hoC hJ sub0 sub1 hC ndw F11 N11
   (try kd_p)
   refine e0_3 hJ ?_
   (try clear hJ); intro hz2 hz hJ
   subst hz2
   refine e1_2 hB ?_
   (try clear hB); intro v hv hm
   rw [List.getElem?_toArray] at hv
   rw [List.size_toArray] at hi
   (try kd_p)
   refine e3_4 (hT.row hv) ?_
   intro ri ui ki hz3 hmi hsi hil
   subst hz3
   have hcS11 := sub0 _ hcS
   have hcN11 := sub0 _ hcN
   have hNd11 := sub0 _ hNd
   have hm0' := sub0 _ hm0
   have hmi' := sub0 _ hmi
   have hui := hsi.length
   have hli : (rowAt rows i).length ≤ 200 := Nat.le_trans (hrow i hil).1 (by decide)
   have htake : rows.take (i + 1) = rows.take i ++ [rowAt rows i] := by rw [List.take_add_one, List.getElem?_eq_getElem hil, Option.toList_some, rowAt, List.getD_eq_getElem?_getD, List.getElem?_eq_getElem hil]; rfl
   refine wpAny_tests_one ?_
   dsimp only
   (try kd_p)
   k_steps
   all_goals (try kd_p)
   all_goals rename (Fr g _ _ _) => F12
   all_goals rename (News g _ _ ((_, _) :: (_, _) :: nw2)) => N12
   ·rename List.take _ _ = List.take _ _ => he
    refine i3_8 _ _ ([]) rfl F12 (fun p hp => N12 p (.tail _ (.tail _ hp))) (fun p hp => nomatch hp) List.nodup_nil rfl (Nat.le_succ_of_le hz) ?_
    rw [hJ, htake, List.all_append, List.all_cons, decide_eq_true he]
    simp
   ·rename ¬ List.take _ _ = List.take _ _ => he
    refine i3_8 _ _ ([]) rfl F12 (fun p hp => N12 p (.tail _ (.tail _ hp))) (fun p hp => nomatch hp) List.nodup_nil rfl ?_ ?_
    ·rw [List.length_append, List.length_singleton]; exact Nat.succ_le_succ hz
    ·rw [htake, List.all_append, List.all_cons, decide_eq_false he]
     simp
  ·intro gg Z h5 tk5 zs new F11 N11 hn11 hR0
   (try kd_p)
   refine e0_3 hR0 ?_
   (try clear hR0); intro hz4 hz hJ
   subst hz4
   rw [List.nil_append] at N11 hn11
   rw [List.size_toArray, hyl, List.take_length] at hJ
   have hJ : zs.isEmpty = okAt rows σ := hJ
   (try kd_p)
   k_steps
   all_goals (try kd_p)
   ·rename zs.isEmpty = true => hze
    rename (News g _ _ ((_, _) :: (_, _) :: nw)) => N12'
    (try kd_p)
    obtain ⟨nw3, N12, e3⟩ : ∃ nw3, News g _ _ nw3 ∧ nw3 = nw := ⟨_, fun p hp => N12' p (.tail _ (.tail _ hp)), rfl⟩
    clear N12'
    subst e3
    k_steps
    all_goals (try kd_p)
    rename (Fr g _ _ _) => F13
    rename (News g _ _ (rep _ _ _)) => N13
    rename Obj.data _ = Data.cell (some (Value.int (_ + 1) _)) => dS13
    have hn0 : n ≠ 0 := by exact fun hom => o55 ‹_› ‹_› ‹_› hom
    (try kd_p)
    refine e1_1 (Nat.exists_eq_succ_of_ne_zero hn0) ?_
    intro k hz5
    subst hz5
    refine turnG_w (g' := g) (n' := k) (σ' := σ + 1) rfl F13 N13 (Nat.lt_succ_self _) (i3_11 _ _ _ hn.rep (mem_rep_self hcS) dS13 (mem_rep_ne hcN (Nat.ne_of_lt (Nat.lt_succ_self _))) dN (mem_rep_lst hn hcS dS hNd) (hT.rep hn hcS dS) (fun p hp => mem_rep_ne' (hsub p hp) (Nat.ne_of_lt (Nat.lt_succ_of_lt (Nat.lt_succ_of_lt (l0 p hp))))) (by exact o30 hσ) ?_ rfl)
    rw [← hgo, sharedGo, ← hJ, hze, if_pos rfl]
   ·rename ¬ (σ : Int) < _ => hlt
    rename (1 : Int) < σ => h1
    rename (News g _ _ ((_, _) :: _)) => N12
    rename (Fr g _ _ _) => F12
    have es : σ = sharedN rows := by rw [← hgo, go_stop (.inl (by exact o19 hσ hu0 hlt))]
    refine join_L N12 (.head _) (strs_pick0 hs0 σ) (hjk σ) ?_
    intro tj kj
    (try kd_p)
    k_steps
    all_goals (try kd_p)
    rename (Fr h₀ L _ _) => F14
    rename (News h₀ L _ _) => N14
    have er : sharedS rows = Txt.join (Str.ofString "/") ((rowAt rows 0).take σ) := by rw [sharedS, ← es, if_pos (by exact o121 h1)]
    have z := hret tj _ kj F14 fun p hp => N14 p (by first | exact .tail _ (.tail _ (.tail _ (hsub p hp))) | exact .tail _ (.tail _ (hsub p hp)))
    rw [er] at z
    exact z
   ·rename ¬ (σ : Int) < _ => hlt
    rename ¬ (1 : Int) < σ => h1
    rename (Fr h₀ L _ _) => F12
    rename (News h₀ L _ _) => N12
    have es : σ = sharedN rows := by rw [← hgo, go_stop (.inl (by exact o19 hσ hu0 hlt))]
    have er : sharedS rows = Str.ofString "/" := by rw [sharedS, ← es, if_neg (by exact fun hom => o50 hom h1)]
    have z := hret (tk + 1) _ (tk + 1 + 1) F12 fun p hp => N12 p (.tail _ (.tail _ (hsub p hp)))
    rw [er] at z
    exact z
   ·rename zs.isEmpty = false => hze
    rename (1 : Int) < σ => h1
    rename (News g _ _ ((_, _) :: _)) => N12
    rename (Fr g _ _ _) => F12
    have es : σ = sharedN rows := by rw [← hgo, go_stop (.inr (by rw [← hJ, hze]))]
    refine join_L N12 (.head _) (strs_pick0 hs0 σ) (hjk σ) ?_
    intro tj kj
    (try kd_p)
    k_steps
    all_goals (try kd_p)
    rename (Fr h₀ L _ _) => F14
    rename (News h₀ L _ _) => N14
    have er : sharedS rows = Txt.join (Str.ofString "/") ((rowAt rows 0).take σ) := by rw [sharedS, ← es, if_pos (by exact o121 h1)]
    have z := hret tj _ kj F14 fun p hp => N14 p (by first | exact .tail _ (.tail _ (.tail _ (hsub p hp))) | exact .tail _ (.tail _ (hsub p hp)))
    rw [er] at z
    exact z
   ·rename zs.isEmpty = false => hze
    rename ¬ (1 : Int) < σ => h1
    rename (Fr h₀ L _ _) => F12
    rename (News h₀ L _ _) => N12
    have es : σ = sharedN rows := by rw [← hgo, go_stop (.inr (by rw [← hJ, hze]))]
    have er : sharedS rows = Str.ofString "/" := by rw [sharedS, ← es, if_neg (by exact fun hom => o50 hom h1)]
    have z := hret (tk5 + 1) _ (tk5 + 1 + 1) F12 fun p hp => N12 p (.tail _ (.tail _ (hsub p hp)))
    rw [er] at z
    exact z
end
section
theorem slot_map_init : Slot "map" "__init__" "object.__init__" :=
 .of (owner := "object") (n := "__init__") (by rw [typeLookup_type, builtinLookup_eq_fast]; kernel_rfl) (by decide +kernel) (by decide +kernel) (by decide +kernel)
  (by first | exact .inl (by decide +kernel) | exact .inr (by decide +kernel)) (by rw [isSubtype_type]; kernel_rfl)
theorem slot_map_next : Slot "map" "__next__" "map.__next__" :=
 .of (owner := "map") (n := "__next__") (by rw [typeLookup_type, builtinLookup_eq_fast]; kernel_rfl) (by decide +kernel) (by decide +kernel) (by decide +kernel)
  (by first | exact .inl (by decide +kernel) | exact .inr (by decide +kernel)) (by rw [isSubtype_type]; kernel_rfl)
theorem slot_map_iter : Slot "map" "__iter__" "map.__iter__" :=
 .of (owner := "map") (n := "__iter__") (by rw [typeLookup_type, builtinLookup_eq_fast]; kernel_rfl) (by decide +kernel) (by decide +kernel) (by decide +kernel)
  (by first | exact .inl (by decide +kernel) | exact .inr (by decide +kernel)) (by rw [isSubtype_type]; kernel_rfl)
theorem entry_map_new : entryFor table "map.__new__" = some Builtin.«map.__new__» := entryFor_of_tree (by kernel_rfl)
theorem entry_map_next : entryFor table "map.__next__" = some Builtin.«map.__next__» := entryFor_of_tree (by kernel_rfl)
theorem entry_map_iter : entryFor table "map.__iter__" = some Builtin.«dict_keyiterator.__iter__» :=
 entryFor_alias (id' := "dict_keyiterator.__iter__") (by kernel_rfl) (by first | rfl | decide +kernel | (unfold String.splitOn; simp +decide [String.splitOnAux])) (by decide +kernel) (by kernel_rfl)
theorem mro_map : mroOf (.type "map") = pure [.type "map", .type "object"] := by rw [mroOf_type]; kernel_rfl
theorem lookup_map_new : typeLookup (.type "map") "__new__" = pure (some (.builtin "map.__new__")) := by rw [typeLookup_type, builtinLookup_eq_fast]; kernel_rfl
theorem called_map : TypeCalled "map" "map.__new__" "object.__init__" :=
 ⟨by decide +kernel, by decide +kernel, ⟨_, _, mro_map⟩, madeBy_type mro_map lookup_map_new (by decide +kernel), by decide +kernel, by rw [isSubtype_type]; kernel_rfl, slot_map_init⟩
theorem typeCall_map_2 (a b : Value) : checkTypeCall "map" ⟨[a, b], []⟩ = pure () := by kernel_rfl
theorem newCall_map_2 (a b : Value) : checkBuiltinCall "map.__new__" ⟨[.type "map", a, b], []⟩ = pure () := by kernel_rfl
theorem sub_map : isSubtype (.type "map") (.type "map") = pure true := by rw [isSubtype_type]; kernel_rfl
theorem nolen_map : typeLookup (.type "map") "__len__" = pure none := by rw [typeLookup_type, builtinLookup_eq_fast]; kernel_rfl
theorem nohint_map : typeLookup (.type "map") "__length_hint__" = pure none := by rw [typeLookup_type, builtinLookup_eq_fast]; kernel_rfl
theorem owner_map : Manifest.owners.lookup (String.ofList ['p', 'a', 'm'].reverse) = some Manifest.sig_map := by kernel_rfl
theorem args_map_next (a : Value) : argsOk "map.__next__" ⟨[a], []⟩ := by
 unfold argsOk; rw [signature?_of (id := "map.__next__") (n := ['_', '_', 't', 'x', 'e', 'n', '_', '_']) (o := ['p', 'a', 'm']) (by kernel_rfl) owner_map]; kernel_rfl
theorem args_map_iter (a : Value) : argsOk "map.__iter__" ⟨[a], []⟩ := by
 unfold argsOk; rw [signature?_of (id := "map.__iter__") (n := ['_', '_', 'r', 'e', 't', 'i', '_', '_']) (o := ['p', 'a', 'm']) (by kernel_rfl) owner_map]; kernel_rfl
noncomputable abbrev mapH1 (h : Heap) (t : Addr) : Heap := h.push { cls := .type "tuple_iterator", data := .fields #[.ref t, .int 0 0] }
noncomputable abbrev mapH2 (h : Heap) (t : Addr) : Heap := (mapH1 h t).push { cls := .type "tuple", data := .seq #[.ref h.objs.size] }
noncomputable abbrev mapH3 (h : Heap) (t : Addr) (f : Value) : Heap := (mapH2 h t).push { cls := .type "map", data := .fields #[.ref (mapH1 h t).objs.size, f] }
theorem meets_map_new (t : Addr) (f : Value) (xs : Array Value) :
  Meets (Builtin.«map.__new__» ⟨[.type "map", f, .ref t], []⟩) (fun _ R s => s.heap.IsTuple t xs ∧
   R (.ok (.ret (.ref (mapH2 s.heap t).objs.size))) { s with heap := mapH3 s.heap t f }) :=
 .of_wp fun prog w A R s h => by
  obtain ⟨hp, g, d, tk, os⟩ := s; obtain ⟨ht, h⟩ := h
  have hsub := sub_map
  have hT : Heap.IsTuple (Shared.heap ⟨hp, g, d, tk, os⟩) t xs := ht
  wp_walk using wpAny_pyIter_tuple hT
  exact i1_2 _ rfl h
end
section
section
variable {prog : Program} {w : World} {A : Around} {E : Value → Shared → Prop} {s : Shared}
theorem nextOf_tup {it t : Addr} {i : Nat} {items : Array Value} {x : Value} {Q : Value → Shared → Prop} (hit : s.heap.IsTupleIter it t i) (ht : s.heap.IsTuple t items) (hx : items[i]? = some x)
  (hQ : ∀ h', h'.IsTupleIter it t (i + 1) → Heap.SameBut it s.heap h' → Q x { s with heap := h' }) : wpAny (model prog w) A (Builtin.SmallTypes.nextOf (.ref it)) Q E s := by
 refine e1_3 (id hit) ?_
 intro o ho hc hd
 obtain ⟨ol, hol, _, nl, hdl⟩ := ht
 unfold Builtin.SmallTypes.nextOf
 refine wpAny_bind (wpAny_callSpecial?_slot (name := Str.ofString "__next__") hit.typeIs F.slot_tuple_iterator_next
  (wpAny_call_entry F.slot_tuple_iterator_next hit.typeIs F.entry_tuple_iterator_next ?_ (F.args_tuple_iterator_next_1 _)))
 show wpAny _ _ (field (.ref it) 0 >>= _) _ _ s
 refine wpAny_bind (wpAny_field ho hd (x := .ref t) rfl ?_)
 show wpAny _ _ (if (Value.ref t == Value.none) = true then _ else _) _ _ s
 rw [if_neg (show ¬ ((Value.ref t == Value.none) = true) from Bool.false_ne_true)]
 show wpAny _ _ (field (.ref it) 1 >>= _) _ _ s
 refine wpAny_bind (wpAny_field ho hd (x := .int i 0) rfl ?_)
 show wpAny _ _ (seqItems? (.ref t) >>= _) _ _ s
 refine wpAny_bind (wpAny_seqItems hol hdl ?_)
 simp only [Int.toNat_natCast, hx]
 refine wpAny_bind (wpAny_setField ho hd (by simp) (wpAny_pure ⟨x, rfl, wpAny_pure (hQ _ ?_ (Heap.SameBut.update ..))⟩))
 exact ⟨_, Heap.get?_update_self _ ho (Obj.isFreed_of_fields (Obj.data_mapFields hd _)), (Obj.cls_mapFields ..).trans hc, by
  rw [Obj.data_mapFields hd]; simp [rawInt]⟩
theorem nextOf_tup_end {it t : Addr} {i : Nat} {items : Array Value} {Q : Value → Shared → Prop} (hh : A.handled = none) (hit : s.heap.IsTupleIter it t i) (ht : s.heap.IsTuple t items) (hx : items[i]? = none)
  (hE : ∀ h' e, Heap.ExtBut it s.heap h' → (∃ o, h'.get? e = some o ∧ o.cls = .type "StopIteration") → E (.ref e) { s with heap := h' }) : wpAny (model prog w) A (Builtin.SmallTypes.nextOf (.ref it)) Q E s := by
 refine e1_3 (id hit) ?_
 intro o ho hc hd
 obtain ⟨ol, hol, _, nl, hdl⟩ := ht
 unfold Builtin.SmallTypes.nextOf
 refine wpAny_bind (wpAny_callSpecial?_slot (name := Str.ofString "__next__") hit.typeIs F.slot_tuple_iterator_next
  (wpAny_call_entry F.slot_tuple_iterator_next hit.typeIs F.entry_tuple_iterator_next ?_ (F.args_tuple_iterator_next_1 _)))
 show wpAny _ _ (field (.ref it) 0 >>= _) _ _ s
 refine wpAny_bind (wpAny_field ho hd (x := .ref t) rfl ?_)
 show wpAny _ _ (if (Value.ref t == Value.none) = true then _ else _) _ _ s
 rw [if_neg (show ¬ ((Value.ref t == Value.none) = true) from Bool.false_ne_true)]
 show wpAny _ _ (field (.ref it) 1 >>= _) _ _ s
 refine wpAny_bind (wpAny_field ho hd (x := .int i 0) rfl ?_)
 show wpAny _ _ (seqItems? (.ref t) >>= _) _ _ s
 refine wpAny_bind (wpAny_seqItems hol hdl ?_)
 simp only [Int.toNat_natCast, hx]
 refine wpAny_bind (wpAny_rule (wpAny_bind (wpAny_setField ho hd (by simp) ?_)))
 show wpAny _ _ (newExc (.type "StopIteration") [] >>= _) _ _ _
 refine wpAny_bind ?_
 simp only [newExc, newTuple]
 refine wpAny_bind (wpAny_newObj_type ?_ (by size_fits))
 refine wpAny_bind (m := firstArgMember _ _) (wpAny_of_eq (a := Value.none) (by first | rfl | (simp only [firstArgMember]; rfl)) ?_)
 refine wpAny_newObj_type ?_ (by size_fits)
 simp only [raiseNew]
 refine wpAny_bind (wpAny_handled ?_)
 first | rw [show A.in1.handled = none from hh] | rw [hh]
 refine wpAny_bind (wpAny_pure (wpAny_throw ?_))
 exact hE _ _ (((Heap.SameBut.update ..).extBut.push _).push _) ⟨_, Heap.get?_push_size _ rfl, rfl⟩
noncomputable abbrev IsMap (h : Heap) (M TI : Addr) (f : Value) : Prop := h.get? M = some { cls := .type "map", data := .fields #[.ref TI, f] }
noncomputable abbrev IsOne (h : Heap) (TI it : Addr) : Prop := h.get? TI = some { cls := .type "tuple", data := .seq #[.ref it] }
theorem map_next {M TI it t : Addr} {f : Value} {i : Nat} {items : Array Value} {x : Value} {Q : Value → Shared → Prop} (hM : IsMap s.heap M TI f) (hTI : IsOne s.heap TI it) (hMi : M ≠ it) (hit : s.heap.IsTupleIter it t i) (ht : s.heap.IsTuple t items) (hx : items[i]? = some x)
  (hcall : ∀ h', h'.IsTupleIter it t (i + 1) → Heap.SameBut it s.heap h' → wpAny (model prog w) A (call f [x]) Q E { s with heap := h' }) :
  wpAny (model prog w) A (Builtin.«map.__next__» ⟨[.ref M], []⟩) (fun fin s' => ∃ v, fin = .done (.ret v) ∧ Q v s') E s := by
 show wpAny _ _ (field (.ref M) 0 >>= _) _ _ _
 refine wpAny_bind (wpAny_field hM rfl (x := .ref TI) rfl ?_)
 show wpAny _ _ (seqItems? (.ref TI) >>= _) _ _ s
 refine wpAny_bind (wpAny_seqItems hTI rfl ?_)
 dsimp only
 refine wpAny_bind ?_
 simp only [List.forIn_toArray, List.forIn_cons, List.forIn_nil]
 refine wpAny_bind (wpAny_bind (wpAny_holding (nextOf_tup hit ht hx fun h' hit' hs' => ?_)))
 refine wpAny_pure ?_
 dsimp only
 refine wpAny_pure ?_
 have hM' : IsMap h' M TI f := (hs'.2 M hMi).trans hM
 show wpAny _ _ (field (.ref M) 1 >>= _) _ _ _
 refine wpAny_bind (wpAny_field hM' rfl (x := f) rfl ?_)
 refine wpAny_bind (wpAny_holding (wpAny_mono (hcall h' hit' hs') (fun y s' hq => ?_) fun _ _ e => e))
 refine wpAny_bind (wpAny_letGo (wpAny_pure ?_))
 exact i1_2 y rfl hq
theorem map_next_end {M TI it t : Addr} {f : Value} {i : Nat} {items : Array Value} {Q : Value → Shared → Prop} (hh : A.handled = none) (hM : IsMap s.heap M TI f) (hTI : IsOne s.heap TI it) (hit : s.heap.IsTupleIter it t i) (ht : s.heap.IsTuple t items) (hx : items[i]? = none)
  (hE : ∀ h' e, Heap.ExtBut it s.heap h' → (∃ o, h'.get? e = some o ∧ o.cls = .type "StopIteration") → E (.ref e) { s with heap := h' }) :
  wpAny (model prog w) A (Builtin.«map.__next__» ⟨[.ref M], []⟩) (fun fin s' => ∃ v, fin = .done (.ret v) ∧ Q v s') E s := by
 show wpAny _ _ (field (.ref M) 0 >>= _) _ _ _
 refine wpAny_bind (wpAny_field hM rfl (x := .ref TI) rfl ?_)
 show wpAny _ _ (seqItems? (.ref TI) >>= _) _ _ s
 refine wpAny_bind (wpAny_seqItems hTI rfl ?_)
 dsimp only
 refine wpAny_bind ?_
 simp only [List.forIn_toArray, List.forIn_cons, List.forIn_nil]
 exact wpAny_bind (wpAny_bind (wpAny_holding (nextOf_tup_end hh hit ht hx hE)))
theorem pyNext_map {M TI it t : Addr} {f : Value} {i : Nat} {items : Array Value} {x : Value} {Q : Option Value → Shared → Prop} (hM : IsMap s.heap M TI f) (hTI : IsOne s.heap TI it) (hMi : M ≠ it) (hit : s.heap.IsTupleIter it t i) (ht : s.heap.IsTuple t items) (hx : items[i]? = some x)
  (hcall : ∀ h' (Q' : Value → Shared → Prop) (E' : Value → Shared → Prop), h'.IsTupleIter it t (i + 1) → Heap.SameBut it s.heap h' → (∀ y s', Q (some y) s' → Q' y s') → wpAny (model prog w) A.in1 (call f [x]) Q' E' { s with heap := h' }) :
  wpAny (model prog w) A (pyNext (.ref M)) Q E s := by
 have hT : s.TypeIs (.ref M) "map" := ⟨_, hM, rfl⟩
 unfold pyNext
 exact wpAny_bind (wpAny_attempt (wpAny_callSpecial?_slot (name := Str.ofString "__next__") hT slot_map_next
  (wpAny_call_entry slot_map_next hT entry_map_next
   (map_next hM hTI hMi hit ht hx fun h' a b => hcall h' _ _ a b fun y s' hq => wpAny_pure hq) (args_map_next _))))
theorem pyNext_map_end {M TI it t : Addr} {f : Value} {i : Nat} {items : Array Value} {Q : Option Value → Shared → Prop} (hh : A.handled = none) (hM : IsMap s.heap M TI f) (hTI : IsOne s.heap TI it) (hit : s.heap.IsTupleIter it t i) (ht : s.heap.IsTuple t items) (hx : items[i]? = none)
  (hQ : ∀ h', Heap.ExtBut it s.heap h' → Q none { s with heap := h' }) :
  wpAny (model prog w) A (pyNext (.ref M)) Q E s := by
 have hT : s.TypeIs (.ref M) "map" := ⟨_, hM, rfl⟩
 unfold pyNext
 refine wpAny_bind (wpAny_attempt (wpAny_callSpecial?_slot (name := Str.ofString "__next__") hT slot_map_next
  (wpAny_call_entry slot_map_next hT entry_map_next (map_next_end (Q := fun y s' => _) hh hM hTI hit ht hx fun h' e hk he => ?_) (args_map_next _))))
 refine e1_2 he ?_
 (try clear he); intro o ho hc
 refine wpAny_bind (wpAny_isInstance (T := "StopIteration") (b := true) ⟨o, ho, hc⟩ isSubtype_stop ?_)
 exact wpAny_pure (hQ _ hk)
end
end
section
section
variable {prog : Program} {w : World} {A : Around} {R : Result → Shared → Prop} {s : Shared} {h₀ : Heap} {L : Addr} {m : Str → Option Value} {news : List (Addr × Obj)}
theorem news_rep {h h' : Heap} {a : Addr} {o o' : Obj} {nw : List (Addr × Obj)} (N : News h₀ L h nw) (hm : (a, o) ∈ nw) (hs : ∀ b x, b ≠ a → h.get? b = some x → h'.get? b = some x) (hg : h'.get? a = some o') : News h₀ L h' (rep a o' nw) := by
 intro p hp
 refine e1_2 (List.mem_map.mp hp) ?_
 intro q hq e
 by_cases hqa : q.1 = a
 ·rw [if_pos hqa] at e
  subst e
  exact ⟨hg, (N _ hm).2⟩
 ·rw [if_neg hqa] at e
  subst e
  exact ⟨hs _ _ hqa (N _ hq).1, (N _ hq).2⟩
theorem fr_but {h h' : Heap} {a : Addr} (F : Fr h₀ L h m) (hs : ∀ b x, b ≠ a → h.get? b = some x → h'.get? b = some x) (hL : a ≠ L) (h0 : h₀.get? a = none) : Fr h₀ L h' m :=
 kmb_fr F (fun b o hb e => hs b o (fun q => hb (by rw [q]; exact List.mem_singleton_self _)) e) hL h0
theorem ext_map (hh : A.handled = none) (f : Value) (pv : List Value) (P : Nat → Value → Prop) (hpv : pv.length ≤ 1000000) {M TI it t S : Addr} {oT : Obj} {nt : Nat} (hoT : oT.cls = .type "tuple") (hdT : oT.data = .seq pv.toArray nt) (res : Value)
  (turn : ∀ i v nw h tk, pv[i]? = some v → ND nw → Fr h₀ L h m → News h₀ L h nw → wpAny (model prog w) A.in1.in1 (call f [v]) (fun y s' => ∃ h' tk', s' = { s with heap := h', toks := tk' } ∧ P i y ∧ Fr h₀ L h' m ∧ News h₀ L h' nw) (fun _ _ => False) { s with heap := h, toks := tk })
  (hR : ∀ acc c nw h tk, Fr h₀ L h m → News h₀ L h nw → ND nw → (∀ p ∈ news, p ∈ nw) → (S, ({ cls := .type "list", dict := none, data := .seq acc c, slots := #[] } : Obj)) ∈ nw → ItemsOf P acc pv.length → R (.ok (.ret res)) { s with heap := h, toks := tk })
  (hne : ∀ p ∈ news, p.1 ≠ it ∧ p.1 ≠ S) (hMi : M ≠ it) (hMS : M ≠ S) (hTIi : TI ≠ it) (hTIS : TI ≠ S) (hiS : it ≠ S) (hti : t ≠ it) (htS : t ≠ S) :
  ∀ (k i : Nat) (nw : List (Addr × Obj)) (h : Heap) (tk : Nat) (acc : Array Value) (c : Nat) (oI : Obj), pv.length = i + k → ND nw → (M, ({ cls := .type "map", data := .fields #[.ref TI, f] } : Obj)) ∈ nw → (TI, ({ cls := .type "tuple", data := .seq #[.ref it] } : Obj)) ∈ nw →
   (it, oI) ∈ nw → oI.cls = .type "tuple_iterator" → oI.data = .fields #[.ref t, .int i 0] → (t, oT) ∈ nw → (S, ({ cls := .type "list", dict := none, data := .seq acc c, slots := #[] } : Obj)) ∈ nw → ItemsOf P acc i → (∀ p ∈ news, p ∈ nw) → Fr h₀ L h m → News h₀ L h nw →
   codeAny (model prog w) A (.builtin "list.extend.loop" ⟨[.ref S, .ref M, res], []⟩) R { s with heap := h, toks := tk } := by
 intro k
 induction k with
 | zero =>
  intro i nw h tk acc c oI hk hn hM hTI hI hIc hId hT hS hacc hsub F' N
  refine codeAny_builtin F.entry_extend_loop ?_
  rw [Around.under_plainId F.plain_extend_loop _]
  show wpAny _ A.in1 (pyNext (.ref M) >>= _) _ _ _
  refine wpAny_bind (pyNext_map_end (i := i) (t := t) (it := it) hh (N _ hM).1 (N _ hTI).1 ⟨oI, (N _ hI).1, hIc, hId⟩ ⟨oT, (N _ hT).1, hoT, nt, hdT⟩ (by rw [List.getElem?_toArray]; exact List.getElem?_eq_none (by exact o139 hk)) fun h' he => ?_)
  have hs : ∀ b x, b ≠ it → h.get? b = some x → h'.get? b = some x := fun b x hb e => he b x hb e
  refine wpAny_pure (hR acc c (drp it nw) h' tk (fr_but F' hs (N _ hI).2.1 (N _ hI).2.2) (fun p hp => ?_) hn.drp (fun p hp => mem_drp.mpr ⟨hsub p hp, (hne p hp).1⟩) (mem_drp.mpr ⟨hS, hiS.symm⟩) ?_)
  ·refine e0_2 (mem_drp.mp hp) ?_
   intro h1 h2
   exact ⟨hs _ _ h2 (N p h1).1, (N p h1).2⟩
  ·rw [hk]; exact hacc
 | succ k ih =>
  intro i nw h tk acc c oI hk hn hM hTI hI hIc hId hT hS hacc hsub F' N
  refine codeAny_builtin F.entry_extend_loop ?_
  rw [Around.under_plainId F.plain_extend_loop _]
  show wpAny _ A.in1 (pyNext (.ref M) >>= _) _ _ _
  obtain ⟨v, hv⟩ : ∃ v, pv[i]? = some v := ⟨pv[i]'(by exact o109 hk), List.getElem?_eq_getElem (by exact o109 hk)⟩
  refine wpAny_bind (pyNext_map (i := i) (t := t) (it := it) (x := v) (N _ hM).1 (N _ hTI).1 hMi ⟨oI, (N _ hI).1, hIc, hId⟩ ⟨oT, (N _ hT).1, hoT, nt, hdT⟩ (by rw [List.getElem?_toArray]; exact hv) fun h1 Q' E' hit1 hs1 hQ' => ?_)
  have hs : ∀ b x, b ≠ it → h.get? b = some x → h1.get? b = some x := fun b x hb e => (hs1.2 b hb).trans e
  refine e1_3 hit1 ?_
  (try clear hit1); intro oI1 hg1 hc1 hd1
  have N1 := news_rep N hI hs hg1
  have F1 := fr_but F' hs (N _ hI).2.1 (N _ hI).2.2
  have hn1 : ND (rep it oI1 nw) := hn.rep
  refine wpAny_mono (turn i v _ h1 tk hv hn1 F1 N1) (fun y s' hy => hQ' y s' ?_) fun _ _ hF => hF.elim
  refine e2_4 hy ?_
  (try clear hy); intro h2 tk2 hz1 hP F2 N2
  subst hz1
  have hS2 : (S, ({ cls := .type "list", dict := none, data := .seq acc c, slots := #[] } : Obj)) ∈ rep it oI1 nw := mem_rep_ne hS hiS.symm
  show wpAny _ A.in1 (updateSeq S (·.push y) >>= _) _ _ _
  refine wpAny_bind ?_
  have hu : ∀ b x, b ≠ S → h2.get? b = some x → (h2.update S (Obj.mapSeq (·.push y))).get? b = some x := fun b x hb e => (Heap.get?_update_other _ _ (Ne.symm hb)).trans e
  have hgS := Heap.get?_update_self (Obj.mapSeq (·.push y)) (N2 _ hS2).1 rfl
  refine wpAny_updateSeq (N2 _ hS2).1 rfl (wpAny_pure ⟨plainId_quiet F.plain_extend_loop _, ih (i + 1) (rep S _ (rep it oI1 nw)) _ tk2 (acc.push y) _ oI1 (by exact o63 hk) hn1.rep (mem_rep_ne (mem_rep_ne hM hMi) hMS) (mem_rep_ne (mem_rep_ne hTI hTIi) hTIS) (mem_rep_ne (mem_rep_self hI) hiS) hc1 hd1
   (mem_rep_ne (mem_rep_ne hT hti) htS) (mem_rep_self hS2) (hacc.push hP) (fun p hp => mem_rep_ne' (mem_rep_ne' (hsub p hp) (hne p hp).1) (hne p hp).2) (fr_but F2 hu (N2 _ hS2).2.1 (N2 _ hS2).2.2) (news_rep N2 hS2 hu hgS)⟩) ?_ ?_
  ·rw [hacc.1, sizeLine_eq]; exact ub17 hk (Nat.le_trans hpv (by decide))
  ·show (acc.push y).size ≤ sizeLine + 1
   rw [Array.size_push, hacc.1, sizeLine_eq]; exact ub16 hk (Nat.le_trans hpv (by decide))
end
end
section
section
variable {prog : Program} {w : World} {A : Around} {E : Value → Shared → Prop} {s : Shared} {h₀ : Heap} {L : Addr} {m : Str → Option Value} {news : List (Addr × Obj)}
theorem map_made {f : Value} {t : Addr} {oT : Obj} {its : Array Value} {nt : Nat} {Q : Value → Shared → Prop} (F' : Fr h₀ L s.heap m) (N : News h₀ L s.heap news) (hm : (t, oT) ∈ news) (hoT : oT.cls = .type "tuple") (hdT : oT.data = .seq its nt)
  (h : ∀ M TI it h', Fr h₀ L h' m → News h₀ L h' ((M, ({ cls := .type "map", data := .fields #[.ref TI, f] } : Obj)) :: (TI, ({ cls := .type "tuple", data := .seq #[.ref it] } : Obj)) :: (it, ({ cls := .type "tuple_iterator", data := .fields #[.ref t, .int 0 0] } : Obj)) :: news) →
   it < TI → TI < M → (∀ p ∈ news, p.1 < it) → Q (.ref M) { s with heap := h' }) :
  wpAny (model prog w) A (call (.type "map") [f, .ref t]) Q E s := by
 refine callType_new called_map (by decide) (typeCall_map_2 _ _) (newCall_map_2 _ _) (fun obj => F.args_object_init_3 obj _ _) entry_map_new
  (meets_map_new t f its) ⟨⟨oT, (N _ hm).1, hoT, nt, hdT⟩, ?_⟩
 have z1 : (mapH1 s.heap t).objs.size = s.heap.objs.size + 1 := Heap.size_push ..
 have z2 : (mapH2 s.heap t).objs.size = s.heap.objs.size + 2 := by rw [Heap.size_push, z1]
 have N1 := News.push F' N ({ cls := .type "tuple_iterator", data := .fields #[.ref t, .int 0 0] } : Obj)
 have F1 := F'.push ({ cls := .type "tuple_iterator", data := .fields #[.ref t, .int 0 0] } : Obj)
 have N2 := News.push F1 N1 ({ cls := .type "tuple", data := .seq #[.ref s.heap.objs.size] } : Obj)
 have F2 := F1.push ({ cls := .type "tuple", data := .seq #[.ref s.heap.objs.size] } : Obj)
 have N3 := News.push F2 N2 ({ cls := .type "map", data := .fields #[.ref (mapH1 s.heap t).objs.size, f] } : Obj)
 have F3 := F2.push ({ cls := .type "map", data := .fields #[.ref (mapH1 s.heap t).objs.size, f] } : Obj)
 exact ⟨⟨_, Heap.get?_push_size _ rfl, rfl⟩, h _ _ _ _ F3 N3 (by rw [z1]; exact Nat.lt_succ_self _) (by rw [z1, z2]; exact Nat.lt_succ_self _) fun p hp => Heap.lt_size (N p hp).1⟩
theorem map_iter {M TI : Addr} {f : Value} {Q : Value → Shared → Prop} (hM : IsMap s.heap M TI f) (h : Q (.ref M) s) : wpAny (model prog w) A (pyIter (.ref M)) Q E s := by
 have hT : s.TypeIs (.ref M) "map" := ⟨_, hM, rfl⟩
 refine wpAny_pyIter_slot hT slot_map_iter (wpAny_call_entry slot_map_iter hT entry_map_iter ?_ (args_map_iter _))
 show wpAny _ _ (ret (.ref M)) _ _ s
 exact wpAny_pure ⟨_, rfl, "map", _, hT, slot_map_next.lookup, h⟩
theorem collect_map (hh : A.handled = none) (f : Value) (pv : List Value) (P : Nat → Value → Prop) (hpv : pv.length ≤ 1000000) {M TI it t : Addr} {oT : Obj} {nt : Nat} (hoT : oT.cls = .type "tuple") (hdT : oT.data = .seq pv.toArray nt) {Q : List Value → Shared → Prop}
  (F' : Fr h₀ L s.heap m) (N : News h₀ L s.heap ((M, ({ cls := .type "map", data := .fields #[.ref TI, f] } : Obj)) :: (TI, ({ cls := .type "tuple", data := .seq #[.ref it] } : Obj)) :: (it, ({ cls := .type "tuple_iterator", data := .fields #[.ref t, .int 0 0] } : Obj)) :: news))
  (hn : ND ((M, ({ cls := .type "map", data := .fields #[.ref TI, f] } : Obj)) :: (TI, ({ cls := .type "tuple", data := .seq #[.ref it] } : Obj)) :: (it, ({ cls := .type "tuple_iterator", data := .fields #[.ref t, .int 0 0] } : Obj)) :: news)) (hT : (t, oT) ∈ news)
  (turn : ∀ i v nw h tk, pv[i]? = some v → ND nw → Fr h₀ L h m → News h₀ L h nw → wpAny (model prog w) A.in1.in1 (call f [v]) (fun y s' => ∃ h' tk', s' = { s with heap := h', toks := tk' } ∧ P i y ∧ Fr h₀ L h' m ∧ News h₀ L h' nw) (fun _ _ => False) { s with heap := h, toks := tk })
  (hQ : ∀ acc nw h tk, Fr h₀ L h m → News h₀ L h nw → ND nw → (∀ p ∈ news, p ∈ nw) → ItemsOf P acc pv.length → Q acc.toList { s with heap := h, toks := tk }) :
  wpAny (model prog w) A (collect (.ref M)) Q E s := by
 have hlt := fun p hp => Heap.lt_size (N p hp).1
 have hMS : M ≠ s.heap.objs.size := Nat.ne_of_lt (hlt _ (.head _))
 have hTIS : TI ≠ s.heap.objs.size := Nat.ne_of_lt (hlt _ (.tail _ (.head _)))
 have hiS : it ≠ s.heap.objs.size := Nat.ne_of_lt (hlt _ (.tail _ (.tail _ (.head _))))
 have htS : t ≠ s.heap.objs.size := Nat.ne_of_lt (hlt _ (.tail _ (.tail _ (.tail _ hT))))
 have hMi : M ≠ it := (hn.head (it, _) (.tail _ (.head _))).symm
 have hn2 : ND ((TI, ({ cls := .type "tuple", data := .seq #[.ref it] } : Obj)) :: (it, ({ cls := .type "tuple_iterator", data := .fields #[.ref t, .int 0 0] } : Obj)) :: news) := (List.nodup_cons.mp hn).2
 have hTIi : TI ≠ it := (hn2.head (it, _) (.head _)).symm
 have hn3 : ND ((it, ({ cls := .type "tuple_iterator", data := .fields #[.ref t, .int 0 0] } : Obj)) :: news) := (List.nodup_cons.mp hn2).2
 have hti : t ≠ it := hn3.head (t, _) hT
 unfold collect
 refine wpAny_bind (wpAny_runValue (codeAny_builtin F.entry_proto_collect ?_))
 rw [Around.under_plainId F.plain_proto_collect _]
 show wpAny _ A.in1 (newList [] >>= fun l => again (.builtin "list.__iadd__" ⟨[l, .ref M], []⟩)) _ _ s
 refine wpAny_bind (wpAny_newObj_type ?_)
 refine wpAny_pure ⟨plainId_quiet F.plain_list_iadd _, codeAny_builtin F.entry_list_iadd ?_⟩
 rw [Around.under_plainId F.plain_list_iadd _]
 have hM0 : IsMap s.heap M TI f := (N _ (.head _)).1
 have hM1 : IsMap (s.heap.push { cls := .type "list", data := .seq ([] : List Value).toArray }) M TI f := Heap.get?_push_of_some _ hM0
 have hty : ({ s with heap := s.heap.push { cls := .type "list", data := .seq ([] : List Value).toArray } } : Shared).TypeIs (.ref M) "map" := ⟨_, hM1, rfl⟩
 show wpAny _ A.in1 (Builtin.List.listExtendWith (.ref s.heap.objs.size) (.ref M) (.ref s.heap.objs.size)) _ _ _
 unfold Builtin.List.listExtendWith
 refine wpAny_bind (wpAny_typeOf hty ?_)
 have h1 : Builtin.List.listSameRef (.ref s.heap.objs.size) (.ref M) = false := by simp [Builtin.List.listSameRef, hMS.symm]
 have h2 : (Value.type "map" == Value.type "list") = false := by decide
 have h3 : (Value.type "map" == Value.type "tuple") = false := by decide
 simp only [h1, h2, h3, Bool.or_false, Bool.false_eq_true, if_false]
 refine wpAny_bind (map_iter hM1 ?_)
 refine wpAny_bind (wpAny_holding ?_)
 unfold Builtin.List.listLengthHint
 refine wpAny_bind (wpAny_specialOf hty nolen_map ?_)
 show wpAny _ A.in1 (specialOf (Value.ref M) (Str.ofString "__length_hint__") >>= _) _ _ _
 refine wpAny_bind (wpAny_specialOf hty nohint_map ?_)
 refine wpAny_pure ?_
 show wpAny _ A.in1 (rule "list.extend.makes-room" >>= fun _ => Builtin.List.listTouch (.ref s.heap.objs.size) >>= fun _ =>
  again (.builtin "list.extend.loop" ⟨[.ref s.heap.objs.size, .ref M, .ref s.heap.objs.size], []⟩)) _ _ _
 refine wpAny_bind (wpAny_rule ?_)
 have N1 := News.push F' N ({ cls := .type "list", data := .seq ([] : List Value).toArray } : Obj)
 have F1 := F'.push ({ cls := .type "list", data := .seq ([] : List Value).toArray } : Obj)
 have n1 := hn.cons (a := s.heap.objs.size) (o := ({ cls := .type "list", data := .seq ([] : List Value).toArray } : Obj)) hlt
 have hS₁ := (N1 _ (.head _)).1
 refine wpAny_bind ?_
 show wpAny _ A.in1 (updateSeq s.heap.objs.size (·.push .none) >>= fun _ => updateSeq s.heap.objs.size (·.pop)) _ _ _
 refine wpAny_bind (wpAny_updateSeq hS₁ rfl ?_)
 have hS₂ := Heap.get?_update_self (Obj.mapSeq (·.push Value.none)) hS₁ rfl
 refine wpAny_updateSeq hS₂ rfl ?_
 have hS₃ := Heap.get?_update_self (Obj.mapSeq (·.pop)) hS₂ rfl
 have oth : ∀ b o, b ≠ s.heap.objs.size → (s.heap.push { cls := .type "list", data := .seq ([] : List Value).toArray }).get? b = some o →
   (((s.heap.push { cls := .type "list", data := .seq ([] : List Value).toArray }).update s.heap.objs.size (Obj.mapSeq (·.push Value.none))).update s.heap.objs.size (Obj.mapSeq (·.pop))).get? b = some o :=
  fun b o hb e => (Heap.get?_update_other _ _ (Ne.symm hb)).trans ((Heap.get?_update_other _ _ (Ne.symm hb)).trans e)
 have N2 := news_rep N1 (.head _) oth hS₃
 have F2 := fr_but F1 oth (N1 _ (.head _)).2.1 (N1 _ (.head _)).2.2
 refine wpAny_pure ⟨plainId_quiet F.plain_extend_loop _, ext_map (s := s) (m := m) (news := news) hh f pv P hpv hoT hdT _ turn (fun acc c nw h tk a1 a2 a3 a4 a5 a6 => ?_) (fun p hp => ⟨hn3.head p hp, Nat.ne_of_lt (hlt p (.tail _ (.tail _ (.tail _ hp))))⟩) hMi hMS hTIi hTIS hiS hti htS
  pv.length 0 _ _ s.toks _ _ _ (Nat.zero_add _).symm n1.rep (mem_rep_ne (.tail _ (.head _)) hMS) (mem_rep_ne (.tail _ (.tail _ (.head _))) hTIS) (mem_rep_ne (.tail _ (.tail _ (.tail _ (.head _)))) hiS) rfl rfl (mem_rep_ne (.tail _ (.tail _ (.tail _ (.tail _ hT)))) htS) (mem_rep_self (.head _)) (ItemsOf.nil P)
  (fun p hp => mem_rep_ne' (.tail _ (.tail _ (.tail _ (.tail _ hp)))) (Nat.ne_of_lt (hlt p (.tail _ (.tail _ (.tail _ hp)))))) F2 N2⟩
 show wpAny _ A (load s.heap.objs.size >>= _) _ _ _
 refine wpAny_bind (wpAny_load (a2 _ a5).1 ?_)
 exact wpAny_pure (hQ acc nw h tk a1 a2 a3 a4 a6)
end
end
section
section
variable {prog : Program} {w : World} {A : Around} {E : Value → Shared → Prop} {s : Shared} {h₀ : Heap} {L : Addr} {m : Str → Option Value} {news : List (Addr × Obj)}
theorem tuple_map (hh : A.handled = none) (f : Value) (pv : List Value) (P : Nat → Value → Prop) (hpv : pv.length ≤ 1000000) {M TI it t : Addr} {oT : Obj} {nt : Nat} (hoT : oT.cls = .type "tuple") (hdT : oT.data = .seq pv.toArray nt) {Q : Value → Shared → Prop}
  (F' : Fr h₀ L s.heap m) (N : News h₀ L s.heap ((M, ({ cls := .type "map", data := .fields #[.ref TI, f] } : Obj)) :: (TI, ({ cls := .type "tuple", data := .seq #[.ref it] } : Obj)) :: (it, ({ cls := .type "tuple_iterator", data := .fields #[.ref t, .int 0 0] } : Obj)) :: news))
  (hn : ND ((M, ({ cls := .type "map", data := .fields #[.ref TI, f] } : Obj)) :: (TI, ({ cls := .type "tuple", data := .seq #[.ref it] } : Obj)) :: (it, ({ cls := .type "tuple_iterator", data := .fields #[.ref t, .int 0 0] } : Obj)) :: news)) (hT : (t, oT) ∈ news)
  (turn : ∀ i v nw h tk, pv[i]? = some v → ND nw → Fr h₀ L h m → News h₀ L h nw → wpAny (model prog w) A.in1.in1.in1.in1 (call f [v]) (fun y s' => ∃ h' tk', s' = { s with heap := h', toks := tk' } ∧ P i y ∧ Fr h₀ L h' m ∧ News h₀ L h' nw) (fun _ _ => False) { s with heap := h, toks := tk })
  (hQ : ∀ D acc nw h tk, Fr h₀ L h m → News h₀ L h ((D, ({ cls := .type "tuple", data := .seq acc } : Obj)) :: nw) → ND ((D, ({ cls := .type "tuple", data := .seq acc } : Obj)) :: nw) → (∀ p ∈ news, p ∈ nw) → ItemsOf P acc pv.length → Q (.ref D) { s with heap := h, toks := tk }) :
  wpAny (model prog w) A (call (.type "tuple") [.ref M]) Q E s := by
 have hM0 : IsMap s.heap M TI f := (N _ (.head _)).1
 have hTI : s.TypeIs (.ref M) "map" := ⟨_, hM0, rfl⟩
 refine callType_codes (Q₁ := fun obj s₁ => s₁.TypeIs obj "tuple" ∧ Q obj s₁) F.called_tuple (F.typeCall_tuple_1 _) F.entry_object_init ?_ fun obj s₁ h₁ => ?_
 ·refine codeAny_of_tree ?_
  show wpAny _ A.in1.in1 (do checkBuiltinCall "tuple.__new__" ⟨[.type "tuple", .ref M], []⟩; again (.builtin "tuple.__new__" ⟨[.type "tuple", .ref M], []⟩)) _ _ s
  refine wpAny_bind (wpAny_of_eq (F.newCall_tuple_1 _) (wpAny_pure ⟨plainId_quiet F.plain_tuple_new _, codeAny_builtin F.entry_tuple_new ?_⟩))
  rw [Around.under_plainId F.plain_tuple_new _]
  have hsub := sub_tuple_self
  have hinit := init_tuple_lookup
  have hmh := madeHere_tuple
  wp_walk using wpAny_typeOf hTI, collect_map (A := A.in1.in1) hh f pv P hpv hoT hdT F' N hn hT turn
  intro acc nw h tk a1 a2 a3 a4 a5
  show wpAny _ _ (Builtin.Tuple.tupleExact acc.toList.toArray >>= fun v => ret v) _ _ _
  unfold Builtin.Tuple.tupleExact
  refine wpAny_bind (wpAny_newObj_type ?_ (by show acc.toList.toArray.size ≤ sizeLine; simp only [Array.toArray_toList]; rw [a5.1, sizeLine_eq]; (exact Nat.le_trans hpv (by decide))))
  refine wpAny_pure ?_
  have e : acc.toList.toArray = acc := by simp
  rw [e]
  refine ⟨⟨_, Heap.get?_push_size _ rfl, rfl⟩, hQ _ acc nw _ tk (a1.push _) (News.push a1 a2 _) (a3.cons fun p hp => Heap.lt_size (a2 p hp).1) a4 a5⟩
 ·exact i0_3 h₁.1 (F.args_object_init_2 obj _) (object_init_meets F.called_tuple.init.lookup F.called_tuple.made (by decide) prog w A.in1 _ s₁ ⟨h₁.1, rfl, h₁.2⟩)
end
end
section
section
variable {prog : Program} {w : World} {A : Around} {E : Value → Shared → Prop} {s : Shared}
theorem hash_true {Q : Int → Shared → Prop} (h : Q 1 { s with toks := s.toks + 1 }) : wpAny (model prog w) A (pyHash (.bool true)) Q E s := by
 have hT : s.TypeIs (.bool true) "bool" := rfl
 unfold pyHash
 have hv : [Value.bool true].any Value.onHeap = false := rfl
 refine wpAny_bind ?_
 rw [cRoomFor, if_neg (by rw [hv]; exact Bool.false_ne_true)]; refine wpAny_pure ?_
 refine wpAny_bind (wpAny_specialOf hT F.slot_bool_hash.lookup ?_)
 show wpAny _ _ (if (some (Value.builtin "int.__hash__") == some Value.none) = true then _ else _) Q E s
 rw [if_neg (by rw [beq_builtin_none]; exact Bool.false_ne_true)]
 refine wpAny_bind (wpAny_specialOf hT F.slot_bool_hash.lookup ?_)
 show wpAny _ _ (callSpecialIfBoundUnlessNone? (.bool true) "__hash__" _ >>= _) Q E s
 refine wpAny_bind (wpAny_callSpecialIfBoundUnlessNone?_slot hT F.slot_bool_hash
  (wpAny_call_entry F.slot_bool_hash hT entry_int_hash
   (show wpAny _ _ (do ret (← mkInt 1)) _ _ s from wpAny_ret_mkInt ?_) (args_int_hash _)))
 exact wpAny_pure h
noncomputable def sled (w : World) : Bool := !(w.params.followText "set-order")
noncomputable def oneT (led : Bool) : SetTable := (layNew (.fresh 0 0 led) #[] 1 (.bool true)).2.1
theorem lay_one (led : Bool) : layNew (.fresh 0 0 led) #[] 1 (.bool true) = (#[(1, .bool true)], oneT led, false, false) := by cases led <;> rfl
theorem oneT_fits (led : Bool) : (oneT led).fits 1 = true := by cases led <;> rfl
theorem oneT_full (led : Bool) : (oneT led).tooFull = false := by cases led <;> rfl
theorem oneT_plain (led : Bool) : (oneT led).plain = true := by cases led <;> rfl
theorem oneT_led (led : Bool) : (oneT led).led = led := by cases led <;> rfl
noncomputable abbrev setO0 (led : Bool) : Obj := { cls := .type "set", data := .set #[] 0 (.fresh 0 0 led) }
noncomputable abbrev setO1 (led : Bool) : Obj := { cls := .type "set", data := .set #[(1, .bool true)] 1 (oneT led) }
theorem new_set {Q : Value → Shared → Prop} (h : Q (.ref s.heap.objs.size) { s with heap := s.heap.push (setO0 (sled w)) }) : wpAny (model prog w) A (newSet (.type "set")) Q E s := by
 unfold newSet setsByText
 refine wpAny_bind (wpAny_bind (wpAny_askSetting (wpAny_pure ?_)))
 exact wpAny_newObj_type h
theorem add_first {a : Addr} {led : Bool} {Q : Value → Shared → Prop} (ha : s.heap.get? a = some (setO0 led))
  (h : ∀ h', Heap.SameBut a s.heap h' → h'.get? a = some (setO1 led) → Q .none { s with heap := h', toks := s.toks + 1 }) :
  wpAny (model prog w) A (call (.builtin "set.add") [.ref a, .bool true]) Q E s := by
 refine wpAny_call_entry F.slot_set_add (⟨_, ha, rfl⟩ : s.TypeIs (.ref a) "set") F.entry_set_add ?_ (F.args_set_add_2 _ _)
 unfold Builtin.«set.add» Builtin.Frozenset.oneOther
 simp only [List.isEmpty_nil, bind_assoc]
 unfold Builtin.Frozenset.addrOf setAdd
 refine wpAny_bind (wpAny_pure ?_)
 try dsimp only
 refine wpAny_bind (wpAny_pure ?_)
 try dsimp only
 refine wpAny_bind ?_
 refine wpAny_holding ?_
 refine wpAny_bind (hash_true ?_)
 unfold setAddHashed
 refine wpAny_holding ?_
 unfold setAddHashedIn
 refine wpAny_bind (wpAny_setState_of (s := { s with toks := s.toks + 1 }) ha rfl rfl ?_)
 dsimp only
 rw [if_pos (show byScan (.bool true) #[] = true from by simp [byScan, Value.scannable, scanBound])]
 refine wpAny_bind ?_
 unfold setAddByScan
 refine wpAny_bind (wpAny_rule (wpAny_bind ?_))
 unfold setScan setScanFrom
 refine wpAny_pure ?_
 dsimp only
 refine wpAny_bind (wpAny_pure ?_)
 rw [lay_one]
 dsimp only
 rw [if_pos (oneT_plain led)]
 refine wpAny_bind ?_
 rw [show hashByValue 8 (.bool true) = pure true from by unfold hashByValue; rfl]
 refine wpAny_pure ?_
 simp only [if_true]
 refine wpAny_bind (wpAny_storeSet_of (s := { s with toks := s.toks + 1 }) ha rfl ?_ (by show 1 ≤ sizeLine; rw [sizeLine_eq]; (decide)))
 rw [if_neg (by rw [oneT_full]; decide)]
 refine wpAny_pure ?_
 dsimp only
 refine wpAny_pure ?_
 show wpAny _ _ (ret Value.none) _ _ _
 refine wpAny_pure ⟨_, rfl, h _ (Heap.SameBut.update ..) ?_⟩
 rw [Heap.get?_update_self _ ha (by rw [putSet_of _ _ rfl]; rfl), putSet_of _ _ rfl]
theorem add_again {a : Addr} {led : Bool} {Q : Value → Shared → Prop} (ha : s.heap.get? a = some (setO1 led))
  (h : Q .none { s with toks := s.toks + 1 }) :
  wpAny (model prog w) A (call (.builtin "set.add") [.ref a, .bool true]) Q E s := by
 refine wpAny_call_entry F.slot_set_add (⟨_, ha, rfl⟩ : s.TypeIs (.ref a) "set") F.entry_set_add ?_ (F.args_set_add_2 _ _)
 unfold Builtin.«set.add» Builtin.Frozenset.oneOther
 simp only [List.isEmpty_nil, bind_assoc]
 unfold Builtin.Frozenset.addrOf setAdd
 refine wpAny_bind (wpAny_pure ?_)
 try dsimp only
 refine wpAny_bind (wpAny_pure ?_)
 try dsimp only
 refine wpAny_bind ?_
 refine wpAny_holding ?_
 refine wpAny_bind (hash_true ?_)
 unfold setAddHashed
 refine wpAny_holding ?_
 unfold setAddHashedIn
 refine wpAny_bind (wpAny_setState_of (s := { s with toks := s.toks + 1 }) ha rfl (oneT_fits led) ?_)
 dsimp only
 rw [if_pos (show byScan (.bool true) #[(1, .bool true)] = true from by simp [byScan, Value.scannable, scanBound])]
 refine wpAny_bind ?_
 unfold setAddByScan
 refine wpAny_bind (wpAny_rule (wpAny_bind ?_))
 unfold setScan setScanFrom
 dsimp only
 rw [if_pos (show ((1 : Int) == 1) = true from rfl)]
 refine wpAny_bind (wpAny_setEpoch_of (s := { s with toks := s.toks + 1 }) ha rfl (oneT_fits led) ?_)
 refine wpAny_bind (PySem.SeqAt.EqAt.same _ prog w _ _ ?_)
 simp only [Bool.and_self, if_true]
 refine wpAny_pure ?_
 dsimp only
 refine wpAny_pure ?_
 dsimp only
 refine wpAny_pure ?_
 show wpAny _ _ (ret Value.none) _ _ _
 exact wpAny_pure ⟨_, rfl, h⟩
end
end
section
theorem entry_set_iter : entryFor table "set.__iter__" = some Builtin.«frozenset.__iter__» :=
 entryFor_alias (id' := "frozenset.__iter__") (by kernel_rfl) (by first | rfl | decide +kernel) (by decide +kernel) (by kernel_rfl)
theorem slot_seti_next : Slot "set_iterator" "__next__" "set_iterator.__next__" :=
 .of (owner := "set_iterator") (n := "__next__") (by rw [typeLookup_type, builtinLookup_eq_fast]; kernel_rfl) (by decide +kernel) (by decide +kernel) (by decide +kernel)
  (by first | exact .inl (by decide +kernel) | exact .inr (by decide +kernel)) (by rw [isSubtype_type]; kernel_rfl)
theorem entry_seti_next : entryFor table "set_iterator.__next__" = some Builtin.«set_iterator.__next__» := entryFor_of_tree (by kernel_rfl)
theorem owner_seti : Manifest.owners.lookup "set_iterator" = some Manifest.sig_set_iterator := by kernel_rfl
theorem args_seti_next (a : Value) : argsOk "set_iterator.__next__" ⟨[a], []⟩ := by
 unfold argsOk; rw [signature?_of (id := "set_iterator.__next__") (n := ['_', '_', 't', 'x', 'e', 'n', '_', '_']) (o := ['r', 'o', 't', 'a', 'r', 'e', 't', 'i', '_', 't', 'e', 's']) (by kernel_rfl) owner_seti]; kernel_rfl
section
variable {prog : Program} {w : World} {A : Around} {E : Value → Shared → Prop} {s : Shared}
noncomputable abbrev IsSetIt (h : Heap) (it a : Addr) (slot i : Int) (src : Value) : Prop := h.get? it = some { cls := .type "set_iterator", data := .fields #[rawInt slot, rawInt i, src, rawInt 1, rawInt 1] }
theorem oneT_place (led : Bool) : (oneT led).place = #[1] := by cases led <;> rfl
noncomputable def sbt (w : World) : Bool := w.params.followText "set-order"
theorem by_text {Q : Bool → Shared → Prop} (h : Q (sbt w) s) : wpAny (model prog w) A setsByText Q E s := by
 unfold setsByText
 exact wpAny_bind (wpAny_askSetting (wpAny_pure h))
theorem pick_one (f : Nat → Nat) (x : Int × Value) : pickOrder f #[x] = #[x] := by
 unfold pickOrder
 simp [pickOrder.go, Nat.mod_one]
theorem walk_one {a : Addr} {led : Bool} {Q : Array (Int × Value) → Shared → Prop} (ha : s.heap.get? a = some (setO1 led)) (hb : sbt w = true) (h : Q #[(1, .bool true)] s) : wpAny (model prog w) A (setWalk a) Q E s := by
 unfold setWalk
 refine wpAny_bind (wpAny_setState_of ha rfl (oneT_fits _) ?_)
 dsimp only
 refine wpAny_bind (by_text ?_)
 rw [if_pos hb]
 refine wpAny_bind (wpAny_askSetting (wpAny_pure ?_))
 rw [pick_one]
 exact h
noncomputable def sNext (b : Bool) : Nat := if b = true then 0 else 2
theorem setNext_item {a : Addr} {Q : Option (Value × Nat) → Shared → Prop} (ha : s.heap.get? a = some (setO1 (sled w))) (h : Q (some (.bool true, sNext (sbt w))) s) : wpAny (model prog w) A (setNext a 0 0 1) Q E s := by
 unfold setNext
 refine wpAny_bind (wpAny_setState_of ha rfl (oneT_fits _) ?_)
 dsimp only
 refine wpAny_bind (by_text ?_)
 have hl : (oneT (sled w)).led = !sbt w := oneT_led _
 cases hb : sbt w with
 | true =>
  rw [if_pos rfl, if_neg (by decide)]
  refine wpAny_bind (walk_one ha hb ?_)
  refine wpAny_pure ?_
  rw [hb] at h
  exact h
 | false =>
  rw [if_neg (by decide)]
  show wpAny _ _ (if (!(oneT (sled w)).plain && decide (1 > 1)) = true then _ else _) _ _ _
  rw [if_neg (by simp)]
  show wpAny _ _ ((if (!(oneT (sled w)).led && !false) = true then _ else _) >>= _) _ _ _
  rw [if_neg (by rw [hl, hb]; decide)]
  refine wpAny_bind (wpAny_pure ?_)
  rw [hb] at h
  rw [oneT_place]
  exact wpAny_pure h
theorem setNext_end {a : Addr} {Q : Option (Value × Nat) → Shared → Prop} (ha : s.heap.get? a = some (setO1 (sled w))) (h : Q none s) : wpAny (model prog w) A (setNext a (sNext (sbt w)) 1 1) Q E s := by
 unfold setNext
 refine wpAny_bind (wpAny_setState_of ha rfl (oneT_fits _) ?_)
 dsimp only
 refine wpAny_bind (by_text ?_)
 have hl : (oneT (sled w)).led = !sbt w := oneT_led _
 cases hb : sbt w with
 | true =>
  rw [if_pos rfl, if_neg (by decide)]
  refine wpAny_bind (walk_one ha hb ?_)
  exact wpAny_pure h
 | false =>
  rw [if_neg (by decide)]
  show wpAny _ _ (if (!(oneT (sled w)).plain && decide (1 > 1)) = true then _ else _) _ _ _
  rw [if_neg (by simp)]
  show wpAny _ _ ((if (!(oneT (sled w)).led && !false) = true then _ else _) >>= _) _ _ _
  rw [if_neg (by rw [hl, hb]; decide)]
  refine wpAny_bind (wpAny_pure ?_)
  rw [oneT_place]
  exact wpAny_pure h
theorem seti_next {it a : Addr} {Q : Value → Shared → Prop} (ha : s.heap.get? a = some (setO1 (sled w))) (hai : a ≠ it) (hit : IsSetIt s.heap it a 0 0 (.ref a))
  (h : ∀ h', IsSetIt h' it a (sNext (sbt w)) 1 (.ref a) → Heap.SameBut it s.heap h' → Q (.bool true) { s with heap := h' }) :
  wpAny (model prog w) A (Builtin.«set_iterator.__next__» ⟨[.ref it], []⟩) (fun fin s' => ∃ v, fin = .done (.ret v) ∧ Q v s') E s := by
 unfold Builtin.«set_iterator.__next__»
 refine wpAny_bind (wpAny_pure ?_)
 refine wpAny_bind (wpAny_fieldsOf hit rfl ?_)
 simp only [rawInt]
 refine wpAny_bind (wpAny_setEntries_of ha rfl (oneT_fits _) ?_)
 rw [if_neg (by decide)]
 refine wpAny_bind (setNext_item ha ?_)
 dsimp only
 refine wpAny_bind (wpAny_setField_rec hit (by simp) fun h₁ hit₁ hs₁ => ?_)
 refine wpAny_bind (wpAny_setField_rec hit₁ (by simp) fun h₂ hit₂ hs₂ => ?_)
 exact wpAny_pure ⟨_, rfl, h h₂ hit₂ (hs₁.trans hs₂)⟩
theorem seti_end {it a : Addr} {Q : Value → Shared → Prop} (hh : A.handled = none) (ha : s.heap.get? a = some (setO1 (sled w))) (hit : IsSetIt s.heap it a (sNext (sbt w)) 1 (.ref a))
  (hE : ∀ h' e, Heap.ExtBut it s.heap h' → (∃ o, h'.get? e = some o ∧ o.cls = .type "StopIteration") → E (.ref e) { s with heap := h' }) :
  wpAny (model prog w) A (Builtin.«set_iterator.__next__» ⟨[.ref it], []⟩) (fun fin s' => ∃ v, fin = .done (.ret v) ∧ Q v s') E s := by
 unfold Builtin.«set_iterator.__next__»
 refine wpAny_bind (wpAny_pure ?_)
 refine wpAny_bind (wpAny_fieldsOf hit rfl ?_)
 simp only [rawInt]
 refine wpAny_bind (wpAny_setEntries_of ha rfl (oneT_fits _) ?_)
 rw [if_neg (by decide)]
 refine wpAny_bind (setNext_end ha ?_)
 dsimp only
 refine wpAny_bind (wpAny_setField_rec hit (by simp) fun h₁ hit₁ hs₁ => ?_)
 refine wpAny_bind ?_
 simp only [newExc, newTuple]
 refine wpAny_bind (wpAny_newObj_type ?_ (by size_fits))
 refine wpAny_bind (m := firstArgMember _ _) (wpAny_of_eq (a := Value.none) (by first | rfl | (simp only [firstArgMember]; rfl)) ?_)
 refine wpAny_newObj_type ?_ (by size_fits)
 simp only [raiseNew]
 refine wpAny_bind (wpAny_handled ?_)
 first | rw [show A.in1.handled = none from hh] | rw [hh]
 refine wpAny_bind (wpAny_pure (wpAny_throw ?_))
 exact hE _ _ ((hs₁.extBut.push _).push _) ⟨_, Heap.get?_push_size _ rfl, rfl⟩
theorem iter_set {a : Addr} {Q : Value → Shared → Prop} (ha : s.heap.get? a = some (setO1 (sled w)))
  (h : ∀ h', h' = s.heap.push { cls := .type "set_iterator", data := .fields #[rawInt 0, rawInt 0, .ref a, rawInt 1, rawInt 1] } → Q (.ref s.heap.objs.size) { s with heap := h' }) : wpAny (model prog w) A (pyIter (.ref a)) Q E s := by
 have hT : s.TypeIs (.ref a) "set" := ⟨_, ha, rfl⟩
 refine wpAny_pyIter_slot hT F.slot_set_iter (wpAny_call_entry F.slot_set_iter hT entry_set_iter ?_ (F.args_set_iter_1 _))
 unfold Builtin.«frozenset.__iter__» Builtin.Frozenset.slot0 slotArgs
 simp only [List.isEmpty_nil, Bool.not_true, Bool.false_eq_true, ↓reduceIte, bind_assoc, List.length_nil, bne_self_eq_false]
 unfold Builtin.Frozenset.addrOf Builtin.Frozenset.sizeOf
 refine wpAny_bind (wpAny_pure ?_)
 try dsimp only
 refine wpAny_bind (wpAny_pure ?_)
 refine wpAny_bind (wpAny_bind (wpAny_setEntries_of ha rfl (oneT_fits _) (wpAny_pure ?_)))
 refine wpAny_bind ?_
 unfold setDrawn
 refine wpAny_bind (wpAny_setState_of ha rfl (oneT_fits _) ?_)
 dsimp only
 refine wpAny_bind (by_text (wpAny_pure ?_))
 show wpAny _ _ (if (!sbt w && (!(oneT (sled w)).plain && decide (1 > 1))) = true then _ else _) _ _ _
 rw [if_neg (by simp)]
 refine wpAny_bind (wpAny_pure ?_)
 refine wpAny_bind (wpAny_setEpoch_of ha rfl (oneT_fits _) ?_)
 refine wpAny_bind (wpAny_newObj_type (wpAny_pure ⟨_, rfl, "set_iterator", _, ⟨_, Heap.get?_push_size _ rfl, rfl⟩, slot_seti_next.lookup, h _ rfl⟩))
theorem pyNext_set {it a : Addr} {Q : Option Value → Shared → Prop} (ha : s.heap.get? a = some (setO1 (sled w))) (hai : a ≠ it) (hit : IsSetIt s.heap it a 0 0 (.ref a))
  (h : ∀ h', IsSetIt h' it a (sNext (sbt w)) 1 (.ref a) → Heap.SameBut it s.heap h' → Q (some (.bool true)) { s with heap := h' }) : wpAny (model prog w) A (pyNext (.ref it)) Q E s := by
 have hT : s.TypeIs (.ref it) "set_iterator" := ⟨_, hit, rfl⟩
 unfold pyNext
 exact wpAny_bind (wpAny_attempt (wpAny_callSpecial?_slot (name := Str.ofString "__next__") hT slot_seti_next
  (wpAny_call_entry slot_seti_next hT entry_seti_next
   (seti_next ha hai hit fun h' a b => wpAny_pure (h h' a b)) (args_seti_next _))))
theorem pyNext_set_end {it a : Addr} {Q : Option Value → Shared → Prop} (hh : A.handled = none) (ha : s.heap.get? a = some (setO1 (sled w))) (hit : IsSetIt s.heap it a (sNext (sbt w)) 1 (.ref a))
  (hQ : ∀ h', Heap.ExtBut it s.heap h' → Q none { s with heap := h' }) : wpAny (model prog w) A (pyNext (.ref it)) Q E s := by
 have hT : s.TypeIs (.ref it) "set_iterator" := ⟨_, hit, rfl⟩
 unfold pyNext
 refine wpAny_bind (wpAny_attempt (wpAny_callSpecial?_slot (name := Str.ofString "__next__") hT slot_seti_next
  (wpAny_call_entry slot_seti_next hT entry_seti_next (seti_end (Q := fun y s' => _) hh ha hit fun h' e hk he => ?_) (args_seti_next _))))
 refine e1_2 he ?_
 (try clear he); intro o ho hc
 refine wpAny_bind (wpAny_isInstance (T := "StopIteration") (b := true) ⟨o, ho, hc⟩ isSubtype_stop ?_)
 exact wpAny_pure (hQ _ hk)
theorem unpack_set {a : Addr} {Q : List Value → Shared → Prop} (hh : A.handled = none) (ha : s.heap.get? a = some (setO1 (sled w)))
  (hQ : ∀ h', (∀ b o, s.heap.get? b = some o → h'.get? b = some o) → Q [.bool true] { s with heap := h' }) : wpAny (model prog w) A (unpackItems (.ref a) 1 none) Q E s := by
 have hT : s.TypeIs (.ref a) "set" := ⟨_, ha, rfl⟩
 have hlt : a ≠ s.heap.objs.size := Nat.ne_of_lt (Heap.lt_size ha)
 unfold unpackItems notIterableAtAll
 refine wpAny_bind (wpAny_bind (wpAny_specialOf hT F.slot_set_iter.lookup ?_))
 refine wpAny_pure ?_
 simp only [Bool.false_eq_true, if_false]
 refine wpAny_bind (wpAny_holding (iter_set ha fun h₀ e₀ => ?_))
 have ha0 : h₀.get? a = some (setO1 (sled w)) := by rw [e₀]; exact Heap.get?_push_of_some _ ha
 have hit0 : IsSetIt h₀ s.heap.objs.size a 0 0 (.ref a) := by rw [e₀]; exact Heap.get?_push_size _ rfl
 have k0 : ∀ b o, s.heap.get? b = some o → h₀.get? b = some o := fun b o e => by rw [e₀]; exact Heap.get?_push_of_some _ e
 clear e₀
 refine wpAny_bind (wpAny_holding ?_)
 unfold draw
 refine wpAny_bind (pyNext_set (s := { s with heap := h₀ }) ha0 hlt hit0 fun h₁ hit1 hs1 => ?_)
 have ha1 : h₁.get? a = some (setO1 (sled w)) := (hs1.2 a hlt).trans ha0
 dsimp only
 refine wpAny_bind (wpAny_holding ?_)
 unfold draw
 refine wpAny_pure ?_
 refine wpAny_pure ?_
 rw [if_neg (by simp)]
 refine wpAny_bind (wpAny_holding (pyNext_set_end (s := { s with heap := h₁ }) hh ha1 hit1 fun h₂ he => ?_))
 simp only [Option.isSome_none, Bool.false_eq_true, if_false]
 refine wpAny_pure (hQ h₂ fun b o e => ?_)
 have hb : b ≠ s.heap.objs.size := Nat.ne_of_lt (Heap.lt_size e)
 exact he b o hb ((hs1.2 b hb).trans (k0 b o e))
end
end
section
open PyProof.Rows.LCg
section
variable {prog : Program} {w : World} {A : Around} {E : Value → Shared → Prop} {R : Result → Shared → Prop} {s : Shared}
theorem compTurn_set {elt target iter : PySem.Expr} {scope : Scope} {pos : Pos} {it acc : Value} {env : Env} :
  compTurn (.SetComp elt [⟨target, iter, [], 0⟩] scope pos) 0 it acc env = (do
   standAt iter.pos
   match ← pyNext it with
   | none => pure (.done .next)
   | some v =>
    letOwnedTupleGo target it v
    assign target env v
    (do let v ← eval elt env; standAt elt.pos; let _ ← call (.builtin "set.add") [acc, v])
    again (.compLoop (.SetComp elt [⟨target, iter, [], 0⟩] scope pos) 0 it acc env)) := by rfl
theorem codeAny_set {elt target iter : PySem.Expr} {scope : Scope} {pos : Pos} {it acc : Value} {env : Env} (I : Nat → Shared → Prop)
  (turn : ∀ n s, I n s → wpAny (model prog w) A (pyNext it) (fun r s₁ => match r with
   | none => R (.ok .next) s₁
   | some v => wpAny (model prog w) A (letOwnedTupleGo target it v) (fun _ s₀ => wpAny (model prog w) A (assign target env v) (fun _ s₂ =>
     wpAny (model prog w) A (eval elt env) (fun x s₄ =>
       wpAny (model prog w) A (call (.builtin "set.add") [acc, x]) (fun _ s₅ => ∃ m, m < n ∧ I m s₅) (notedBy (model prog w) A env fun e s' => R (.error e) s') s₄) (notedBy (model prog w) A env fun e s' => R (.error e) s') s₂) (notedBy (model prog w) A env fun e s' => R (.error e) s') s₀) (notedBy (model prog w) A env fun e s' => R (.error e) s') s₁) (notedBy (model prog w) A env fun e s' => R (.error e) s') s)
  (n : Nat) (h : I n s) : codeAny (model prog w) A (.compLoop (.SetComp elt [⟨target, iter, [], 0⟩] scope pos) 0 it acc env) R s := by
 refine codeAny_loop rfl I (fun n s hI => ?_) n h
 show wpAny _ A ((compTurn (.SetComp elt [⟨target, iter, [], 0⟩] scope pos) 0 it acc env).onRaise (fun x => do noteFrame x env; theTreesLotGoes x)) _ _ s
 refine wpAny_noted ?_
 rw [compTurn_set]
 refine wpAny_bind (wpAny_standAt (wpAny_bind (wpAny_mono (turn n s hI) (fun r s₁ h₁ => ?_) fun _ _ h' => h')))
 cases r with
 | none => exact wpAny_pure h₁
 | some v =>
  refine wpAny_bind (wpAny_mono h₁ (fun _ s₀ h₀' => ?_) fun _ _ h' => h')
  refine wpAny_bind (wpAny_mono h₀' (fun _ s₂ h₂ => ?_) fun _ _ h' => h')
  refine wpAny_bind (wpAny_bind (wpAny_mono h₂ (fun x s₄ h₄ => wpAny_bind (wpAny_standAt (wpAny_bind (wpAny_mono h₄ (fun _ s₅ h₅ => wpAny_pure (wpAny_pure ⟨rfl, h₅⟩)) fun _ _ h' => h')))) fun _ _ h' => h'))
theorem codeAny_setC {elt target iter : PySem.Expr} {scope : Scope} {pos : Pos} {it acc : Value} {env : Env} (I : Nat → Shared → Prop)
  (turn : ∀ n s (P0 : Shared → Prop) (E0 : Value → Shared → Prop), (∀ m s', m < n → I m s' → P0 s') → I n s → wpAny (model prog w) A (pyNext it) (fun r s₁ => match r with
   | none => R (.ok .next) s₁
   | some v => wpAny (model prog w) A (letOwnedTupleGo target it v) (fun _ s₀ => wpAny (model prog w) A (assign target env v) (fun _ s₂ =>
     wpAny (model prog w) A (eval elt env) (fun x s₄ =>
       wpAny (model prog w) A (call (.builtin "set.add") [acc, x]) (fun _ s₅ => P0 s₅) E0 s₄) E0 s₂) E0 s₀) E0 s₁) E0 s)
  (n : Nat) (h : I n s) : codeAny (model prog w) A (.compLoop (.SetComp elt [⟨target, iter, [], 0⟩] scope pos) 0 it acc env) R s :=
 codeAny_set I (fun n s hI => turn n s (fun s' => ∃ m, m < n ∧ I m s') _ (fun m s' h1 h2 => ⟨m, h1, h2⟩) hI) n h
theorem codeAny_compStart_set {elt target iter ifs rest scope pos it acc env}
  (h0 : codeAny (model prog w) A (.compLoop (.SetComp elt (⟨target, iter, ifs, 0⟩ :: rest) scope pos) 0 it acc env) R s)
  (h : wpAny (model prog w) A (pyIter it) (fun it' s' => codeAny (model prog w) A (.compLoop (.SetComp elt (⟨target, iter, ifs, 0⟩ :: rest) scope pos) 0 it' acc env) R s')
   (notedBy (model prog w) A env fun x s' => R (.error x) s') s) :
  codeAny (model prog w) A (.compStart (.SetComp elt (⟨target, iter, ifs, 0⟩ :: rest) scope pos) 0 it acc env) R s := by
 refine codeAny_of_tree ?_
 show wpAny _ _ ((compStart (.SetComp elt (⟨target, iter, ifs, 0⟩ :: rest) scope pos) 0 it acc env).onRaise (fun x => do noteFrame x env; standAt theWindowsPlace)) _ _ s
 refine wpAny_notedAt ?_
 unfold compStart
 show wpAny _ _ (ask >>= _) _ _ s
 refine wpAny_bind (wpAny_askSetting (wpAny_ite ?_))
 split
 ·first
   | exact wpAny_bind (wpAny_pure (wpAny_pure (And.intro rfl h0)))
   | exact wpAny_pure (And.intro rfl h0)
 ·first
   | exact wpAny_bind (wpAny_rule (wpAny_bind (wpAny_standAt (wpAny_bind (wpAny_mono h (fun it' s' h' => wpAny_pure (And.intro rfl h')) fun _ _ x => x)))))
   | (refine wpAny_bind (wpAny_rule ?_); show wpAny _ _ (standAt iter.pos >>= _) _ _ s; exact wpAny_bind (wpAny_standAt (wpAny_bind (wpAny_mono h (fun it' s' h' => wpAny_pure (And.intro rfl h')) fun _ _ x => x))))
end
section
variable {prog : Program} {w : World} {A : Around} {E : Value → Shared → Prop} {R : Result → Shared → Prop} {s : Shared} {h₀ : Heap} {L : Addr} {m : Str → Option Value} {env : Env}
theorem sblock {elt target iter : PySem.Expr} {ifs : List PySem.Expr} {rest : List Comprehension} {scope : Scope} {cl : List (Str × Addr)} {pos : Pos} {s₂ : Shared} {I : Addr} {fp wr : List Addr} {n : Nat} {P Md : Nat → Value → Heap → Prop} {St : Nat → Heap → Prop} {S : List (Addr × Obj) → Prop} {news : List (Addr × Obj)} {RR : Value → Addr → Result → Shared → Prop}
  (K : CSrc prog w A h₀ L target I fp wr n P Md St S) (hcell : ∀ y ∈ scope.names, y.2 ≠ .cell) (hkind : scope.kind = .function) (hst : St 0 s₂.heap) (hfp : ∀ b ∈ fp, b < s₂.heap.objs.size) (F : Fr h₀ L s₂.heap m) (N : News h₀ L s₂.heap news) (off : ∀ p ∈ news, p.1 ∉ wr)
  (loop : ∀ (C D : Addr) (h₁ : Heap) (tk : Nat) (m₀ : Str → Option Value), C ∉ fp → D ∉ fp → C ≠ D → h₀.get? C = none → h₀.get? D = none → C ≠ L → D ≠ L → St 0 h₁ → Fr h₀ L h₁ m → h₁.Ns C m₀ → News h₀ L h₁ ((D, setO0 (sled w)) :: news) → (∀ p ∈ news, p.1 ∉ wr ∧ p.1 ≠ C ∧ p.1 ≠ D) →
   codeAny (model prog w) A (.compLoop (.SetComp elt (⟨target, iter, ifs, 0⟩ :: rest) scope pos) 0 (.ref I) (.ref D) (compEnvC scope cl C env)) (RR (.ref D) C) { s₂ with heap := h₁, toks := tk }) :
  wpAny (model prog w) A (newSet (.type "set")) (fun acc s₃ => wpAny (model prog w) A (newFunctionEnv scope env.globals cl [] env.qual none .none (some env)) (fun cenv s₄ =>
   codeAny (model prog w) A (.compStart (.SetComp elt (⟨target, iter, ifs, 0⟩ :: rest) scope pos) 0 (.ref I) acc { cenv with scope := relabel scope env }) (RR acc cenv.locals) s₄) E s₃) E s₂ := by
 refine new_set (wpAny_newFunctionEnv hcell (by intro y hy; simp at hy) (fun h₁ hns₁ hsb₁ => ?_) hkind)
 dsimp only at hns₁ hsb₁ ⊢
 generalize hH2 : s₂.heap.push (setO0 (sled w)) = H2 at hns₁ hsb₁ ⊢
 have hC : H2.objs.size = s₂.heap.objs.size + 1 := by rw [← hH2, Heap.size_push]
 have hDC : s₂.heap.objs.size ≠ H2.objs.size := by rw [hC]; exact Nat.ne_of_lt (Nat.lt_succ_self _)
 have below : ∀ b, b < s₂.heap.objs.size → b ≠ H2.objs.size ∧ b ≠ s₂.heap.objs.size := fun b hb => ⟨by rw [hC]; exact Nat.ne_of_lt (Nat.lt_succ_of_lt hb), Nat.ne_of_lt hb⟩
 have hDf : s₂.heap.objs.size ∉ fp := fun hm => Nat.lt_irrefl _ (hfp _ hm)
 have hCf : H2.objs.size ∉ fp := fun hm => by have := hfp _ hm; rw [hC] at this; exact Nat.lt_irrefl _ (Nat.lt_of_succ_lt this)
 have old : ∀ b o, s₂.heap.get? b = some o → h₁.get? b = some o := fun b o e => hsb₁.extBut b o (below b (Heap.lt_size e)).1 (Heap.get?_push_of_some _ (hH2 ▸ Heap.get?_push_of_some _ e))
 have hacc : h₁.get? s₂.heap.objs.size = some (setO0 (sled w)) := hsb₁.extBut _ _ hDC (Heap.get?_push_of_some _ (hH2 ▸ Heap.get?_push_size _ rfl))
 have hst₁ : St 0 h₁ := K.W.frame _ _ _ hst fun b _ o e => old b o e
 have fresh : ∀ a, s₂.heap.objs.size ≤ a → s₂.heap.get? a = none := fun a ha => by
  cases e : s₂.heap.get? a with
  | none => rfl
  | some o' => exact absurd (Heap.lt_size e) (Nat.not_lt.mpr ha)
 have fresh₀ : ∀ a, s₂.heap.objs.size ≤ a → h₀.get? a = none := fun a ha => by
  cases e : h₀.get? a with
  | none => rfl
  | some o' => have := F.keep a o' e; rw [fresh a ha] at this; cases this
 have hD₀ : h₀.get? s₂.heap.objs.size = none := fresh₀ _ (Nat.le_refl _)
 have hC₀ : h₀.get? H2.objs.size = none := fresh₀ _ (by rw [hC]; exact Nat.le_succ _)
 have hLlt : L < s₂.heap.objs.size := F.ns.lt
 have hDL : s₂.heap.objs.size ≠ L := Ne.symm (below L hLlt).2
 have hCL : H2.objs.size ≠ L := Ne.symm (below L hLlt).1
 have lp := loop H2.objs.size s₂.heap.objs.size h₁ (s₂.toks + ([] : List (Str × Value)).length) _ hCf hDf (Ne.symm hDC) hC₀ hD₀ hCL hDL hst₁ (F.keeps old) hns₁ (fun p hp => by
   rcases List.mem_cons.mp hp with rfl | hp
   ·exact i0_3 hacc hDL hD₀
   ·exact ⟨old _ _ (N p hp).1, (N p hp).2⟩) (fun p hp => ⟨off p hp, (below _ (Heap.lt_size (N p hp).1)).1, (below _ (Heap.lt_size (N p hp).1)).2⟩)
 exact codeAny_compStart_set lp (K.self 0 _ _ _ hst₁ lp)
end
end
section
open PyProof.Rows.LCg
noncomputable def setAt (led : Bool) : Nat → Obj
 | 0 => setO0 led
 | _ + 1 => setO1 led
section
variable {prog : Program} {w : World} {A : Around} {E : Value → Shared → Prop} {R : Result → Shared → Prop} {s : Shared} {h₀ : Heap} {L : Addr} {m : Str → Option Value} {env : Env}
noncomputable def SEnd (h₀ : Heap) (L : Addr) (m : Str → Option Value) (s : Shared) (nw : List (Addr × Obj)) (y : Value) (s₄ : Shared) : Prop := ∃ h' tk', s₄ = { s with heap := h', toks := tk' } ∧ y = .bool true ∧ Fr h₀ L h' m ∧ News h₀ L h' nw
noncomputable def TurnS (prog : Program) (w : World) (A : Around) (h₀ : Heap) (L : Addr) (m : Str → Option Value) (env : Env) (elt : PySem.Expr) (scope : Scope) (cl : List (Str × Addr)) (s : Shared) (C : Addr) (n : Nat) (Bnd : Nat → (Str → Option Value) → Prop) (news₀ : List (Addr × Obj)) (J : Nat → List Value → List (Addr × Obj) → Prop) : Prop :=
 ∀ i nw oC m₂ h tk (E' : Value → Shared → Prop), i < n → Bnd i m₂ → NsObj oC m₂ → (∀ p ∈ news₀, p ∈ nw) → (C, oC) ∈ nw → ND nw → Fr h₀ L h m → News h₀ L h nw → (J i (List.replicate i .none) [] → J (i + 1) (List.replicate (i + 1) .none) []) ∧
  wpAny (model prog w) A (eval elt (compEnvC scope cl C env)) (SEnd h₀ L m s nw) E' { s with heap := h, toks := tk }
theorem set_loop {elt target iter : PySem.Expr} {scope : Scope} {cl : List (Str × Addr)} {pos : Pos} {C D I : Addr} {fp wr : List Addr} {n : Nat} {P Md : Nat → Value → Heap → Prop} {St : Nat → Heap → Prop} {S : List (Addr × Obj) → Prop}
  {Bnd : Nat → (Str → Option Value) → Prop} {J : Nat → List Value → List (Addr × Obj) → Prop} {news₀ : List (Addr × Obj)} {m₀ : Str → Option Value} {s₁ : Shared}
  (K : CSrc prog w A h₀ L target I fp wr n P Md St S) (hCf : C ∉ fp) (hDf : D ∉ fp) (hCD : C ≠ D) (hC0 : h₀.get? C = none) (hD0 : h₀.get? D = none) (hCL : C ≠ L) (hDL : D ≠ L) (hLw : L ∉ wr) (hw0 : ∀ a ∈ wr, h₀.get? a = none)
  (hasg : Asg prog w A target (compEnvC scope cl C env) C P Bnd)
  (turn : TurnS prog w A h₀ L m env elt scope cl s C n Bnd news₀ J)
  (hs₁ : s₁ = { s with heap := s₁.heap, toks := s₁.toks })
  (hst : St 0 s₁.heap) (F : Fr h₀ L s₁.heap m) (hn : s₁.heap.Ns C m₀) (N : News h₀ L s₁.heap ((D, setO0 (sled w)) :: news₀)) (off : ∀ p ∈ news₀, p.1 ∉ wr ∧ p.1 ≠ C ∧ p.1 ≠ D) (hS : S news₀) (hnd : ND news₀) (hJ : J 0 [] [])
  (hR : ∀ h' tk m', Fr h₀ L h' m → h'.Ns C m' → News h₀ L h' ((D, setAt (sled w) n) :: news₀) → J n (List.replicate n .none) [] → R (.ok .next) { s with heap := h', toks := tk }) :
  codeAny (model prog w) A (.compLoop (.SetComp elt [⟨target, iter, [], 0⟩] scope pos) 0 (.ref I) (.ref D) (compEnvC scope cl C env)) R s₁ := by
 have hCw : C ∉ wr := fun h => hCf (K.W.sub _ h)
 have hDw : D ∉ wr := fun h => hDf (K.W.sub _ h)
 refine codeAny_setC
  (fun k s' => ∃ h' tk i m', s' = { s with heap := h', toks := tk } ∧ i ≤ n ∧ k = n + 1 - i ∧ St i h' ∧ Fr h₀ L h' m ∧ h'.Ns C m' ∧ News h₀ L h' ((D, setAt (sled w) i) :: news₀) ∧ J i (List.replicate i .none) []) ?_ (n + 1)
  ⟨s₁.heap, s₁.toks, 0, m₀, hs₁, Nat.zero_le _, rfl, hst, F, hn, N, hJ⟩
 intro k s' P0 E0 hP0 hR0
 refine e4_8 hR0 ?_
 (try clear hR0); intro h' tk i m' hz1 hi hz2 hst' F' hn' N' hJ'
 subst hz1
 subst hz2
 by_cases hlt : i < n
 ·refine K.W.item i _ _ _ hlt hst' fun v h₂ tk₂ hMd hk₂ => ?_
  refine K.W.go i v _ _ _ hMd fun h₃ hP hst₃ hk₃ => ?_
  have up₃ : ∀ b o, b ∉ wr → h'.get? b = some o → h₃.get? b = some o := fun b o hb e => hk₃ b o hb (hk₂ b o hb e)
  refine hasg i v _ m' _ _ hP (hn'.at' fun o e => up₃ _ o hCw e) fun h₄ tk₄ m₄ hn₄ hB hk₄ => ?_
  have up₄ : ∀ b o, b ∉ wr → b ≠ C → h'.get? b = some o → h₄.get? b = some o := fun b o hb hc e => hk₄ b o hc (up₃ b o hb e)
  have hst₄ : St (i + 1) h₄ := K.W.frame _ _ _ hst₃ fun b hb o e => hk₄ b o (fun q => hCf (q ▸ hb)) e
  refine e1_2 (ns_obj hn₄) ?_
  intro oC heC hoC
  refine e0_3 (tc_facts hCw hDw hCD hC0 hCL hLw hw0 K.nodup up₄ F' N' off hnd heC) ?_
  intro F₄ N₄ ndw
  have sub4 : ∀ p ∈ news₀, p ∈ ownAt h₄ wr ++ (C, oC) :: (D, setAt (sled w) i) :: news₀ := fun p hp => List.mem_append_right _ (.tail _ (.tail _ hp))
  have memC : (C, oC) ∈ ownAt h₄ wr ++ (C, oC) :: (D, setAt (sled w) i) :: news₀ := List.mem_append_right _ (.head _)
  have memD : (D, setAt (sled w) i) ∈ ownAt h₄ wr ++ (C, oC) :: (D, setAt (sled w) i) :: news₀ := List.mem_append_right _ (.tail _ (.head _))
  refine e0_2 (turn i _ oC m₄ h₄ tk₄ E0 hlt hB hoC sub4 memC ndw F₄ N₄) ?_
  intro hJ₅ hturn
  refine wpAny_mono hturn (fun y s₅ h₅ => ?_) fun _ _ e => e
  refine e2_4 h₅ ?_
  (try clear h₅); intro h₅ tk₅ hz1 hz2 F₅ N₅
  subst hz1
  subst hz2
  have zC := (N₅ _ memC).1
  have zD := (N₅ _ memD).1
  have st₅ : St (i + 1) h₅ := K.st (i + 1) h₄ h₅ _ hst₄ (fun a ha o e => (N₅ (a, o) (List.mem_append_left _ (mem_ownAt.mpr ⟨ha, e⟩))).1) F₅.keep (fun p hp => N₅ p (sub4 p hp)) hS
  have fin : ∀ h₆ tk₆, Heap.SameBut D h₅ h₆ → h₆.get? D = some (setAt (sled w) (i + 1)) → P0 { s with heap := h₆, toks := tk₆ } := by
   intro h₆ tk₆ hs₆ hD₆
   refine hP0 (n + 1 - (i + 1)) _ (by exact o3 ‹_›) (i4_8 h₆ tk₆ (i + 1) m₄ rfl hlt rfl (K.W.frame _ _ _ st₅ fun b hb o e => hs₆.extBut b o (fun q => hDf (q ▸ hb)) e) (F₅.change hs₆ hDL hD0) ((hoC.ns zC).sameBut hs₆ hCD) (fun p hp => ?_) (hJ₅ hJ'))
   rcases List.mem_cons.mp hp with rfl | hp
   ·exact i0_3 hD₆ hDL hD0
   ·exact ⟨hs₆.extBut _ _ (off p hp).2.2 (N₅ p (sub4 p hp)).1, (N₅ p (sub4 p hp)).2⟩
  cases i with
  | zero => exact add_first (s := { s with heap := h₅, toks := tk₅ }) zD fun h₆ hs₆ hD₆ => fin h₆ _ hs₆ hD₆
  | succ i => exact add_again (s := { s with heap := h₅, toks := tk₅ }) zD (fin h₅ _ (Heap.SameBut.refl ..) zD)
 ·have hin : i = n := by exact o62 hi hlt
  subst hin
  refine K.W.done _ _ _ hst' fun h₁ tk₁ hk₁ => ?_
  refine hR h₁ tk₁ m' ⟨F'.ns.at' fun o e => hk₁ _ o hLw e, fun b o e => hk₁ b o (fun q => by rw [hw0 b q] at e; cases e) (F'.keep b o e), F'.above⟩ (hn'.at' fun o e => hk₁ _ o hCw e) (fun p hp => ?_) hJ'
  refine ⟨hk₁ _ _ ?_ (N' p hp).1, (N' p hp).2⟩
  rcases List.mem_cons.mp hp with rfl | hp
  ·exact hDw
  ·exact (off p hp).1
noncomputable def FinS (w : World) (h₀ : Heap) (L : Addr) (m : Str → Option Value) (Q : Value → Shared → Prop) (s : Shared) (news₀ : List (Addr × Obj)) (K : List Value → List (Addr × Obj) → Prop) : Prop :=
 ∀ D h tk n, Fr h₀ L h m → News h₀ L h ((D, setAt (sled w) n) :: news₀) → ND ((D, setAt (sled w) n) :: news₀) → K (List.replicate n .none) [] → Q (.ref D) { s with heap := h, toks := tk }
theorem comp_S1 {elt target iter : PySem.Expr} {scope : Scope} {cl : List (Str × Addr)} {pos : Pos} {Q : Value → Shared → Prop} (_F₀ : Fr h₀ L s.heap m)
  (hclos : closureFor scope env = pure cl) (hcell : ∀ y ∈ scope.names, y.2 ≠ .cell) (hkind : scope.kind = .function)
  (hnames : ∀ y ∈ scope.names, y.2 = .local → scope.names.lookup y.1 = some .local)
  (h : wpAny (model prog w) A (eval iter env) (fun xv s₁ => wpAny (model prog w) A (pyIter xv) (CompK prog w A h₀ L m env target scope cl (TurnS prog w A h₀ L m env elt scope cl) (FinS w h₀ L m Q)) E s₁) E s)
  (hs : ∀ x, foldedSetIterable iter env x = pure x := by intro _; rfl) :
  wpAny (model prog w) A (eval (.SetComp elt [⟨target, iter, [], 0⟩] scope pos) env) Q E s := by
 rw [arm_eval_SetComp]
 refine wpAny_comprehension_free (use := none) rfl hs hclos hkind hnames (wpAny_mono h (fun xv s₁ h₁ => wpAny_mono h₁ (fun it s₂ h₂ => ?_) fun _ _ e => e) fun _ _ e => e)
 refine compk_elim h₂ ?_
 (try clear h₂); intro I fp wr n P Md St S Bnd J news hz3 K hst hfp F N off hLw hw0 hS hnd hasg hJ hJz turn fin
 subst hz3
 refine sblock K hcell hkind hst hfp F N off fun C D h₁ tk m₀ hCf hDf hCD hC0 hD0 hCL hDL hst₁ F₁ hn₁ N₁ off₁ => ?_
 refine set_loop (s := s₂) K hCf hDf hCD hC0 hD0 hCL hDL hLw hw0 (hasg C) (turn C) rfl hst₁ F₁ hn₁ N₁ off₁ hS hnd hJ ?_
 intro h' tk' m' F' hn' N' hJ'
 refine i1_2 m' hn' (fun h'' hs'' => ?_)
 refine fin D h'' tk' n (F'.change hs'' hCL hC0) (fun p hp => ?_) (nd_cons_off hnd fun p hp => (off₁ p hp).2.2) hJ'
 refine ⟨hs''.extBut _ _ ?_ (N' p hp).1, (N' p hp).2⟩
 rcases List.mem_cons.mp hp with rfl | hp
 ·exact Ne.symm hCD
 ·exact (off₁ p hp).2.1
theorem assign_set {elts : List PySem.Expr} {x1 : Nat} {pos : Pos} {D : Addr} {news : List (Addr × Obj)} {Q : Unit → Shared → Prop} (hh : A.handled = none) (F : Fr h₀ L s.heap m) (N : News h₀ L s.heap news) (ha : (D, setO1 (sled w)) ∈ news)
  (hn : (assignEach elts env).length = 1) (hstar : (assignEach elts env).findIdx? (·.1) = none)
  (h : ∀ h', Fr h₀ L h' m → News h₀ L h' news → wpAny (model prog w) A (assignInOrder ((assignEach elts env).map (·.2)) [.bool true]) Q E { s with heap := h' }) :
  wpAny (model prog w) A (assign (.Tuple elts x1 pos) env (.ref D)) Q E s := by
 rw [arm_assign_Tuple]
 refine wpAny_bind (wpAny_standAt ?_)
 unfold unpack
 rw [hn, hstar]
 exact wpAny_bind (wpAny_holding (unpack_set hh (N _ ha).1 fun h' hk => h h' (F.grownK hk) (N.grown hk)))
end
end
section
open PyProof.Rows.LCg
noncomputable def off (wr : List Addr) (l : List (Addr × Obj)) : List (Addr × Obj) := l.filter fun p => decide (p.1 ∉ wr)
theorem mem_off {wr : List Addr} {l : List (Addr × Obj)} {p : Addr × Obj} : p ∈ off wr l ↔ p ∈ l ∧ p.1 ∉ wr := by
 unfold off
 rw [List.mem_filter, decide_eq_true_eq]
theorem ND.off {wr : List Addr} {l : List (Addr × Obj)} (h : ND l) : ND (off wr l) := List.Nodup.sublist (List.Sublist.map _ List.filter_sublist) h
theorem codeAny_forLoop_anyC {prog : Program} {w : World} {A : Around} {R : Result → Shared → Prop} {target : PySem.Expr} {it : Value} {body orelse : List Stmt} {env : Env} {s : Shared} (I : Nat → Shared → Prop)
  (turn : ∀ n s (P0 : Shared → Prop), (∀ m s', m < n → I m s' → P0 s') → I n s → wpAny (model prog w) A (pyNext it) (fun r s₁ => match r with
   | none => wpAny (model prog w) A (execs orelse env) (fun f s₃ => R (.ok f) s₃) (notedBy (model prog w) A env fun e s' => R (.error e) s') s₁
   | some v => wpAny (model prog w) A (letOwnedTupleGo target it v) (fun _ s₁' => wpAny (model prog w) A (assign target env v) (fun _ s₂ => wpAny (model prog w) A (execs body env) (fun f s₃ => match f with
     | .next | .cont => P0 s₃
     | .brk => R (.ok .next) s₃
     | .ret v => R (.ok (.ret v)) s₃) (notedBy (model prog w) A env fun e s' => R (.error e) s') s₂) (notedBy (model prog w) A env fun e s' => R (.error e) s') s₁') (notedBy (model prog w) A env fun e s' => R (.error e) s') s₁) (notedBy (model prog w) A env fun e s' => R (.error e) s') s)
  (n : Nat) (h : I n s) : codeAny (model prog w) A (.forLoop target it body orelse env) R s :=
 codeAny_forLoop_any I (fun n s hI => turn n s (fun s' => ∃ m, m < n ∧ I m s') (fun m s' h1 h2 => ⟨m, h1, h2⟩) hI) n h
section
variable {prog : Program} {w : World} {A : Around} {E : Value → Shared → Prop} {s : Shared} {h₀ : Heap} {env : Env} {m : Str → Option Value}
theorem loop_pair {Q : Flow → Shared → Prop} {xi xc : Str} {pk pv pt : Pos} {x1 : Nat} {body : List Stmt} {I : Addr} {fp wr : List Addr} {n : Nat} {Md : Nat → Value → Heap → Prop} {St : Nat → Heap → Prop} {S : List (Addr × Obj) → Prop} {Pt : Nat → Array Value → Prop} {P2 : Nat → Value → Value → Prop}
  {news : List (Addr × Obj)} (hh : A.handled = none)
  (K : CSrc prog w A h₀ env.locals (.Tuple [.Name xi pk, .Name xc pv] x1 pt) I fp wr n (fun i v h => ∃ T vals, v = .ref T ∧ Pt i vals ∧ h.IsTuple T vals) Md St S) (h2 : ∀ i vals, Pt i vals → ∃ v0 v1, vals = #[v0, v1] ∧ P2 i v0 v1)
  (hxi : env.kindOf xi = some .local) (hxc : env.kindOf xc = some .local)
  (hp : (env.scope.kind == .class || (env.scope.kind == .module && env.locals != env.globals)) = false)
  (hLf : env.locals ∉ fp) (hwr : ∀ b ∈ wr, h₀.get? b = none) (hnw : ∀ p ∈ news, p.1 ∉ wr)
  (hst : St 0 s.heap) (F : Fr h₀ env.locals s.heap m) (N : News h₀ env.locals s.heap news) (hnd : ND news)
  (J : Nat → (Str → Option Value) → List (Addr × Obj) → Prop) (h0 : J 0 m news) (hS : ∀ i m₁ nw, J i m₁ nw → S nw)
  (step : ∀ i v0 v1 m₁ news₁ own h tk, i < n → P2 i v0 v1 → J i m₁ news₁ → (∀ p ∈ own, p.1 ∈ wr) → (∀ p ∈ news₁, p.1 ∉ wr) → (∀ a ∈ wr, ∃ o, (a, o) ∈ own) → ND (own ++ news₁) →
   Fr h₀ env.locals h (fun y => if y = xc then some v1 else if y = xi then some v0 else m₁ y) → News h₀ env.locals h (own ++ news₁) →
   wpAny (model prog w) A (execs body env) (TurnP Q s fun h' m₂ nw₂ => Fr h₀ env.locals h' m₂ ∧ News h₀ env.locals h' nw₂ ∧ ND nw₂ ∧ (∀ p ∈ own, p ∈ nw₂) ∧ J (i + 1) m₂ (off wr nw₂)) E { s with heap := h, toks := tk })
  (done : ∀ h tk m₁ news₁, Fr h₀ env.locals h m₁ → News h₀ env.locals h news₁ → ND news₁ → J n m₁ news₁ → Q .next { s with heap := h, toks := tk })
  (hE : PassesOwn (model prog w) A env E := by passes_own) :
  codeAny (model prog w) A (.forLoop (.Tuple [.Name xi pk, .Name xc pv] x1 pt) (.ref I) body [] env) (fun r s' => match r with | .ok f => Q f s' | .error e => cameBackBy (model prog w) A env E e s') s := by
 have hLw : env.locals ∉ wr := fun h => hLf (K.W.sub _ h)
 have old : ∀ b o, h₀.get? b = some o → b ∉ wr := fun b o e hb => by rw [hwr b hb] at e; cases e
 refine codeAny_forLoop_anyC
  (fun k s' => ∃ h' tk m' news' i, s' = { s with heap := h', toks := tk } ∧ St i h' ∧ Fr h₀ env.locals h' m' ∧ News h₀ env.locals h' news' ∧ ND news' ∧ (∀ p ∈ news', p.1 ∉ wr) ∧ J i m' news' ∧ i ≤ n ∧ k = n + 1 - i) ?_ (n + 1)
  ⟨s.heap, s.toks, m, news, 0, rfl, hst, F, N, hnd, hnw, h0, Nat.zero_le _, rfl⟩
 intro k s' P0 hP0 hR0
 refine e5_9 hR0 ?_
 (try clear hR0); intro H tk m' news' i hz1 hst' F' N' hnd' hnw' hJ hi hz2
 subst hz1
 subst hz2
 have next : ∀ h₁ : Heap, (∀ b o, b ∉ wr → H.get? b = some o → h₁.get? b = some o) → Fr h₀ env.locals h₁ m' ∧ News h₀ env.locals h₁ news' := fun h₁ hk₁ =>
  ⟨⟨F'.ns.at' fun o e => hk₁ _ o hLw e, fun b o e => hk₁ b o (old b o e) (F'.keep b o e), F'.above⟩, fun p hp => ⟨hk₁ _ _ (hnw' p hp) (N' p hp).1, (N' p hp).2⟩⟩
 by_cases hlt : i < n
 ·refine K.W.item i _ _ _ hlt hst' fun v h₁ tk₁ hMd hk₁ => ?_
  refine K.W.go i v _ _ _ hMd fun h₂ hP hst₂ hk₂ => ?_
  refine e2_3 hP ?_
  (try clear hP); intro T vals hz1 hPt hT
  subst hz1
  refine e2_2 (h2 i vals hPt) ?_
  intro v0 v1 hz2 hP2
  subst hz2
  refine wpAny_assign_Tuple hh hT rfl rfl fun h₃ hx₃ => ?_
  replace hx₃ : Heap.ExtBut h₂.objs.size h₂ h₃ := hx₃
  have up₃ : ∀ b o, h₂.get? b = some o → h₃.get? b = some o := fun b o x => hx₃ b o (Nat.ne_of_lt (Heap.lt_size x)) x
  refine e0_2 (next h₃ fun b o hb x => up₃ b o (hk₂ b o hb (hk₁ b o hb x))) ?_
  intro F₃ N₃
  show wpAny _ A (do holding [v1] (assign (.Name xi pk) env v0); do holding [] (assign (.Name xc pv) env v1); pure ()) _ _ _
  refine wpAny_bind (wpAny_holding (wpAny_assign_Name (wpAny_storeName_local hxi F₃.ns (fun h₄ hn₄ hs₄ => ?_) hp)))
  replace hs₄ : Heap.SameBut env.locals h₃ h₄ := hs₄
  have F₄ := F₃.set hn₄ hs₄
  refine wpAny_bind (wpAny_holding (wpAny_assign_Name (wpAny_storeName_local hxc F₄.ns (fun h₅ hn₅ hs₅ => wpAny_pure ?_) hp)))
  replace hs₅ : Heap.SameBut env.locals h₄ h₅ := hs₅
  have F₅ := F₄.set hn₅ hs₅
  have N₅ : News h₀ env.locals h₅ news' := (N₃.set hs₄).set hs₅
  have hst₅ : St (i + 1) h₅ := K.W.frame _ _ _ hst₂ fun b hb o e => hs₅.extBut b o (fun q => hLf (q ▸ hb)) (hs₄.extBut b o (fun q => hLf (q ▸ hb)) (up₃ b o e))
  have ndo : ND (ownAt h₅ wr ++ news') := (ownAt_nd K.nodup).app hnd' fun p hp q hq e => hnw' q hq (e ▸ (mem_ownAt.mp hp).1)
  have No : News h₀ env.locals h₅ (ownAt h₅ wr ++ news') := fun p hp => by
   rcases List.mem_append.mp hp with hp | hp
   ·refine e0_2 (mem_ownAt.mp hp) ?_
    intro a b
    exact i0_3 b (fun q => hLw (q ▸ a)) (hwr _ a)
   ·exact N₅ p hp
  have go : ∀ h₆ tk₆ m₂ nw₂, Fr h₀ env.locals h₆ m₂ → News h₀ env.locals h₆ nw₂ → ND nw₂ → (∀ p ∈ ownAt h₅ wr, p ∈ nw₂) → J (i + 1) m₂ (off wr nw₂) →
    P0 { s with heap := h₆, toks := tk₆ } := by
   intro h₆ tk₆ m₂ nw₂ F₆ N₆ nd₆ own₆ hJ₆
   have No₆ : News h₀ env.locals h₆ (off wr nw₂) := fun p hp => N₆ p (mem_off.mp hp).1
   refine hP0 (n + 1 - (i + 1)) _ (by exact o3 ‹_›) (i5_9 h₆ tk₆ m₂ (off wr nw₂) (i + 1) rfl ?_ F₆ No₆ nd₆.off (fun p hp => (mem_off.mp hp).2) hJ₆ hlt rfl)
   exact K.st (i + 1) h₅ h₆ _ hst₅ (fun a ha o e => (N₆ (a, o) (own₆ _ (mem_ownAt.mpr ⟨ha, e⟩))).1) F₆.keep No₆ (hS _ _ _ hJ₆)
  refine wpAny_passesOwn hE (wpAny_mono (step i v0 v1 m' news' _ h₅ _ hlt hP2 hJ (fun p hp => (mem_ownAt.mp hp).1) hnw' (fun a ha => by obtain ⟨o, e⟩ := K.ex _ _ hst₅ a ha; exact ⟨o, mem_ownAt.mpr ⟨ha, e⟩⟩) ndo F₅ No) (fun f s₃ h₆ => ?_) fun _ _ e => e)
  cases f with
  | ret v => exact h₆
  | brk => exact h₆
  | cont =>
   refine e4_6 h₆ ?_
   (try clear h₆); intro h₆' tk₆ m₂ nw₂ hz3 F₆ N₆ nd₆ own₆ hJ₆
   subst hz3
   exact go _ _ _ _ F₆ N₆ nd₆ own₆ hJ₆
  | next =>
   refine e4_6 h₆ ?_
   (try clear h₆); intro h₆' tk₆ m₂ nw₂ hz4 F₆ N₆ nd₆ own₆ hJ₆
   subst hz4
   exact go _ _ _ _ F₆ N₆ nd₆ own₆ hJ₆
 ·have hin : i = n := by exact o62 hi hlt
  subst hin
  refine K.W.done _ _ _ hst' fun h₁ tk₁ hk₁ => wpAny_execs_nil ?_
  refine e0_2 (next h₁ hk₁) ?_
  intro F₁ N₁
  exact done h₁ tk₁ m' news' F₁ N₁ hnd' hJ
theorem off_app {wr : List Addr} {own l : List (Addr × Obj)} (h1 : ∀ p ∈ own, p.1 ∈ wr) (h2 : ∀ p ∈ l, p.1 ∉ wr) : off wr (own ++ l) = l := by
 unfold off
 rw [List.filter_append, List.filter_eq_nil_iff.mpr (fun p hp => by simpa using h1 p hp), List.nil_append]
 exact List.filter_eq_self.mpr fun p hp => by simpa using h2 p hp
noncomputable def PairTurn (prog : Program) (w : World) (A : Around) (E : Value → Shared → Prop) (s : Shared) (h₀ : Heap) (env : Env) (Q : Flow → Shared → Prop) (body : List Stmt) (xi xc : Str) (n : Nat) (P2 : Nat → Value → Value → Prop) (news : List (Addr × Obj)) (J : Nat → (Str → Option Value) → List (Addr × Obj) → Prop) : Prop :=
 ∀ (i : Nat) (v0 v1 : Value) (m₁ : Str → Option Value) (nw ow : List (Addr × Obj)) (wr : List Addr) (h : Heap) (tk : Nat), i < n → P2 i v0 v1 → J i m₁ (off wr nw) → (∀ p ∈ news, p.1 ∉ wr) → (∀ p ∈ ow, p ∈ nw) → (∀ p ∈ ow, p.1 ∉ wr → p.2.cls = .type "tuple") → (∀ a ∈ wr, ∃ o, (a, o) ∈ ow) → ND nw →
  Fr h₀ env.locals h (fun y => if y = xc then some v1 else if y = xi then some v0 else m₁ y) → News h₀ env.locals h nw →
  wpAny (model prog w) A (execs body env) (TurnP Q s fun h' m₂ nw₂ => Fr h₀ env.locals h' m₂ ∧ News h₀ env.locals h' nw₂ ∧ ND nw₂ ∧ (∀ p ∈ ow, p ∈ nw₂) ∧ J (i + 1) m₂ (off wr nw₂)) E { s with heap := h, toks := tk }
theorem for_enum {Q : Flow → Shared → Prop} {xi xc : Str} {pk pv pt : Pos} {x1 : Nat} {body : List Stmt} {l : Addr} {o : Obj} {its : Array Value} {news : List (Addr × Obj)} (J : Nat → (Str → Option Value) → List (Addr × Obj) → Prop) (hh : A.handled = none)
  (hxi : env.kindOf xi = some .local) (hxc : env.kindOf xc = some .local)
  (hp : (env.scope.kind == .class || (env.scope.kind == .module && env.locals != env.globals)) = false)
  (F : Fr h₀ env.locals s.heap m) (N : News h₀ env.locals s.heap news) (hnd : ND news) (hm : (l, o) ∈ news) (hc : o.cls = .type "list") (hd : ∃ k, o.data = .seq its k)
  (h0 : ∀ nw, (∀ p ∈ news, p ∈ nw) → ND nw → J 0 m nw) (hJl : ∀ i m₁ nw, J i m₁ nw → (l, o) ∈ nw)
  (turn : ∀ g, PairTurn prog w A E { s with heap := g } h₀ env Q body xi xc its.size (fun i a b => ∃ t, a = .int i t ∧ its[i]? = some b) news J)
  (done : ∀ h tk m₁ nw, Fr h₀ env.locals h m₁ → News h₀ env.locals h nw → ND nw → J its.size m₁ nw → Q .next { s with heap := h, toks := tk })
  (hE : PassesOwn (model prog w) A env E := by passes_own) :
  wpAny (model prog w) A (call (.type "enumerate") [.ref l]) (fun xv s₁ => wpAny (model prog w) A (pyIter xv) (fun it s₂ =>
   codeAny (model prog w) A (.forLoop (.Tuple [.Name xi pk, .Name xc pv] x1 pt) it body [] env) (fun r s' => match r with | .ok f => Q f s' | .error e => cameBackBy (model prog w) A env E e s') s₂) E s₁) E s := by
 refine e1_1 hd ?_
 (try clear hd); intro k hd
 have hg := (N _ hm).1
 have hlt : l < s.heap.objs.size := Heap.lt_size hg
 have hl : s.heap.IsList l its := ⟨o, hg, hc, k, hd⟩
 have hLs : env.locals < s.heap.objs.size := F.ns.lt
 refine call_enumerate_list hl fun h' hE' hI hsz hk => ?_
 refine wpAny_pyIter_enum hE' ?_
 have hnw : ∀ p ∈ news, p.1 ∉ [s.heap.objs.size + 1, s.heap.objs.size] := fun p hp hI' => by
  have hb' : p.1 = s.heap.objs.size + 1 ∨ p.1 = s.heap.objs.size := by simpa using hI'
  have hlp := Heap.lt_size (N p hp).1
  rcases hb' with e | e
  ·exact ktu_ne 1 hlp e
  ·exact Nat.ne_of_lt hlp e
 refine loop_pair (s := { s with heap := h', toks := _ }) (P2 := fun i a b => ∃ t, a = .int i t ∧ its[i]? = some b) hh (csrc_enum hh (Nat.succ_ne_self _) (ktu_ne 1 hlt) (Nat.ne_of_lt hlt)) (fun i vals ⟨t, y, hy, e⟩ => ⟨_, _, e, t, rfl, hy⟩) hxi hxc hp ?_ ?_ hnw ⟨⟨_, hE'⟩, hI, hl.at fun o e => hk l o e⟩ (F.keeps hk) (N.grown hk) hnd J (h0 _ (fun _ h => h) hnd) (fun i m₁ nw hj => .inr ⟨o, hJl _ _ _ hj, hc, k, hd⟩) ?_ ?_ hE
 ·intro hI'
  have hb' : env.locals = s.heap.objs.size + 1 ∨ env.locals = s.heap.objs.size ∨ env.locals = l := by simpa using hI'
  rcases hb' with e | e | e
  ·exact ktu_ne 1 hLs e
  ·exact Nat.ne_of_lt hLs e
  ·exact (N _ hm).2.1 e.symm
 ·intro a ha
  have hb' : a = s.heap.objs.size + 1 ∨ a = s.heap.objs.size := by simpa using ha
  rcases hb' with rfl | rfl
  ·exact ktu_new F (Nat.le_add_right _ _)
  ·exact ktu_new F (Nat.le_refl _)
 ·intro i v0 v1 m₁ news₁ own h tk hi hP hJ how hoff hex hnd₁ F₁ N₁
  exact turn h' i v0 v1 m₁ (own ++ news₁) own _ h tk hi hP (by rw [off_app how hoff]; exact hJ) hnw (fun p hp => List.mem_append_left _ hp) (fun p hp hq => absurd (how p hp) hq) hex hnd₁ F₁ N₁
 ·intro h tk m₁ news₁ F₁ N₁ hnd₁ hJ
  exact done h tk m₁ news₁ F₁ N₁ hnd₁ hJ
theorem for_zip {Q : Flow → Shared → Prop} {xi xc : Str} {pk pv pt : Pos} {x1 : Nat} {body : List Stmt} {l1 l2 : Addr} {o1 o2 : Obj} {xs ys : Array Value} {news : List (Addr × Obj)} (J : Nat → (Str → Option Value) → List (Addr × Obj) → Prop) (hh : A.handled = none)
  (hxi : env.kindOf xi = some .local) (hxc : env.kindOf xc = some .local)
  (hp : (env.scope.kind == .class || (env.scope.kind == .module && env.locals != env.globals)) = false)
  (F : Fr h₀ env.locals s.heap m) (N : News h₀ env.locals s.heap news) (hnd : ND news) (hm1 : (l1, o1) ∈ news) (hc1 : o1.cls = .type "list") (hd1 : ∃ k, o1.data = .seq xs k) (hm2 : (l2, o2) ∈ news) (hc2 : o2.cls = .type "list") (hd2 : ∃ k, o2.data = .seq ys k)
  (h0 : ∀ nw, (∀ p ∈ news, p ∈ nw) → ND nw → J 0 m nw) (hJl : ∀ i m₁ nw, J i m₁ nw → (l1, o1) ∈ nw ∧ (l2, o2) ∈ nw)
  (turn : ∀ g, PairTurn prog w A E { s with heap := g } h₀ env Q body xi xc (min xs.size ys.size) (fun i a b => xs[i]? = some a ∧ ys[i]? = some b) news J)
  (done : ∀ h tk m₁ nw, Fr h₀ env.locals h m₁ → News h₀ env.locals h nw → ND nw → J (min xs.size ys.size) m₁ nw → Q .next { s with heap := h, toks := tk })
  (hE : PassesOwn (model prog w) A env E := by passes_own) :
  wpAny (model prog w) A (call (.type "zip") [.ref l1, .ref l2]) (fun xv s₁ => wpAny (model prog w) A (pyIter xv) (fun it s₂ =>
   codeAny (model prog w) A (.forLoop (.Tuple [.Name xi pk, .Name xc pv] x1 pt) it body [] env) (fun r s' => match r with | .ok f => Q f s' | .error e => cameBackBy (model prog w) A env E e s') s₂) E s₁) E s := by
 refine e1_1 hd1 ?_
 (try clear hd1); intro n1 hd1
 refine e1_1 hd2 ?_
 (try clear hd2); intro n2 hd2
 have hax1 := N _ hm1
 have hax2 := N _ hm2
 have hl1 : s.heap.IsList l1 xs := ⟨o1, hax1.1, hc1, n1, hd1⟩
 have hl2 : s.heap.IsList l2 ys := ⟨o2, hax2.1, hc2, n2, hd2⟩
 have hlt1 : l1 < s.heap.objs.size := Heap.lt_size hax1.1
 have hlt2 : l2 < s.heap.objs.size := Heap.lt_size hax2.1
 have hLs : env.locals < s.heap.objs.size := F.ns.lt
 have D : ZipApart (s.heap.objs.size + 4) (s.heap.objs.size + 2) (s.heap.objs.size + 3) s.heap.objs.size (s.heap.objs.size + 1) l1 l2 := ktu_apart _ _ _ hlt1 hlt2
 refine call_zip_2 hl1 hl2 fun h' hz' hTI hTO hi1 hi2 hsz hk => ?_
 refine wpAny_pyIter_zip hz' ?_
 have ltn : ∀ p ∈ news, p.1 < s.heap.objs.size := fun p hp => Heap.lt_size (N p hp).1
 have hnd' : ND ((s.heap.objs.size + 2, ({ cls := .type "tuple", data := .seq #[.ref s.heap.objs.size, .ref (s.heap.objs.size + 1)] } : Obj)) :: news) := hnd.cons fun p hp => Nat.lt_of_lt_of_le (ltn p hp) (Nat.le_add_right _ _)
 have hnw0 : ∀ p ∈ news, p.1 ∉ [s.heap.objs.size + 4, s.heap.objs.size + 3, s.heap.objs.size, s.heap.objs.size + 1] := fun p hp hI' => by
  have hb' : p.1 = s.heap.objs.size + 4 ∨ p.1 = s.heap.objs.size + 3 ∨ p.1 = s.heap.objs.size ∨ p.1 = s.heap.objs.size + 1 := by simpa using hI'
  have hlp := ltn p hp
  rcases hb' with e | e | e | e
  ·exact ktu_ne 4 hlp e
  ·exact ktu_ne 3 hlp e
  ·exact Nat.ne_of_lt hlp e
  ·exact ktu_ne 1 hlp e
 refine loop_pair (s := { s with heap := h', toks := _ }) (news := (s.heap.objs.size + 2, { cls := .type "tuple", data := .seq #[.ref s.heap.objs.size, .ref (s.heap.objs.size + 1)] }) :: news) (P2 := fun i a b => xs[i]? = some a ∧ ys[i]? = some b) hh (csrc_zip hh D) (fun i vals ⟨a, b, ha, hb, e⟩ => ⟨a, b, e, ha, hb⟩) hxi hxc hp ?_ ?_ ?_
  ⟨hz', hTI, ⟨_, _, hTO⟩, hi1, hi2, hl1.at fun o e => hk l1 o e, hl2.at fun o e => hk l2 o e⟩ (F.keeps hk) ?_ hnd' (fun i m₁ nw => J i m₁ nw ∧ (s.heap.objs.size + 2, ({ cls := .type "tuple", data := .seq #[.ref s.heap.objs.size, .ref (s.heap.objs.size + 1)] } : Obj)) ∈ nw) ⟨h0 _ (fun _ h => .tail _ h) hnd', .head _⟩
  (fun i m₁ nw hj => ⟨.inr ⟨o1, (hJl _ _ _ hj.1).1, hc1, n1, hd1⟩, .inr ⟨o2, (hJl _ _ _ hj.1).2, hc2, n2, hd2⟩, hj.2⟩) ?_ ?_ hE
 ·intro hI'
  have hb' : env.locals = s.heap.objs.size + 4 ∨ env.locals = s.heap.objs.size + 2 ∨ env.locals = s.heap.objs.size + 3 ∨ env.locals = s.heap.objs.size ∨ env.locals = s.heap.objs.size + 1 ∨ env.locals = l1 ∨ env.locals = l2 := by simpa using hI'
  rcases hb' with e | e | e | e | e | e | e
  ·exact ktu_ne 4 hLs e
  ·exact ktu_ne 2 hLs e
  ·exact ktu_ne 3 hLs e
  ·exact Nat.ne_of_lt hLs e
  ·exact ktu_ne 1 hLs e
  ·exact hax1.2.1 e.symm
  ·exact hax2.2.1 e.symm
 ·intro a ha
  have hb' : a = s.heap.objs.size + 4 ∨ a = s.heap.objs.size + 3 ∨ a = s.heap.objs.size ∨ a = s.heap.objs.size + 1 := by simpa using ha
  rcases hb' with rfl | rfl | rfl | rfl
  ·exact ktu_new F (Nat.le_add_right _ _)
  ·exact ktu_new F (Nat.le_add_right _ _)
  ·exact ktu_new F (Nat.le_refl _)
  ·exact ktu_new F (Nat.le_add_right _ _)
 ·intro p hp
  rcases List.mem_cons.mp hp with rfl | hp
  ·intro hI'
   have hb' : s.heap.objs.size + 2 = s.heap.objs.size + 4 ∨ s.heap.objs.size + 2 = s.heap.objs.size + 3 ∨ s.heap.objs.size + 2 = s.heap.objs.size ∨ s.heap.objs.size + 2 = s.heap.objs.size + 1 := by simpa using hI'
   rcases hb' with e | e | e | e
   ·exact D.TIz e
   ·exact D.TITO e
   ·exact D.TIi1 e
   ·exact D.TIi2 e
  ·exact hnw0 p hp
 ·intro p hp
  rcases List.mem_cons.mp hp with rfl | hp
  ·exact i0_3 hTI ((Nat.ne_of_lt (Nat.lt_of_lt_of_le hLs (Nat.le_add_right _ 2))).symm) (ktu_new F (Nat.le_add_right _ _))
  ·exact ⟨hk _ _ (N p hp).1, (N p hp).2⟩
 ·intro i v0 v1 m₁ news₁ own h tk hi hP hR0 how hoff hex hnd₁ F₁ N₁
  refine e0_2 hR0 ?_
  (try clear hR0); intro hJ hTI'
  refine wpAny_mono (turn h' i v0 v1 m₁ (own ++ news₁) ((s.heap.objs.size + 2, { cls := .type "tuple", data := .seq #[.ref s.heap.objs.size, .ref (s.heap.objs.size + 1)] }) :: own) _ h tk hi hP (by rw [off_app how hoff]; exact hJ) hnw0 ?_ ?_ ?_ hnd₁ F₁ N₁) (fun f s₃ h₃ => ?_) fun _ _ e => e
  ·intro p hp
   rcases List.mem_cons.mp hp with rfl | hp
   ·exact List.mem_append_right _ hTI'
   ·exact List.mem_append_left _ hp
  ·intro p hp hq
   rcases List.mem_cons.mp hp with rfl | hp
   ·rfl
   ·exact absurd (how p hp) hq
  ·intro a ha
   refine e1_1 (hex a ha) ?_
   intro o ho
   exact ⟨o, .tail _ ho⟩
  ·have hTI'' := hoff _ hTI'
   cases f with
   | ret v => exact h₃
   | brk => exact h₃
   | next =>
    refine e4_6 h₃ ?_
    (try clear h₃); intro h' tk' m₂ nw₂ e F₂ N₂ nd₂ ow₂ hJ₂
    exact i4_7 h' tk' m₂ nw₂ e F₂ N₂ nd₂ (fun p hp => ow₂ p (.tail _ hp)) hJ₂ (mem_off.mpr ⟨ow₂ _ (.head _), hTI''⟩)
   | cont =>
    refine e4_6 h₃ ?_
    (try clear h₃); intro h' tk' m₂ nw₂ e F₂ N₂ nd₂ ow₂ hJ₂
    exact i4_7 h' tk' m₂ nw₂ e F₂ N₂ nd₂ (fun p hp => ow₂ p (.tail _ hp)) hJ₂ (mem_off.mpr ⟨ow₂ _ (.head _), hTI''⟩)
 ·intro h tk m₁ news₁ F₁ N₁ hnd₁ hR0
  refine e0_2 hR0 ?_
  (try clear hR0); intro hJ _
  exact done h tk m₁ news₁ F₁ N₁ hnd₁ hJ
theorem For_any {Q : Flow → Shared → Prop} {target iter : PySem.Expr} {body : List Stmt} {pos : Pos}
  (h : wpAny (model prog w) A (eval iter env) (fun xv s₁ => wpAny (model prog w) A (pyIter xv) (fun it s₂ =>
   codeAny (model prog w) A (.forLoop target it body [] env) (fun r s' => match r with | .ok f => Q f s' | .error e => cameBackBy (model prog w) A env E e s') s₂) E s₁) E s)
  (hs : ∀ x, foldedSetIterable iter env x = pure x := by intro _; rfl) :
  wpAny (model prog w) A (exec (.For target iter body [] pos) env) Q E s := wpAny_For h hs
end
end
section
local macro_rules | `(tactic| walk_at "truthy ref") => `(tactic| k_extra "W65")
local macro_rules | `(tactic| walk_at "subscriptTail") => `(tactic| k_extra "W66")
local macro_rules | `(tactic| walk_at "call builtin:str.split") => `(tactic| (k_extra "W46"; (intro D' l' h' k' e' a' F' N' l1); (try k_lt l1)))
local macro_rules | `(tactic| walk_at "eval SetComp") => `(tactic| k_extra "W67")
local macro_rules | `(tactic| walk_at "call builtin:min") => `(tactic| k_extra "W68")
local macro_rules | `(tactic| walk_at "call builtin:max") => `(tactic| k_extra "W69")
local macro_rules | `(tactic| walk_at "call type:map") => `(tactic| k_extra "W70")
local macro_rules | `(tactic| walk_at "exec For Tuple Call cons nil") => `(tactic| k_extra "W71")
theorem putD {m : Str → Option Value} {A B C D : Str} {a b c d : Option Value} (h1 : m A = a) (h2 : m B = b) (h3 : m C = c) (h4 : m D = d) : m = fun y => if y = A then a else if y = B then b else if y = C then c else if y = D then d else m y := by
 funext y
 by_cases e1 : y = A
 ·rw [if_pos e1, e1, h1]
 ·rw [if_neg e1]
  by_cases e2 : y = B
  ·rw [if_pos e2, e2, h2]
  ·rw [if_neg e2]
   by_cases e3 : y = C
   ·rw [if_pos e3, e3, h3]
   ·rw [if_neg e3]
    by_cases e4 : y = D
    ·rw [if_pos e4, e4, h4]
    ·rw [if_neg e4]
theorem putF {m : Str → Option Value} {A B C D G H : Str} {a b c d g h : Option Value} (h1 : m A = a) (h2 : m B = b) (h3 : m C = c) (h4 : m D = d) (h5 : m G = g) (h6 : m H = h) : m = fun y => if y = A then a else if y = B then b else if y = C then c else if y = D then d else if y = G then g else if y = H then h else m y := by
 funext y
 by_cases e1 : y = A
 ·rw [if_pos e1, e1, h1]
 ·rw [if_neg e1]
  by_cases e2 : y = B
  ·rw [if_pos e2, e2, h2]
  ·rw [if_neg e2]
   by_cases e3 : y = C
   ·rw [if_pos e3, e3, h3]
   ·rw [if_neg e3]
    by_cases e4 : y = D
    ·rw [if_pos e4, e4, h4]
    ·rw [if_neg e4]
     by_cases e5 : y = G
     ·rw [if_pos e5, e5, h5]
     ·rw [if_neg e5]
      by_cases e6 : y = H
      ·rw [if_pos e6, e6, h6]
      ·rw [if_neg e6]
local macro_rules | `(tactic| walk_at "subscriptTail") => `(tactic| k_extra "W72")
local macro_rules | `(tactic| walk_at "subscriptTail Name Slice ref ref") => `(tactic| (k_extra "W62"; intro D' h' F' N' l1; (try k_lt l1)))
local macro_rules | `(tactic| walk_at "last subscriptTail") => `(tactic| (k_extra "W62"; intro D' h' F' N' l1; (try k_lt l1)))
theorem map_nd {h₀ h : Heap} {L a b c : Addr} {oa ob oc : Obj} {l : List (Addr × Obj)} (_ : News h₀ L h ((a, oa) :: (b, ob) :: (c, oc) :: l)) (hl : ND l) (h1 : c < b) (h2 : b < a) (h3 : ∀ p ∈ l, p.1 < c) : ND ((a, oa) :: (b, ob) :: (c, oc) :: l) := by
 refine ((hl.cons h3).cons fun p hp => ?_).cons fun p hp => ?_
 ·rcases List.mem_cons.mp hp with rfl | e
  ·exact h1
  ·exact Nat.lt_trans (h3 p e) h1
 ·rcases List.mem_cons.mp hp with rfl | e
  ·exact h2
  ·rcases List.mem_cons.mp e with rfl | e
   ·exact Nat.lt_trans h1 h2
   ·exact Nat.lt_trans (h3 p e) (Nat.lt_trans h1 h2)
theorem strs_get {vs : List Value} {xs : List Str} (h : StrsAre vs xs) : ∀ {i : Nat} {v : Value}, vs[i]? = some v → ∃ (x : Str) (t : Tok), xs[i]? = some x ∧ v = Value.str x t := by
 induction h with
 | nil => intro i v e; cases e
 | cons x t _ ih =>
  intro i v e
  cases i with
  | zero => cases e; exact ⟨x, t, rfl, rfl⟩
  | succ i => exact ih e
theorem strs_of : ∀ {vs : List Value} {xs : List Str}, vs.length = xs.length → (∀ (i : Nat) (v : Value), vs[i]? = some v → ∃ (x : Str) (t : Tok), xs[i]? = some x ∧ v = Value.str x t) → StrsAre vs xs
 | [], [], _, _ => .nil
 | [], _ :: _, h, _ => by cases h
 | _ :: _, [], h, _ => by cases h
 | v :: vs, x :: xs, h, k => by
  (try kd_p)
  refine e2_2 (k 0 v rfl) ?_
  intro y t e hz1
  subst hz1
  cases e
  exact .cons _ t (strs_of (Nat.succ.inj h) fun i v hv => k (i + 1) v hv)
theorem items_strs {acc : Array Value} {xs : List Str} {n : Nat} (h : ItemsOf (fun i y => ∃ (x : Str) (t : Tok), xs[i]? = some x ∧ y = Value.str x t) acc n) (hn : n = xs.length) : StrsAre acc.toList xs :=
 strs_of (by rw [Array.length_toList, h.1, hn]) fun i v hv => h.2 i v (by rw [← Array.getElem?_toList]; exact hv)
theorem mem_rep_tup {nw : List (Addr × Obj)} {c a : Addr} {oK o' : Obj} {v : Option Value} {its : Array Value} (hn : ND nw) (hc : (c, oK) ∈ nw) (hd : oK.data = .cell v) (h : (a, ({ cls := .type "tuple", data := .seq its } : Obj)) ∈ nw) : (a, ({ cls := .type "tuple", data := .seq its } : Obj)) ∈ rep c o' nw :=
 mem_rep_ne h (hn.ne h hc fun e => by rw [← e] at hd; cases hd)
noncomputable def rowF (r : List Str) : List Str := r.filter fun c => !(c.length == 0) && c != Str.ofString "."
theorem rowF_len (r : List Str) : (rowF r).length ≤ r.length := List.length_filter_le _ _
theorem rowF_app (r : List Str) (c : Str) : rowF (r ++ [c]) = rowF r ++ (if (!(c.length == 0) && c != Str.ofString ".") = true then [c] else []) := by
 unfold rowF
 rw [List.filter_append, List.filter_cons, List.filter_nil]
noncomputable def comm : List Str → List Str → List Str
 | x :: a, y :: b => if x = y then x :: comm a b else []
 | _, _ => []
theorem comm_stop : ∀ {a b : List Str} {i : Nat} {x y : Str}, a.take i = b.take i → a[i]? = some x → b[i]? = some y → x ≠ y → comm a b = a.take i
 | [], _, i, x, y, _, h, _, _ => by simp at h
 | _ :: _, [], i, x, y, _, _, h, _ => by simp at h
 | c :: a, d :: b, 0, x, y, _, h1, h2, h3 => by
  cases h1; cases h2
  rw [comm, if_neg h3]; rfl
 | c :: a, d :: b, i + 1, x, y, h, h1, h2, h3 => by
  rw [List.take_succ_cons, List.take_succ_cons] at h
  injection h with e1 e2
  rw [comm, if_pos e1, comm_stop e2 h1 h2 h3, List.take_succ_cons]
theorem comm_all : ∀ {a b : List Str}, a = b.take a.length → comm a b = a
 | [], b, _ => by cases b <;> rfl
 | c :: a, [], h => by simp at h
 | c :: a, d :: b, h => by
  rw [List.length_cons, List.take_succ_cons] at h
  injection h with e1 e2
  rw [comm, if_pos e1, comm_all e2]
noncomputable def Reach (a b : List Str) : Prop := ∀ i < a.length, a.take i = b.take i → i < b.length
theorem take_next {a b : List Str} {i : Nat} {x : Str} (h : a.take i = b.take i) (h1 : a[i]? = some x) (h2 : b[i]? = some x) : a.take (i + 1) = b.take (i + 1) := by
 rw [List.take_add_one, List.take_add_one, h, h1, h2]
noncomputable def minRow (rf : List (List Str)) : List Str := rowAt rf (argBest (fun i j => ltL (rowAt rf i) (rowAt rf j)) (rf.length - 1))
noncomputable def maxRow (rf : List (List Str)) : List Str := rowAt rf (argBest (fun i j => ltL (rowAt rf j) (rowAt rf i)) (rf.length - 1))
noncomputable def rowsOf (xs : List Str) : List (List Str) := (xs.map fun x => Txt.split x (Str.ofString "/")).map rowF
noncomputable def commonS (xs : List Str) : Str := Str.ofString "/" ++ Txt.join (Str.ofString "/") (comm (minRow (rowsOf xs)) (maxRow (rowsOf xs)))
theorem seq0 {n : Nat} (h : 0 < n) : seqIndex? 0 n = some 0 := by
 simp [seqIndex?]
 exact fun hom => o119 h hom
theorem common_spec {w : World} {dp un : Nat} {gd : Option (List Code)} {cn : Str} {cs : Scope} {a : Addr} {ccd : Value} {cl : List (Str × Addr)} {outer : List Env} {A₀ : Around} {base h₀ : Heap} {L : Addr} {m : Str → Option Value} {news : List (Addr × Obj)} {s : Shared} {mean : ExcName → Option Value} {mg mb : Str → Option Value} {Q E : Value → Shared → Prop} (B : Below A₀ base outer h₀) (F : Fr h₀ L s.heap m) (KX : Frag.In (Mine.hd.heap_39 w.params) h₀) (N : News h₀ L s.heap news) (T : Top Mine.hd.view_39 (looseW Mine.hd.view_39 [Str.ofString "_NodeInfo"]) mean mg mb h₀) (hk : cs.kind = .function) {Pd : Addr} {pv : List Value} {xs : List Str} (hnd : ND news) (hP : (Pd, ({ cls := .type "tuple", data := .seq pv.toArray } : Obj)) ∈ news) (hpv : StrsAre pv xs) (hxl : xs.length ≤ 5) (hx0 : 0 < xs.length) (hx : ∀ x ∈ xs, x.length ≤ 100) (hxr : ∀ x ∈ xs, (Txt.split x (Str.ofString "/")).length ≤ 100 ∧ ∀ c ∈ Txt.split x (Str.ofString "/"), c.length ≤ 100) (hxs : ∀ x ∈ xs, Txt.startswith x (Str.ofString "/") = true) (hrch : Reach (minRow (rowsOf xs)) (maxRow (rowsOf xs))) (hjk : ∀ r, r = minRow (rowsOf xs) ∨ r = maxRow (rowsOf xs) → r.length ≤ 100 ∧ ∀ n, ((r.take n).map (·.length)).sum + (r.take n).length * (Str.ofString "/").length ≤ 1000 ∧ (Txt.join (Str.ofString "/") (r.take n)).length ≤ 1000)
  (hret : ∀ t h' tk', Fr h₀ L h' m → News h₀ L h' news → Q (.str (commonS xs) t) { s with heap := h', toks := tk' })
  (hd : dp + 20 < recursionLimit) (hu : un + 480 < cLine) :
  wpAny (model PySem.Challenge.rw_ik0081_01.prog w) (ktrTop dp un gd cn cs L a ccd cl outer) (call (.ref 261) [.ref Pd]) Q E s := by
 refine wpAny_call ?_
 k_dflt k_enter
 k_steps
 rename_i g₀ L' h0 tk0 FG1 F0 B1 X1 T1 l0 oS oC dS dC N0 M TI it h1 F1 N1 l1 l2 l3
 all_goals (try kd_p)
 have hn1 : ND ((L' + 1, oC) :: news) := hnd.cons fun p hp => Nat.lt_succ_of_lt (l0 p hp)
 have hn2 : ND ((L' + 1 + 1, oS) :: (L' + 1, oC) :: news) := hn1.cons fun p hp => by
  rcases List.mem_cons.mp hp with rfl | hp
  ·exact Nat.lt_succ_self _
  ·exact Nat.lt_succ_of_lt (Nat.lt_succ_of_lt (l0 p hp))
 have hpl := hpv.length
 have hn5 := map_nd N1 hn2 l1 l2 l3
 refine tuple_map rfl (.ref 221) pv (fun i y => ∃ (x : Str) (t : Tok), xs[i]? = some x ∧ y = Value.str x t) (by exact ub1 hpl (Nat.le_trans hxl (by decide))) rfl rfl F1 N1 hn5 (.tail _ (.tail _ hP)) ?_ ?_
 ·intro i v nw h tk hv hnw F2 N2
  (try kd_p)
  refine e2_2 (strs_get hpv hv) ?_
  intro x t hx1 hz2
  subst hz2
  k_dflt (refine' fspath_spec ?zB ?zF ?zX ?zN ?zT ?zk ?zd ?zu ?_)
  case zB => k_asm
  case zF => k_asm
  case zX => k_asm
  case zN => k_asm
  case zT => k_asm
  case zk => exact rfl
  case zd => ktr_room
  case zu => ktr_units
  intro h' tk' F3 N3
  exact i2_4 _ _ rfl ⟨x, t, hx1, rfl⟩ F3 N3
 ·intro Td acc nw h tk F2 N2 hnw hsub hacc
  have hacc' := items_strs hacc hpl
  (try kd_p)
  refine gen1 (acc.toList : List Value) ?_
  intro av eav
  have eac : acc = av.toArray := by rw [eav]
  subst eac
  have hacc' : StrsAre av xs := hacc'
  have hav : av.length = xs.length := hacc'.length
  (try kd_p)
  obtain ⟨nw1, N3, hn3, hcS, hcC, hTd, hsub3⟩ : ∃ nw1, News g₀ L' h nw1 ∧ ND nw1 ∧ (L' + 1 + 1, oS) ∈ nw1 ∧ (L' + 1, oC) ∈ nw1 ∧ (Td, ({ cls := .type "tuple", data := .seq av.toArray } : Obj)) ∈ nw1 ∧ ∀ p ∈ news, p ∈ nw1 :=
   ⟨_, N2, hnw, .tail _ (hsub _ (.head _)), .tail _ (hsub _ (.tail _ (.head _))), .head _, fun p hp => .tail _ (hsub _ (.tail _ (.tail _ hp)))⟩
  clear N2 hnw hsub N1 hn5
  (try kd_p)
  obtain ⟨x0, hx00⟩ : ∃ x0, xs[0]? = some x0 := ⟨xs[0]'hx0, List.getElem?_eq_getElem hx0⟩
  refine e1_1 (hacc'.at hx00) ?_
  intro t0 hv0
  have hsj : seqIndex? 0 av.length = some 0 := seq0 (by exact ul3 hx0 hav)
  have hae : av.isEmpty = false := by
   cases av with
   | nil => simp at hav; exact False.elim (o112 ‹_› ‹_›)
   | cons _ _ => rfl
  (try kd_p)
  k_steps
  all_goals (try kd_p)
  rename (Fr g₀ _ _ _) => F4
  rename (News g₀ _ _ (rep _ _ nw1)) => N4'
  rename Obj.data _ = Data.cell (some (Value.str _ _)) => dC4
  (try kd_p)
  obtain ⟨nw2, N4, hn4, hcC4, hcS4, hTd4, sub4⟩ : ∃ nw2, News g₀ L' _ nw2 ∧ ND nw2 ∧ (L' + 1, _) ∈ nw2 ∧ (L' + 1 + 1, oS) ∈ nw2 ∧ (Td, ({ cls := .type "tuple", data := .seq av.toArray } : Obj)) ∈ nw2 ∧ ∀ p ∈ news, p ∈ nw2 :=
   ⟨_, N4', hn3.rep, mem_rep_self hcC, mem_rep_ne hcS (Nat.ne_of_gt (Nat.lt_succ_self _)), mem_rep_tup hn3 hcC dC hTd, fun p hp => mem_rep_ne' (hsub3 p hp) (Nat.ne_of_lt (Nat.lt_succ_of_lt (l0 p hp)))⟩
  clear N4'
  k_steps
  all_goals (try kd_p)
  rename (Fr g₀ _ _ _) => F5
  rename (News g₀ _ _ (rep _ _ nw2)) => N5'
  rename Obj.data _ = Data.cell (some (Value.str (Str.ofString ".") _)) => dS5
  (try kd_p)
  obtain ⟨nw3, N5, hn5, hcS5, hcC5, hTd5, sub5⟩ : ∃ nw3, News g₀ L' _ nw3 ∧ ND nw3 ∧ (L' + 1 + 1, _) ∈ nw3 ∧ (L' + 1, _) ∈ nw3 ∧ (Td, ({ cls := .type "tuple", data := .seq av.toArray } : Obj)) ∈ nw3 ∧ ∀ p ∈ news, p ∈ nw3 :=
   ⟨_, N5', hn4.rep, mem_rep_self hcS4, mem_rep_ne hcC4 (Nat.ne_of_lt (Nat.lt_succ_self _)), mem_rep_tup hn4 hcS4 dS hTd4, fun p hp => mem_rep_ne' (sub4 p hp) (Nat.ne_of_lt (Nat.lt_succ_of_lt (Nat.lt_succ_of_lt (l0 p hp))))⟩
  clear N5'
  k_steps
  all_goals (try kd_p)
  show wpAny _ _ (exec (.Try _ _ _ [] _) _) _ _ _
  refine wpAny_Try_except ?_
  (try kd_p)
  k_steps
  all_goals (try kd_p)
  refine k_tup (o := { cls := .type "tuple", data := .seq av.toArray }) (its := av.toArray) (fun i ys new => TabAre new ys ((xs.take i).map fun x => Txt.split x (Str.ofString "/"))) rfl rfl rfl (by k_asm) (by k_asm) hn5 hTd5 rfl ⟨_, rfl⟩ .nil ?_ ?_ ?_
  ·intro i ys new hi hJ
   have := hJ.length
   rw [List.length_map, List.length_take] at this
   rw [sizeLine_eq]
   exact ub1 this (ub5 (Nat.le_trans hxl (by decide)))
  ·intro gg C i ys new₀ nw2 oC m₂ h tk E' hi hB hoC hJ sub0 sub1 hC ndw F6 N6
   (try kd_p)
   refine e1_2 hB ?_
   (try clear hB); intro v hv hm
   rw [List.getElem?_toArray] at hv
   have hi' : i < xs.length := by rw [← hav]; exact (List.getElem?_eq_some_iff.mp hv).1
   (try kd_p)
   refine e1_1 (hacc'.at (List.getElem?_eq_getElem hi')) ?_
   intro tx htx
   have hv' := hv.symm.trans htx
   obtain rfl := Option.some.inj hv'
   have hxl1 := hx _ (List.getElem_mem hi')
   have hsz : (xs[i]).length + 2 ≤ sizeLine := by rw [sizeLine_eq]; exact rm3 hxl1 (by decide)
   have hcC6 := sub0 _ hcC5
   refine wpAny_tests_nil ?_
   dsimp only
   (try kd_p)
   k_steps
   all_goals (try kd_p)
   rename List.map _ _ = Txt.split _ _ => hsp
   rename StrsAre (strValues _) _ => hss
   rename (Fr g₀ _ _ _) => F7
   rename (News g₀ _ _ ((_, _) :: nw2)) => N7
   rename ∀ p ∈ nw2, _ => l7
   rw [hsp] at hss
   refine i3_6 _ _ ([(_, _)]) rfl F7 N7 ?_ ?_ ?_
   ·intro p hp q hq
    rw [List.mem_singleton.mp hp]
    exact (Nat.ne_of_lt (l7 q hq)).symm
   ·exact List.nodup_cons.mpr ⟨List.not_mem_nil, List.nodup_nil⟩
   ·rw [List.take_add_one, List.getElem?_eq_getElem hi', Option.toList_some, List.map_append]
    exact (hJ.mono fun p hp => .tail _ hp).app (.cons (.head _) hss .nil)
  ·intro gg Sp h5 tk5 ys new F6 N6 hn6 hJ
   (try kd_p)
   refine gen1 (xs.map fun x => Txt.split x (Str.ofString "/")) ?_
   intro rows erows
   rw [List.size_toArray, hav, List.take_length, ← erows] at hJ
   have hyl := hJ.length
   have hrow : ∀ i, i < rows.length → (rowAt rows i).length ≤ 100 ∧ ∀ c ∈ rowAt rows i, c.length ≤ 100 := by
    intro i hi
    have e : rowAt rows i ∈ rows := by
     rw [rowAt, List.getD_eq_getElem?_getD, List.getElem?_eq_getElem hi]
     exact List.getElem_mem hi
    (try kd_p)
    refine gen1 (rowAt rows i) ?_
    intro row erow
    rw [← erow] at e ⊢
    rw [erows] at e
    (try kd_p)
    refine e1_2 (List.mem_map.mp e) ?_
    intro x hx1 hx2
    rw [← hx2]
    exact hxr x hx1
   (try kd_p)
   obtain ⟨nw4, N7, hn7, hcS7, hcC7, hTd7, hSp7, sub7, hT7⟩ : ∃ nw4, News g₀ L' h5 nw4 ∧ ND nw4 ∧ (L' + 1 + 1, _) ∈ nw4 ∧ (L' + 1, _) ∈ nw4 ∧ (Td, ({ cls := .type "tuple", data := .seq av.toArray } : Obj)) ∈ nw4 ∧ (Sp, W.listOf ys.toArray ys.length) ∈ nw4 ∧ (∀ p ∈ news, p ∈ nw4) ∧ TabAre nw4 ys rows :=
    ⟨_, N6, hn6, .tail _ (List.mem_append_right _ hcS5), .tail _ (List.mem_append_right _ hcC5), .tail _ (List.mem_append_right _ hTd5), .head _, fun p hp => .tail _ (List.mem_append_right _ (sub5 p hp)), hJ.mono fun p hp => .tail _ (List.mem_append_left _ hp)⟩
   clear N6 hn6
   (try kd_p)
   k_steps
   all_goals (try kd_p)
   show wpAny _ _ (exec (.Try _ _ _ [] _) _) _ _ _
   refine wpAny_Try_except ?_
   (try kd_p)
   k_steps
   all_goals (try kd_p)
   refine k_tup (o := { cls := .type "tuple", data := .seq av.toArray }) (its := av.toArray) (fun i ys _ => ys = List.replicate i .none) rfl rfl rfl (by k_asm) (by k_asm) hn7 hTd7 rfl ⟨_, rfl⟩ rfl ?_ ?_ ?_
   ·intro i ys new hi hJ
    rw [hJ, List.length_replicate, sizeLine_eq]
    rw [List.size_toArray] at hi
    exact Nat.le_trans hi (ub1 hav (Nat.le_trans hxl (by decide)))
   ·intro gg C i nw2 oC m₂ h tk E' hi hB hoC sub0 hC ndw F8 N8
    refine ⟨fun _ => rfl, ?_⟩
    (try kd_p)
    refine e1_2 hB ?_
    (try clear hB); intro v hv hm
    rw [List.getElem?_toArray] at hv
    have hi' : i < xs.length := by rw [← hav]; exact (List.getElem?_eq_some_iff.mp hv).1
    (try kd_p)
    refine e1_1 (hacc'.at (List.getElem?_eq_getElem hi')) ?_
    intro tx htx
    have hv' := hv.symm.trans htx
    obtain rfl := Option.some.inj hv'
    have hcC8 := sub0 _ hcC7
    have hsl := hxs _ (List.getElem_mem hi')
    have hxl1 := hx _ (List.getElem_mem hi')
    (try kd_p)
    k_steps
    all_goals (try kd_p)
    all_goals exact ⟨_, _, rfl, by first | rfl | rw [hsl], F8, N8⟩
   ·intro gg D h6 tk6 n F8 N8 hn8 hJ8
    have hn0 : n = xs.length := by
     have := congrArg List.length hJ8
     rw [List.length_replicate, List.length_replicate, List.size_toArray] at this
     exact Eq.trans this hav
    (try kd_p)
    obtain ⟨nn, rfl⟩ : ∃ nn, n = nn + 1 := ⟨n - 1, by (exact o34 hn0 hx0)⟩
    obtain ⟨nw5, N9, hn9, hcS9, hcC9, hTd9, hSp9, sub9, hT9, hD9⟩ : ∃ nw5, News g₀ L' h6 nw5 ∧ ND nw5 ∧ (L' + 1 + 1, _) ∈ nw5 ∧ (L' + 1, _) ∈ nw5 ∧ (Td, ({ cls := .type "tuple", data := .seq av.toArray } : Obj)) ∈ nw5 ∧ (Sp, W.listOf ys.toArray ys.length) ∈ nw5 ∧ (∀ p ∈ news, p ∈ nw5) ∧ TabAre nw5 ys rows ∧ (D, setO1 (sled w)) ∈ nw5 :=
     ⟨_, N8, hn8, .tail _ hcS7, .tail _ hcC7, .tail _ hTd7, .tail _ hSp7, fun p hp => .tail _ (sub7 p hp), hT7.mono fun p hp => .tail _ hp, .head _⟩
    clear N8 hn8
    refine assign_set rfl F8 N9 hD9 rfl rfl ?_
    intro h7 F10 N10
    (try kd_p)
    k_steps
    all_goals (try kd_p)
    refine k_list (o := W.listOf ys.toArray ys.length) (its := ys.toArray) (fun i zs new => TabAre new zs ((rows.take i).map rowF)) rfl rfl rfl (by k_asm) (by k_asm) hn9 hSp9 rfl ⟨_, rfl⟩ .nil ?_ ?_ ?_
    ·intro i zs new hi hJ
     have := hJ.length
     rw [List.length_map, List.length_take] at this
     rw [sizeLine_eq]
     have hrl : rows.length = xs.length := by rw [erows, List.length_map]
     exact ub1 this (ub5 (ub1 hrl (Nat.le_trans hxl (by decide))))
    ·intro gg C i zs new₀ nw2 oC m₂ h tk E' hi hB hoC hJ9 sub0 sub1 hC ndw F11 N11
     (try kd_p)
     refine e1_2 hB ?_
     (try clear hB); intro v hv hm
     rw [List.getElem?_toArray] at hv
     (try kd_p)
     refine e3_4 (hT9.row hv) ?_
     intro ri ui ki hz3 hmi hsi hil
     subst hz3
     have hcS11 := sub0 _ hcS9
     have hmi' := sub0 _ hmi
     have hui := hsi.length
     have hrli := hrow i hil
     refine wpAny_tests_nil ?_
     dsimp only
     (try kd_p)
     k_steps
     all_goals (try kd_p)
     refine k_list (o := W.listOf ui.toArray ki) (its := ui.toArray) (fun j us new => new = [] ∧ StrsAre us (rowF ((rowAt rows i).take j))) rfl rfl rfl (by k_asm) (by k_asm) ndw hmi' rfl ⟨_, rfl⟩ ⟨rfl, .nil⟩ ?_ ?_ ?_
     ·intro j us new hj hR0
      (try kd_p)
      refine e0_2 hR0 ?_
      (try clear hR0); intro _ hu
      have h1 := hu.length
      have h2 := rowF_len ((rowAt rows i).take j)
      rw [List.length_take] at h2
      rw [sizeLine_eq]
      exact ub1 h1 (Nat.le_trans h2 (ub5 (ub4 hrli (by decide))))
     ·intro g2 C2 j us new₂ nw3 oC2 m3 h3 tk3 E3 hj hB2 hoC2 hJ2 s0 s1 hC2 ndw2 F12 N12
      (try kd_p)
      refine e0_2 hJ2 ?_
      (try clear hJ2); intro hz4 hu
      subst hz4
      refine e1_2 hB2 ?_
      (try clear hB2); intro v hv2 hm3
      rw [List.getElem?_toArray] at hv2
      have hj' : j < (rowAt rows i).length := by rw [← hui]; exact (List.getElem?_eq_some_iff.mp hv2).1
      (try kd_p)
      refine e1_1 (hsi.at (List.getElem?_eq_getElem hj')) ?_
      intro tc htc
      have hv' := hv2.symm.trans htc
      obtain rfl := Option.some.inj hv'
      have hcl := hrli.2 _ (List.getElem_mem hj')
      have htake : (rowAt rows i).take (j + 1) = (rowAt rows i).take j ++ [(rowAt rows i)[j]] := by rw [List.take_add_one, List.getElem?_eq_getElem hj', Option.toList_some]
      (try kd_p)
      refine gen1 ((rowAt rows i)[j]) ?_
      intro c ec
      rw [← ec] at hcl htake hm3
      have hcS12 := s0 _ hcS11
      refine wpAny_tests_one ?_
      dsimp only
      (try kd_p)
      k_steps
      all_goals (try kd_p)
      ·rename (c != _) = true => h2
       refine i3_7 _ _ ([]) rfl F12 N12 (fun p hp => nomatch hp) List.nodup_nil rfl ?_
       rw [htake, rowF_app, if_pos (by rw [h2, beq_false_of_ne (by exact fun hom => o13 ‹_› hom)]; rfl)]
       exact kct_snoc hu
      ·rename (c != _) = false => h2
       refine i3_7 _ _ ([]) rfl F12 N12 (fun p hp => nomatch hp) List.nodup_nil rfl ?_
       rw [htake, rowF_app, if_neg (by rw [h2]; simp), List.append_nil]
       exact hu
      ·refine i3_7 _ _ ([]) rfl F12 N12 (fun p hp => nomatch hp) List.nodup_nil rfl ?_
       rw [htake, rowF_app, if_neg (by rw [show c.length = 0 by (exact o126 ‹_›)]; simp), List.append_nil]
       exact hu
     ·intro g2 D2 h4 tk4 us new F13 N13 hn13 hR0
      (try kd_p)
      refine e0_2 hR0 ?_
      (try clear hR0); intro hz5 hu
      subst hz5
      rw [List.nil_append] at N13 hn13
      rw [List.size_toArray, hui, List.take_length] at hu
      refine i3_6 _ _ ([(_, _)]) rfl F13 N13 ?_ ?_ ?_
      ·intro p hp q hq
       rw [List.mem_singleton.mp hp]
       exact (hn13.head q hq).symm
      ·exact List.nodup_cons.mpr ⟨List.not_mem_nil, List.nodup_nil⟩
      ·rw [List.take_add_one, List.getElem?_eq_getElem hil, Option.toList_some, List.map_append]
       have er : rowAt rows i = rows[i] := by rw [rowAt, List.getD_eq_getElem?_getD, List.getElem?_eq_getElem hil]; rfl
       rw [er] at hu
       exact (hJ9.mono fun p hp => .tail _ hp).app (.cons (.head _) hu .nil)
    ·intro gg Sq h8 tk8 zs new F11 N11 hn11 hJ9
     rw [List.size_toArray, hyl, List.take_length] at hJ9
     (try kd_p)
     refine gen1 (rows.map rowF) ?_
     intro rf erf
     rw [← erf] at hJ9
     have hrfl : rf.length = xs.length := by rw [erf, List.length_map, erows, List.length_map]
     (try kd_p)
     obtain ⟨nw6, N12, hn12, hcS12, hcC12, hSq12, sub12, hT12⟩ : ∃ nw6, News g₀ L' h8 nw6 ∧ ND nw6 ∧ (L' + 1 + 1, _) ∈ nw6 ∧ (L' + 1, _) ∈ nw6 ∧ (Sq, W.listOf zs.toArray zs.length) ∈ nw6 ∧ (∀ p ∈ news, p ∈ nw6) ∧ TabAre nw6 zs rf :=
      ⟨_, N11, hn11, .tail _ (List.mem_append_right _ hcS9), .tail _ (List.mem_append_right _ hcC9), .head _, fun p hp => .tail _ (List.mem_append_right _ (sub9 p hp)), hJ9.mono fun p hp => .tail _ (List.mem_append_left _ hp)⟩
     clear N11 hn11
     (try kd_p)
     k_steps
     rename_i h6 tk6 a1 u1 k1 hm1 hs1 _ _ _ _ a2 u2 k2 hm2 hs2 _ _ h7 F7 N7
     all_goals (try kd_p)
     refine gen1 (minRow (rowsOf xs)) ?_
     intro r1 er1
     refine gen1 (maxRow (rowsOf xs)) ?_
     intro r2 er2
     replace hs1 : StrsAre u1 r1 := by rw [er1, minRow, rowsOf, ← erows, ← erf]; exact hs1
     replace hs2 : StrsAre u2 r2 := by rw [er2, maxRow, rowsOf, ← erows, ← erf]; exact hs2
     rw [← er1, ← er2] at hrch
     have hcm : commonS xs = Str.ofString "/" ++ Txt.join (Str.ofString "/") (comm r1 r2) := by rw [commonS, ← er1, ← er2]
     (try kd_p)
     refine e0_2 (hjk r1 (.inl er1)) ?_
     intro hz1 hj1
     refine e0_2 (hjk r2 (.inr er2)) ?_
     intro hz2 hj2
     have hu1 := hs1.length
     have hu2 := hs2.length
     (try kd_p)
     obtain ⟨m7, em7, F8⟩ : ∃ m7, m7 = _ ∧ Fr g₀ L' h7 m7 := ⟨_, rfl, F7⟩
     have e1 := (congrFun em7 (Str.ofString "s1")).trans (show _ = some (Value.ref a1) from rfl)
     have e2 := (congrFun em7 (Str.ofString "s2")).trans (show _ = some (Value.ref a2) from rfl)
     have e3 := (congrFun em7 (Str.ofString "common")).trans (show _ = some (Value.ref a1) from rfl)
     have e4 := (congrFun em7 (Str.ofString "isabs")).trans (show _ = some (Value.bool true) from rfl)
     clear em7 F7
     have hsub13 : ∀ p ∈ news, p ∈ nw6 := sub12
     refine for_enum (o := W.listOf u1.toArray k1) (its := u1.toArray) (fun i m nw => r1.take i = r2.take i ∧ (∀ p ∈ nw6, p ∈ nw) ∧ m (Str.ofString "s1") = some (.ref a1) ∧ m (Str.ofString "s2") = some (.ref a2) ∧ m (Str.ofString "common") = some (.ref a1) ∧ m (Str.ofString "isabs") = some (.bool true))
      rfl rfl rfl rfl F8 N7 hn12 hm1 rfl ⟨_, rfl⟩ ?_ ?_ ?_ ?_ ?_
     ·intro nw hsub hn
      exact i0_6 rfl hsub e1 e2 e3 e4
     ·intro i m₁ nw hR0
      (try kd_p)
      refine e0_3 hR0 ?_
      (try clear hR0); intro _ hsub _
      exact hsub _ hm1
     ·intro gg i v0 v1 m₁ nw ow wr h tk hi hP hJ hoff how hot hex hndw F9 N9
      (try kd_p)
      refine e0_6 hJ ?_
      (try clear hJ); intro htk hsub f1 f2 f3 f4
      refine e1_2 hP ?_
      (try clear hP); intro ti hz6 hv1
      subst hz6
      rw [List.getElem?_toArray] at hv1
      rw [List.size_toArray, hu1] at hi
      (try kd_p)
      obtain ⟨x, hx⟩ : ∃ x, r1[i]? = some x := ⟨_, List.getElem?_eq_getElem hi⟩
      have hi2 := hrch i hi htk
      (try kd_p)
      obtain ⟨y, hy⟩ : ∃ y, r2[i]? = some y := ⟨_, List.getElem?_eq_getElem hi2⟩
      refine e1_1 (hs1.at hx) ?_
      intro tx hvx
      refine e1_1 (hs2.at hy) ?_
      intro ty hvy
      cases hv1.symm.trans hvx
      (try kd_p)
      obtain ⟨m9, em9, F10⟩ : ∃ m9, m9 = _ ∧ Fr g₀ L' h m9 := ⟨_, rfl, F9⟩
      have g1 : m9 (Str.ofString "s1") = some (.ref a1) := by rw [em9]; exact f1
      have g2 : m9 (Str.ofString "s2") = some (.ref a2) := by rw [em9]; exact f2
      have g3 : m9 (Str.ofString "isabs") = some (.bool true) := by rw [em9]; exact f4
      have g4 : m9 (Str.ofString "common") = some (.ref a1) := by rw [em9]; exact f3
      have g5 : m9 (Str.ofString "c") = some (.str x tx) := by rw [em9]; rfl
      have g6 : m9 (Str.ofString "i") = some (.int i ti) := by rw [em9]; rfl
      have F11 := fr_map F10 (fun y => congrFun (putF g1 g2 g3 g4 g5 g6) y)
      clear em9 F9 F10 f1 f2 f3 f4 F8
      have sub : ∀ p ∈ nw6, p ∈ nw := fun p hp => (mem_off.mp (hsub p hp)).1
      have hm1a := sub _ hm1
      have hm2a := sub _ hm2
      have hcC13 := sub _ hcC12
      have hi8 : i < 1000000 := by exact Nat.lt_of_lt_of_le hi2 (Nat.le_trans hz2 (by decide))
      have hpi : StrsAre (kms_pick u1 none (some (i : Int))) (r1.take i) := strs_pick0 hs1 i
      (try kd_p)
      refine e0_2 (hj1 i) ?_
      intro hji hji2
      (try kd_p)
      k_steps
      all_goals (try kd_p)
      ·show wpAny _ _ (execs _ _) _ _ _
       (try kd_p)
       k_steps
       all_goals (try kd_p)
       rename News g₀ L' _ _ => N20
       refine join_L N20 (.head _) hpi (by exact Nat.le_trans hji (by decide)) ?_
       intro tj kj
       (try kd_p)
       k_steps
       rename (x != y) = true => hne
       rename_i t9 k9 _ kF kN _ _
       all_goals (try kd_p)
       have z := hret t9 _ k9 kF fun p hp => kN p (.tail _ (sub _ (hsub13 p hp)))
       rw [hcm, comm_stop htk hx hy (by simpa using hne)] at z
       exact z
      ·rename (x != y) = false => heq
       have hxy : x = y := by simpa using heq
       refine i4_11 _ _ _ _ rfl (by k_asm) (by k_asm) hndw how (take_next htk hx (hxy ▸ hy)) hsub rfl rfl rfl rfl
     ·intro h tk m₁ nw F9 N9 hn9 hJ
      (try kd_p)
      refine e0_6 hJ ?_
      (try clear hJ); intro htk hsub f1 f2 f3 f4
      have F11 := fr_map F9 (fun y => congrFun (putD f1 f2 f3 f4) y)
      have hm1a := hsub _ hm1
      have hcC13 := hsub _ hcC12
      have hsz : u1.toArray.size = r1.length := by rw [List.size_toArray, hu1]
      rw [hsz, List.take_length] at htk
      (try kd_p)
      refine e0_2 (hj1 r1.length) ?_
      intro hji hji2
      rw [List.take_length] at hji hji2
      (try kd_p)
      k_steps
      all_goals (try kd_p)
      rename News g₀ L' _ _ => N20
      refine join_L N20 hm1a hs1 (by exact Nat.le_trans hji (by decide)) ?_
      intro tj kj
      (try kd_p)
      k_steps
      rename_i t9 k9 _ kF kN _ _
      all_goals (try kd_p)
      have z := hret t9 _ k9 kF fun p hp => kN p (hsub _ (hsub13 p hp))
      rw [hcm, comm_all htk] at z
      exact z
     ·passes_own
end
section
open PyProof.Rows.LCg
noncomputable def RowAt (ax : Addr) (rs : List Addr) (vw : List (Value × Value)) (nw : List (Addr × Obj)) : Prop :=
 (∃ k, (ax, W.listOf (rs.map Value.ref).toArray k) ∈ nw) ∧ rs.length = vw.length ∧ ∀ (i : Nat) (r : Addr) (a b : Value), rs[i]? = some r → vw[i]? = some (a, b) → ∃ k, (r, W.listOf #[a, b] k) ∈ nw
theorem RowAt.mono {ax : Addr} {rs : List Addr} {vw : List (Value × Value)} {nw nw' : List (Addr × Obj)} (h : RowAt ax rs vw nw) (k : ∀ p ∈ nw, p ∈ nw') : RowAt ax rs vw nw' := by
 refine e0_3 h ?_
 (try clear h); intro hz1 b c
 refine e1_1 hz1 ?_
 (try clear hz1); intro n a
 refine i0_3 ⟨n, k _ a⟩ b (fun i r x y e1 e2 => ?_)
 refine e1_1 (c i r x y e1 e2) ?_
 intro n' d
 exact ⟨n', k _ d⟩
noncomputable def RowsHeap (rs : List Addr) (vw : List (Value × Value)) (h : Heap) : Prop := ∀ (i : Nat) (r : Addr) (a b : Value), rs[i]? = some r → vw[i]? = some (a, b) → h.IsList r #[a, b]
section
variable {prog : Program} {w : World} {A : Around} {E : Value → Shared → Prop} {R : Result → Shared → Prop} {s : Shared} {h₀ : Heap} {L : Addr} {m : Str → Option Value} {env : Env}
 {scope : Scope} {cl : List (Str × Addr)} {news : List (Addr × Obj)} {x : Str} {px : Pos}
 {Turn : Shared → Addr → Nat → (Nat → (Str → Option Value) → Prop) → List (Addr × Obj) → (Nat → List Value → List (Addr × Obj) → Prop) → Prop} {Fin : Shared → List (Addr × Obj) → (List Value → List (Addr × Obj) → Prop) → Prop}
theorem RowsHeap.keep {rs : List Addr} {vw : List (Value × Value)} {h h' : Heap} (H : RowsHeap rs vw h) (k : ∀ b ∈ rs, ∀ o, h.get? b = some o → h'.get? b = some o) : RowsHeap rs vw h' := fun i r a b e1 e2 =>
 (H i r a b e1 e2).at fun o e => k r (List.mem_of_getElem? e1) o e
theorem csrc_rows {x₂ : Str} {p1 p2 tp : Pos} {kk : Nat} {I ax : Addr} {rs : List Addr} {vw : List (Value × Value)} (hh : A.handled = none) (hne : ax ≠ I) (hnr : ∀ b ∈ rs, b ≠ I) (hlen : rs.length = vw.length) :
  CSrc prog w A h₀ L (.Tuple [.Name x p1, .Name x₂ p2] kk tp) I (I :: ax :: rs) [I] rs.length (fun i v h => ∃ r a b, v = .ref r ∧ rs[i]? = some r ∧ vw[i]? = some (a, b) ∧ h.IsList r #[a, b])
   (fun i v h => (∃ r, v = .ref r ∧ rs[i]? = some r) ∧ h.IsListIter I ax (i + 1) ∧ h.IsList ax (rs.map Value.ref).toArray ∧ RowsHeap rs vw h)
   (fun i h => h.IsListIter I ax i ∧ h.IsList ax (rs.map Value.ref).toArray ∧ RowsHeap rs vw h) (RowAt ax rs vw) where
 W := {
  sub := fun b hb => by rw [List.mem_singleton.mp hb]; exact .head _
  frame := fun i h h' st e => by
   refine e0_3 st ?_
   (try clear st); intro hz2 c d
   refine e1_2 hz2 ?_
   (try clear hz2); intro o a b
   exact i0_3 ⟨o, e I (.head _) o a, b⟩ (c.at fun o => e ax (.tail _ (.head _)) o) (d.keep fun b hb => e b (.tail _ (.tail _ hb)))
  item := fun i s Q E hi st hQ => by
   refine (Walks.list (prog := prog) (w := w) hh I ax hne (rs.map Value.ref).toArray).item i s Q E (by simpa using hi) ⟨st.1, st.2.1⟩ fun v h' tk hP hst hk => hQ v h' tk ⟨?_, hst.1, hst.2, st.2.2.keep fun b hb o e => hk b o (fun q => hnr b hb (List.mem_singleton.mp q)) e⟩ hk
   rw [List.getElem?_toArray, List.getElem?_map] at hP
   refine e1_2 (Option.map_eq_some_iff.mp hP) ?_
   intro r hr e
   exact i1_2 r e.symm hr
  go := fun i v s Q E hm hQ => by
   refine e0_4 hm ?_
   (try clear hm); intro hz3 hit hl hR
   refine e1_2 hz3 ?_
   (try clear hz3); intro r hz1 hr
   subst hz1
   refine wpAny_letOwnedTupleGo_listiter hit (hQ s.heap ?_ ⟨hit, hl, hR⟩ fun _ _ _ e => e)
   have hi : i < vw.length := by rw [← hlen]; exact (List.getElem?_eq_some_iff.mp hr).1
   exact i3_4 r (vw[i].1) (vw[i].2) rfl hr (List.getElem?_eq_getElem hi) (hR i r _ _ hr (List.getElem?_eq_getElem hi))
  done := fun s Q E st hQ => (Walks.list (prog := prog) (w := w) hh I ax hne (rs.map Value.ref).toArray).done s Q E (by simpa using ⟨st.1, st.2.1⟩) hQ }
 self := fun i s Q E st hQ => (Walks.list (prog := prog) (w := w) hh I ax hne (rs.map Value.ref).toArray).self i s Q E ⟨st.1, st.2.1⟩ hQ
 ex := fun i h st a ha => by
  refine e1_2 st.1 ?_
  intro o e _
  rw [List.mem_singleton.mp ha]
  exact ⟨o, e⟩
 st := fun i h h' nw st k1 k2 N hS => by
  refine e0_2 st ?_
  (try clear st); intro hz4 _
  refine e1_2 hz4 ?_
  (try clear hz4); intro o e r
  refine e0_3 hS ?_
  (try clear hS); intro hz5 _ hr
  refine e1_1 hz5 ?_
  (try clear hz5); intro k hm
  refine i0_3 ⟨o, k1 _ (.head _) _ e, r⟩ ⟨_, (N _ hm).1, rfl, k, rfl⟩ (fun i r a b e1 e2 => ?_)
  refine e1_1 (hr i r a b e1 e2) ?_
  intro k' hm'
  exact ⟨_, (N _ hm').1, rfl, k', rfl⟩
 mono := fun nw nw' hS k => hS.mono k
 nodup := by simp
theorem asg_row {x₂ : Str} {p1 p2 tp : Pos} {kk : Nat} {C : Addr} {rs : List Addr} {vw : List (Value × Value)} (hh : A.handled = none) (hkind : scope.kind = .function) (hx : scope.names.lookup x = some .local) (hx₂ : scope.names.lookup x₂ = some .local) (hxx : x ≠ x₂) :
  Asg prog w A (.Tuple [.Name x p1, .Name x₂ p2] kk tp) (compEnvC scope cl C env) C (fun i v h => ∃ r a b, v = .ref r ∧ rs[i]? = some r ∧ vw[i]? = some (a, b) ∧ h.IsList r #[a, b]) (fun i m => ∃ a b, vw[i]? = some (a, b) ∧ m x = some a ∧ m x₂ = some b) := by
 intro i v s m' Q E hR0 hn k
 refine e3_4 hR0 ?_
 (try clear hR0); intro r a b hz2 hr hv hl
 subst hz2
 rw [show assign (.Tuple [.Name x p1, .Name x₂ p2] kk tp) (compEnvC scope cl C env) (.ref r) = (do standAt tp; unpack (.ref r) (assignEach [.Name x p1, .Name x₂ p2] (compEnvC scope cl C env))) from rfl]
 refine wpAny_bind (wpAny_standAt ?_)
 unfold unpack
 rw [show (assignEach [PySem.Expr.Name x p1, .Name x₂ p2] (compEnvC scope cl C env)).length = (#[a, b] : Array Value).size from rfl, show (assignEach [PySem.Expr.Name x p1, .Name x₂ p2] (compEnvC scope cl C env)).findIdx? (·.1) = none from rfl]
 refine wpAny_bind (wpAny_holding (kun_itemsOf hh hl fun h₁ he₁ => ?_))
 have hL : C ≠ s.heap.objs.size := Nat.ne_of_lt hn.lt
 have hn₁ : h₁.Ns C m' := hn.at' fun o e => he₁ _ o hL e
 have up₁ : ∀ c o, s.heap.get? c = some o → h₁.get? c = some o := fun c o e => he₁ c o (Nat.ne_of_lt (Heap.lt_size e)) e
 show wpAny _ _ (assignInOrder [assign (.Name x p1) (compEnvC scope cl C env), assign (.Name x₂ p2) (compEnvC scope cl C env)] [a, b]) _ _ _
 refine assignInOrder_cons ?_
 refine wpAny_assign_Name (wpAny_storeName_local (lookup_relabel_local hx) hn₁ (fun h₂ hn₂ hs₂ => ?_) (by simp [compEnvC, relabel, hkind]))
 refine assignInOrder_cons ?_
 refine wpAny_assign_Name (wpAny_storeName_local (lookup_relabel_local hx₂) hn₂ (fun h₃ hn₃ hs₃ => ?_) (by simp [compEnvC, relabel, hkind]))
 refine assignInOrder_nil ?_
 exact k h₃ _ _ hn₃ ⟨a, b, hv, by simp [hxx], by simp⟩ fun c o hc e => hs₃.extBut c o hc (hs₂.extBut c o hc (up₁ c o e))
theorem k_rows {x₂ : Str} {p1 p2 tp : Pos} {kk : Nat} {l : Addr} {rs : List Addr} {vw : List (Value × Value)} (J : Nat → List Value → List (Addr × Obj) → Prop) (hh : A.handled = none) (hkind : scope.kind = .function) (hx : scope.names.lookup x = some .local) (hx₂ : scope.names.lookup x₂ = some .local) (hxx : x ≠ x₂)
  (F : Fr h₀ L s.heap m) (N : News h₀ L s.heap news) (hnd : ND news) (hR : RowAt l rs vw news)
  (h0 : J 0 [] []) (hz : ∀ i ys nw, i ≤ rs.length → J i ys nw → ys.length ≤ sizeLine)
  (turn : ∀ g C, Turn { s with heap := g } C rs.length (fun i m => ∃ a b, vw[i]? = some (a, b) ∧ m x = some a ∧ m x₂ = some b) news J) (fin : ∀ g, Fin { s with heap := g } news (J rs.length)) :
  wpAny (model prog w) A (pyIter (.ref l)) (CompK prog w A h₀ L m env (.Tuple [.Name x p1, .Name x₂ p2] kk tp) scope cl Turn Fin) E s := by
 have hR' := hR
 refine e0_3 hR ?_
 (try clear hR); intro hz6 hlen hr
 refine e1_1 hz6 ?_
 (try clear hz6); intro k hm
 have hg := (N _ hm).1
 have hlt : l < s.heap.objs.size := Heap.lt_size hg
 have hl : s.heap.IsList l (rs.map Value.ref).toArray := ⟨_, hg, rfl, k, rfl⟩
 have hrow : ∀ (i : Nat) (r : Addr) (a b : Value), rs[i]? = some r → vw[i]? = some (a, b) → s.heap.IsList r #[a, b] := fun i r a b e1 e2 => by
  refine e1_1 (hr i r a b e1 e2) ?_
  intro k' hm'
  exact ⟨_, (N _ hm').1, rfl, k', rfl⟩
 have hrlt : ∀ b ∈ rs, b < s.heap.objs.size := fun b hb => by
  obtain ⟨i, hi, e⟩ := List.mem_iff_getElem.mp hb
  refine e1_1 (hr i b vw[i].1 vw[i].2 (by rw [List.getElem?_eq_getElem hi, e]) (List.getElem?_eq_getElem (hlen ▸ hi))) ?_
  intro k' hm'
  exact Heap.lt_size (N _ hm').1
 refine wpAny_pyIter_list hl ?_
 refine compk s.heap.objs.size _ _ _ _ _ _ _ _ J news rfl (csrc_rows hh (Nat.ne_of_lt hlt) (fun b hb => Nat.ne_of_lt (hrlt b hb)) hlen) ⟨⟨_, Heap.get?_push_size _ rfl, rfl, rfl⟩, hl.push _, fun i r a b e1 e2 => (hrow i r a b e1 e2).push _⟩ ?_ (F.push _) (fun p hp => ⟨Heap.get?_push_of_some _ (N p hp).1, (N p hp).2⟩) ?_ ?_ ?_ hR' hnd (fun C => asg_row hh hkind hx hx₂ hxx) h0 hz (turn _) (fin _)
 ·intro b hb
  show b < (s.heap.push _).objs.size
  rw [Heap.size_push]
  rcases List.mem_cons.mp hb with rfl | hb
  ·exact Nat.lt_succ_self _
  ·rcases List.mem_cons.mp hb with rfl | hb
   ·exact Nat.lt_succ_of_lt hlt
   ·exact Nat.lt_succ_of_lt (hrlt b hb)
 ·intro p hp
  simpa using Nat.ne_of_lt (Heap.lt_size (N p hp).1)
 ·simpa using Nat.ne_of_lt F.ns.lt
 ·intro a ha
  rw [List.mem_singleton.mp ha]; exact next_is_new F
end
end
section
open PyProof.Rows
section
variable {prog : Program} {w : World} {A : Around} {E : Value → Shared → Prop} {s : Shared}
theorem collect_tupT {l : Addr} {vs : List Value} {Q : List Value → Shared → Prop} (hl : s.heap.IsTuple l vs.toArray)
  (h : Q vs { s with heap := (s.heap.push (seqObj "list" #[] 0)).update s.heap.objs.size (Obj.mapSeq (· ++ vs.toArray)) }) (hsz : vs.length ≤ sizeLine := by size_fits) :
  wpAny (model prog w) A (collect (.ref l)) Q E s := by
 obtain ⟨o, ho, hc, n, hd⟩ := id hl
 unfold collect
 refine wpAny_bind (wpAny_runValue (codeAny_builtin entry_proto_collect' ?_))
 show wpAny _ _ (do again (.builtin "list.__iadd__" ⟨[← newList [], .ref l], []⟩)) _ _ s
 refine wpAny_bind (wpAny_newList (wpAny_pure ⟨Code.quiet_builtin _ (by decide +kernel), codeAny_builtin entry_list_iadd' ?_⟩))
 show wpAny _ _ (Builtin.List.listExtendWith (.ref s.heap.objs.size) (.ref l) (.ref s.heap.objs.size)) _ _ { s with heap := s.heap.push (seqObj "list" #[] 0) }
 unfold Builtin.List.listExtendWith
 have ho' : (s.heap.push (seqObj "list" #[] 0)).get? l = some o := Heap.get?_push_of_some _ ho
 refine wpAny_bind (wpAny_typeOf (T := "tuple") ⟨o, ho', hc⟩ ?_)
 have ht : (Value.type "tuple" == Value.type "tuple") = true := by rfl
 rw [if_pos (by rw [ht]; simp)]
 refine wpAny_bind (listItems_at ho' hd ?_)
 refine wpAny_bind (listItems_at (xs := #[]) (n := 0) (Heap.get?_push_size _ rfl) rfl ?_)
 rw [if_neg (by simp)]
 refine wpAny_bind (listUpdate_at (xs := #[]) (n := 0) (Heap.get?_push_size _ rfl) rfl ?_ (Nat.zero_le _) (by show (#[] ++ vs.toArray).size ≤ sizeLine + 1; simp only [Array.size_append, List.size_toArray, List.length_nil]; (exact o97 hsz)))
 refine wpAny_pure ?_
 show wpAny (model prog w) A (do
   let o ← load s.heap.objs.size
   match o.data with
   | .seq xs _ => pure xs.toList
   | _ => unsupported "internal:collect") Q E { s with heap := (s.heap.push (seqObj "list" #[] 0)).update s.heap.objs.size (Obj.mapSeq (· ++ vs.toArray)) }
 refine wpAny_bind (wpAny_load (get?_update_seq (Heap.get?_push_size _ rfl) _) ?_)
 show wpAny _ _ (pure ((#[] : Array Value) ++ vs.toArray).toList) Q E _
 rw [show ((#[] : Array Value) ++ vs.toArray).toList = vs by simp]
 exact wpAny_pure h
theorem sorted_tupS {l : Addr} {vs : List Value} {ss : List Str} {Q : Value → Shared → Prop} (hl : s.heap.IsTuple l vs.toArray) (hS : StrsAre vs ss) (h64 : vs.length < 64)
  (h : ∀ (out : Array Value) (ss' : List Str), StrsAre out.toList ss' → ss'.Perm ss → sortedS ss' = true → Q (.ref (s.heap.objs.size + 1)) { s with heap := sortedAll s.heap vs out }) :
  wpAny (model prog w) A (call (.builtin "sorted") [.ref l]) Q E s := by
 refine Calls.call_function_entry kind_sorted plain_sorted entry_sorted (args_sorted1 _) ?_
 unfold Builtin.«sorted»
 refine wpAny_bind (m := checkCount "sorted" 1 1 _) (wpAny_pure ?_)
 refine wpAny_bind (collect_tupT hl ?_ (by rw [sizeLine_eq]; (exact ub3 h64 (by decide))))
 refine wpAny_bind (wpAny_newList ?_ (by rw [sizeLine_eq]; (exact ub3 h64 (by decide))))
 have hsz : ((s.heap.push (seqObj "list" #[] 0)).update s.heap.objs.size (Obj.mapSeq (· ++ vs.toArray))).objs.size = s.heap.objs.size + 1 := by
  rw [Heap.size_update, size_push']
 have hoL : (((s.heap.push (seqObj "list" #[] 0)).update s.heap.objs.size (Obj.mapSeq (· ++ vs.toArray))).push (seqObj "list" vs.toArray 0)).get? (s.heap.objs.size + 1) = some (seqObj "list" vs.toArray 0) := by
  rw [← hsz]; exact Heap.get?_push_size _ rfl
 show wpAny _ _ _ _ _ { s with heap := ((s.heap.push (seqObj "list" #[] 0)).update s.heap.objs.size (Obj.mapSeq (· ++ vs.toArray))).push (seqObj "list" vs.toArray 0) }
 rw [hsz]
 refine wpAny_bind (wpAny_holding (wpAny_call_entry slot_list_sort ⟨_, hoL, rfl⟩ entry_list_sort (list_sort_treeK strKind_oneLt hoL hS.keysOf (fun v₁ v₂ rest e => keyKind_strs (by rw [← e]; exact hS)) h64 fun st' hp hs => ⟨_, rfl, ?_⟩) (args_list_sort _)))
 refine e1_3 (sorted_out_str hS hp hs) ?_
 intro ss' h1 h2 h3
 exact wpAny_pure ⟨_, rfl, h _ ss' h1 h2 h3⟩
theorem rising_all : ∀ (p : Str) (l : List Str), risingS p l = true → ∀ x ∈ l, ltCps x.cps.toList p.cps.toList = false := by
 intro p l
 induction l generalizing p with
 | nil => intro _ x hx; cases hx
 | cons y r ih =>
  intro h x hx
  have h' : (!ltCps y.cps.toList p.cps.toList && risingS y r) = true := h
  rw [Bool.and_eq_true, Bool.not_eq_true'] at h'
  rcases List.mem_cons.mp hx with rfl | hx
  ·exact h'.1
  ·have h2 := ih y h'.2 x hx
   have h1 := h'.1
   rw [ltCps_eq] at h1 h2 ⊢
   simp only [decide_eq_false_iff_not] at *
   intro h3
   by_cases d : x.cps.toList < y.cps.toList
   ·exact h2 d
   ·exact h1 (List.lt_of_le_of_lt (List.not_lt.mp d) h3)
theorem sortedS_pw : ∀ (l : List Str), sortedS l = true → l.Pairwise (fun a b => ltCps b.cps.toList a.cps.toList = false)
 | [], _ => .nil
 | x :: r, h => by
  have h' : risingS x r = true := h
  refine .cons (fun y hy => rising_all x r h' y hy) (sortedS_pw r ?_)
  cases r with
  | nil => rfl
  | cons y r =>
   have h2 : (!ltCps y.cps.toList x.cps.toList && risingS y r) = true := h'
   rw [Bool.and_eq_true] at h2
   exact h2.2
theorem str_anti {a b : Str} (h1 : ltCps b.cps.toList a.cps.toList = false) (h2 : ltCps a.cps.toList b.cps.toList = false) : a = b := by
 rw [ltCps_eq] at h1 h2
 simp only [decide_eq_false_iff_not] at h1 h2
 have := List.le_antisymm (List.not_lt.mp h1) (List.not_lt.mp h2)
 obtain ⟨⟨a⟩⟩ := a
 obtain ⟨⟨b⟩⟩ := b
 cases this
 rfl
theorem sorted_perm {a b : List Str} (ha : sortedS a = true) (hb : sortedS b = true) (h : a.Perm b) : a = b := by
 have pa := sortedS_pw a ha
 have pb := sortedS_pw b hb
 clear ha hb
 induction a generalizing b with
 | nil => exact (List.nil_perm.mp h).symm
 | cons x r ih =>
  cases b with
  | nil => exact absurd h.length_eq (by simp)
  | cons y q =>
   refine e0_2 (List.pairwise_cons.mp pa) ?_
   intro px pr
   refine e0_2 (List.pairwise_cons.mp pb) ?_
   intro py pq
   have e : x = y := by
    rcases List.mem_cons.mp (h.mem_iff.mp (List.mem_cons_self ..)) with e | e
    ·exact e
    ·rcases List.mem_cons.mp (h.mem_iff.mpr (List.mem_cons_self ..)) with e' | e'
     ·exact e'.symm
     ·exact str_anti (px y e') (py x e)
   subst e
   rw [ih (List.Perm.cons_inv h) pr pq]
section
variable {h₀ : Heap} {L : Addr} {m : Str → Option Value} {news : List (Addr × Obj)} {l : Addr} {vs : List Value} {ss : List Str} {Q : Value → Shared → Prop}
theorem sorted_tupN (F : Fr h₀ L s.heap m) (N : News h₀ L s.heap news) (hl : (l, ({ cls := .type "tuple", data := .seq vs.toArray } : Obj)) ∈ news) (hS : StrsAre vs ss) (h64 : vs.length < 64)
  (h : ∀ (D : Addr) (h' : Heap) (vs' : List Value) (ss' : List Str) (e : Nat), Fr h₀ L h' m → News h₀ L h' ((D, W.listOf vs'.toArray e) :: news) → (∀ p ∈ news, p.1 < D) →
   StrsAre vs' ss' → ss'.Perm ss → sortedS ss' = true → Q (.ref D) { s with heap := h' }) :
  wpAny (model prog w) A (call (.builtin "sorted") [.ref l]) Q E s := by
 refine sorted_tupS (s := s) ⟨_, (N _ hl).1, rfl, _, rfl⟩ hS h64 fun out ss' a1 a2 a3 => ?_
 refine e1_1 (sortedAll_at s.heap vs out) ?_
 intro e he
 refine h _ _ out.toList ss' e (F.kept fun _ _ => sortedAll_old) (N.kept_cons F (fun _ _ => sortedAll_old) (Nat.le_succ _) ?_) (fun p hp => Nat.lt_succ_of_lt (Heap.lt_size (N p hp).1)) a1 a2 a3
 rw [Array.toArray_toList]
 exact he
theorem sorted_lstN {n : Nat} (F : Fr h₀ L s.heap m) (N : News h₀ L s.heap news) (hl : (l, W.listOf vs.toArray n) ∈ news) (hS : StrsAre vs ss) (h64 : vs.length < 64)
  (h : ∀ (D : Addr) (h' : Heap) (vs' : List Value) (ss' : List Str) (e : Nat), Fr h₀ L h' m → News h₀ L h' ((D, W.listOf vs'.toArray e) :: news) → (∀ p ∈ news, p.1 < D) →
   StrsAre vs' ss' → ss'.Perm ss → sortedS ss' = true → Q (.ref D) { s with heap := h' }) :
  wpAny (model prog w) A (call (.builtin "sorted") [.ref l]) Q E s := by
 refine sorted_N_str F N (News.isList N hl) hS h64 fun h' vs' ss' e F' N' a1 a2 a3 => ?_
 exact h _ _ vs' ss' e F' N' (fun p hp => Nat.lt_succ_of_lt (Heap.lt_size (N p hp).1)) a1 a2 a3
end
end
end
section
local macro_rules | `(tactic| walk_at "call ref") => `(tactic| (k_extra "W73"; intro D' vs' n' h' tk' F' N' l1 hI'; (try k_lt l1)))
local macro_rules | `(tactic| walk_at "call ref") => `(tactic| (k_extra "W74"; intro D' vs' n' h' tk' F' N' l1 hI'; (try k_lt l1)))
local macro_rules | `(tactic| walk_at "call ref") => `(tactic| k_extra "W75")
theorem put4 {m : Str → Option Value} {A B C D : Str} {a b c d : Option Value} (h1 : m A = a) (h2 : m B = b) (h3 : m C = c) (h4 : m D = d) : m = fun y => if y = A then a else if y = B then b else if y = C then c else if y = D then d else m y := by
 funext y
 by_cases e1 : y = A
 ·rw [if_pos e1, e1, h1]
 ·rw [if_neg e1]
  by_cases e2 : y = B
  ·rw [if_pos e2, e2, h2]
  ·rw [if_neg e2]
   by_cases e3 : y = C
   ·rw [if_pos e3, e3, h3]
   ·rw [if_neg e3]
    by_cases e4 : y = D
    ·rw [if_pos e4, e4, h4]
    ·rw [if_neg e4]
local macro_rules | `(tactic| walk_at "execs cons") => `(tactic| k_extra "W76")
theorem RowsIn.mono {nw nw' : List (Addr × Obj)} {Rw : Addr} {sz : Nat → Int} {need : Nat → List Nat} (h : RowsIn nw Rw sz need) (k : ∀ p ∈ nw, p ∈ nw') : RowsIn nw' Rw sz need := by
 (try kd_p)
 refine e2_3 h.rows ?_
 intro rs kR a b c
 refine ⟨rs, kR, k _ a, b, fun i r e => ?_⟩
 (try kd_p)
 refine e5_3 (c i r e) ?_
 intro Wn ts kk vs kv d1 d2 d3
 exact i5_3 Wn ts kk vs kv (k _ d1) (k _ d2) d3
noncomputable def LawFn (w : World) (b : List Stmt) (cs : Scope) : Prop := ∃ oc od name qual params dV kV doc pm cdv ct an osl, (Mine.hd.heap_39 w.params).lookup 295 = some ⟨oc, od, .func (fnOf name qual params b cs dV kV doc pm an cdv ct), osl⟩
theorem LawFn.uniq {w : World} {b b' : List Stmt} {cs cs' : Scope} (h : LawFn w b cs) (h' : LawFn w b' cs') : b = b' ∧ cs = cs' := by
 (try kd_p)
 obtain ⟨_, _, _, _, _, _, _, _, _, _, _, _, _, e⟩ := h
 obtain ⟨_, _, _, _, _, _, _, _, _, _, _, _, _, e'⟩ := h'
 rw [e] at e'
 injection e' with e'
 injection e' with _ _ e' _
 injection e' with e'
 have h1 := congrArg FuncData.body e'
 have h2 := congrArg FuncData.scope e'
 exact ⟨by injection h1, h2⟩
noncomputable def base5 : List Int := [70, 1524417, 5, 6000064, 4000000]
noncomputable def padded (ns : List Int) : List Int := ns.take 5 ++ (List.replicate (5 - ((ns.take 5).length : Int)).toNat [(0 : Int)]).flatten
noncomputable def nmbs (ns : List Int) : List Int := List.zipWith (· + ·) base5 (padded ns)
theorem flat_len (n : Nat) (x : Int) : (List.replicate n [x]).flatten.length = n := by
 induction n with
 | zero => rfl
 | succ n ih => rw [List.replicate_succ, List.flatten_cons, List.length_append, ih, List.length_singleton]; exact Nat.add_comm _ _
theorem padded_len (ns : List Int) : (padded ns).length = 5 := by
 rw [padded, List.length_append, flat_len, List.length_take]
 exact o10 (Nat.min_le_left _ _)
theorem nmbs_len (ns : List Int) : (nmbs ns).length = 5 := by
 rw [nmbs, List.length_zipWith, padded_len]; rfl
theorem zw_take {f : Int → Int → Int} {as bs : List Int} {i : Nat} {a b : Int} (ha : as[i]? = some a) (hb : bs[i]? = some b) : (List.zipWith f as bs).take (i + 1) = (List.zipWith f as bs).take i ++ [f a b] := by
 rw [List.take_add_one, List.getElem?_zipWith, ha, hb]
 rfl
theorem lt_cons {a b : Addr} {o : Obj} {news : List (Addr × Obj)} (h : b < a) (hs : ∀ p ∈ news, p.1 < a) : ∀ p ∈ (b, o) :: news, p.1 < a := fun p hp => by
 rcases List.mem_cons.mp hp with rfl | hp
 ·exact h
 ·exact hs p hp
noncomputable def szOf (ns : List Int) (i : Nat) : Int := Int.fmod ((nmbs ns).getD i 0) 1000000
noncomputable def bitsOf (ns : List Int) (i : Nat) : Int := Int.fdiv ((nmbs ns).getD i 0) 1000000
noncomputable def needOf (ns : List Int) (i : Nat) : List Nat := waits i (bitsOf ns i)
noncomputable def RowsJ (ns : List Int) (i : Nat) (ys : List Value) (nw : List (Addr × Obj)) : Prop :=
 ∃ rs : List Addr, ys = rs.map Value.ref ∧ rs.length = i ∧ ∀ j r, rs[j]? = some r → ∃ Wn ts kk vs kv, (r, W.listOf #[.int (szOf ns j) ts, .ref Wn] kk) ∈ nw ∧ (Wn, W.listOf vs.toArray kv) ∈ nw ∧ IntsAre vs (nums (needOf ns j))
theorem RowsJ.mono {ns : List Int} {i : Nat} {ys : List Value} {nw nw' : List (Addr × Obj)} (h : RowsJ ns i ys nw) (k : ∀ p ∈ nw, p ∈ nw') : RowsJ ns i ys nw' := by
 (try kd_p)
 refine e1_3 h ?_
 (try clear h); intro rs a b c
 refine i1_3 rs a b (fun j r e => ?_)
 (try kd_p)
 refine e5_3 (c j r e) ?_
 intro Wn ts kk vs kv d1 d2 d3
 exact i5_3 Wn ts kk vs kv (k _ d1) (k _ d2) d3
theorem RowsJ.snoc {ns : List Int} {i : Nat} {ys : List Value} {nw : List (Addr × Obj)} {r Wn : Addr} {z : Int} {ts : Tok} {kk kv : Nat} {vs : List Value} (h : RowsJ ns i ys nw) (hz : szOf ns i = z) (h1 : (r, W.listOf #[.int z ts, .ref Wn] kk) ∈ nw) (h2 : (Wn, W.listOf vs.toArray kv) ∈ nw) (h3 : IntsAre vs (nums (needOf ns i))) : RowsJ ns (i + 1) (ys ++ [.ref r]) nw := by
 subst hz
 (try kd_p)
 refine e1_3 h ?_
 (try clear h); intro rs hz1 hz2 c
 subst hz1
 subst hz2
 refine i1_3 (rs ++ [r]) (by rw [List.map_append]; rfl) (by rw [List.length_append]; rfl) (fun j q e => ?_)
 by_cases hj : j < rs.length
 ·rw [List.getElem?_append_left hj] at e
  exact c j q e
 ·rw [List.getElem?_append_right (by exact Nat.le_of_not_lt hj)] at e
  by_cases hj2 : j = rs.length
  ·subst hj2
   rw [Nat.sub_self] at e
   cases e
   exact i5_3 Wn ts kk vs kv h1 h2 h3
  ·(try kd_p)
   obtain ⟨n, hn⟩ : ∃ n, j - rs.length = n + 1 := ⟨j - rs.length - 1, by (exact o2 hj hj2)⟩
   rw [hn] at e
   cases e
theorem choose_list {α : Type} {P : Nat → α → Prop} : ∀ n : Nat, (∀ j < n, ∃ x, P j x) → ∃ l : List α, l.length = n ∧ ∀ j x, l[j]? = some x → P j x
 | 0, _ => ⟨[], rfl, fun j x e => by cases e⟩
 | n + 1, h => by
  (try kd_p)
  refine e1_2 (choose_list n fun j hj => h j (Nat.lt_succ_of_lt hj)) ?_
  intro l hl hp
  refine e1_1 (h n (Nat.lt_succ_self n)) ?_
  intro x hx
  refine i1_2 (l ++ [x]) (by rw [List.length_append, hl]; rfl) (fun j y e => ?_)
  by_cases hj : j < l.length
  ·rw [List.getElem?_append_left hj] at e
   exact hp j y e
  ·have hlt := (List.getElem?_eq_some_iff.mp e).1
   rw [List.length_append, List.length_singleton] at hlt
   have hjn : j = l.length := by exact o67 hlt hj
   subst hjn
   rw [List.getElem?_append_right (Nat.le_refl _), Nat.sub_self] at e
   cases e
   rw [hl]
   exact hx
theorem RowsJ.tab {ns : List Int} {i : Nat} {ys : List Value} {nw : List (Addr × Obj)} {D : Addr} {k : Nat} (h : RowsJ ns i ys nw) (hD : (D, W.listOf ys.toArray k) ∈ nw) :
  ∃ rs vw, ys = rs.map Value.ref ∧ rs.length = i ∧ RowAt D rs vw nw ∧ ∀ j a b, vw[j]? = some (a, b) → ∃ ts Wn vs kv, a = .int (szOf ns j) ts ∧ b = .ref Wn ∧ (Wn, W.listOf vs.toArray kv) ∈ nw ∧ IntsAre vs (nums (needOf ns j)) := by
 (try kd_p)
 refine e1_3 h ?_
 (try clear h); intro rs hz3 hi c
 subst hz3
 obtain ⟨vw, hvl, hv⟩ := choose_list (α := Value × Value) (P := fun j ab => ∃ r ts Wn kk vs kv, rs[j]? = some r ∧ ab = (.int (szOf ns j) ts, .ref Wn) ∧ (r, W.listOf #[.int (szOf ns j) ts, .ref Wn] kk) ∈ nw ∧ (Wn, W.listOf vs.toArray kv) ∈ nw ∧ IntsAre vs (nums (needOf ns j))) rs.length fun j hj => by
  refine e5_3 (c j rs[j] (List.getElem?_eq_getElem hj)) ?_
  intro Wn ts kk vs kv d1 d2 d3
  exact i7_5 _ (rs[j]) ts Wn kk vs kv (List.getElem?_eq_getElem hj) rfl d1 d2 d3
 refine i2_4 rs vw rfl hi ⟨⟨k, hD⟩, hvl.symm, fun j r a b e1 e2 => ?_⟩ (fun j a b e => ?_)
 ·(try kd_p)
  refine e6_5 (hv j _ e2) ?_
  intro r' ts Wn kk vs kv e3 e4 d1 _ _
  cases e1.symm.trans e3
  injection e4 with e5 e6
  subst e5 e6
  exact ⟨kk, d1⟩
 ·(try kd_p)
  refine e6_5 (hv j _ e) ?_
  intro r' ts Wn kk vs kv _ e4 _ d2 d3
  injection e4 with e5 e6
  exact i4_4 ts Wn vs kv e5 e6 d2 d3
theorem RowsJ.rows {ns : List Int} {ys : List Value} {nw : List (Addr × Obj)} {D : Addr} {k : Nat} (h : RowsJ ns 5 ys nw) (hD : (D, W.listOf ys.toArray k) ∈ nw) : RowsIn nw D (szOf ns) (needOf ns) := by
 (try kd_p)
 refine e1_3 h ?_
 (try clear h); intro rs hz4 hi c
 subst hz4
 exact ⟨rs, k, hD, hi, fun i r e => c i r e⟩
noncomputable def pkN (ns : List Int) (i : Nat) : List Nat := (List.range i).flatMap fun j => (szOf ns j).toNat :: (needOf ns j).length :: needOf ns j
theorem pkN_succ (ns : List Int) (i : Nat) : pkN ns (i + 1) = pkN ns i ++ ((szOf ns i).toNat :: (needOf ns i).length :: needOf ns i) := by
 unfold pkN
 rw [List.range_succ, List.flatMap_append]
 simp
theorem szOf_nn (ns : List Int) (i : Nat) : 0 ≤ szOf ns i ∧ szOf ns i < 1000000 := ⟨Int.fmod_nonneg_of_pos _ (by decide), Int.fmod_lt_of_pos _ (by decide)⟩
theorem extra_len (k : Nat) (b : Int) : (extra k b).length ≤ 1 := by
 unfold extra
 split
 ·exact Nat.le_refl _
 ·split
  ·exact Nat.le_refl _
  ·exact Nat.zero_le _
theorem waits_len (k : Nat) (b : Int) : (waits k b).length ≤ k + 1 := by
 rw [waits, List.length_append]
 have h1 := List.length_filter_le (bitAt b) (List.range k)
 have h2 := extra_len k b
 rw [List.length_range] at h1
 exact Nat.add_le_add h1 h2
theorem waits_lt {k : Nat} (hk : k < 5) (b : Int) : ∀ j ∈ waits k b, j < 5 := by
 intro j hj
 rw [waits] at hj
 rcases List.mem_append.mp hj with hj | hj
 ·have := List.mem_range.mp (List.mem_filter.mp hj).1
  exact Nat.lt_trans this (Nat.lt_of_lt_of_le hk (by decide))
 ·unfold extra at hj
  split at hj
  ·rw [List.mem_singleton.mp hj]; exact Nat.mod_lt _ (by decide)
  ·split at hj
   ·rw [List.mem_singleton.mp hj]; exact hk
   ·cases hj
theorem pkN_len (ns : List Int) : ∀ i ≤ 5, (pkN ns i).length ≤ 8 * i
 | 0, _ => Nat.le_refl _
 | i + 1, h => by
  have h1 := pkN_len ns i (by exact o128 h)
  have h2 := waits_len i (bitsOf ns i)
  rw [pkN_succ, List.length_append, List.length_cons, List.length_cons, needOf]
  exact o38 h1 h2 h
theorem pkN_lt (ns : List Int) : ∀ i ≤ 5, ∀ x ∈ pkN ns i, x < 1000000
 | 0, _, x, hx => by cases hx
 | i + 1, h, x, hx => by
  rw [pkN_succ] at hx
  rcases List.mem_append.mp hx with hx | hx
  ·exact pkN_lt ns i (by exact o128 h) x hx
  ·have h1 := szOf_nn ns i
   have h2 := waits_len i (bitsOf ns i)
   rcases List.mem_cons.mp hx with rfl | hx
   ·exact o130 h1
   ·rcases List.mem_cons.mp hx with rfl | hx
    ·rw [needOf]; exact o133 ‹_› ‹_›
    ·have := waits_lt (k := i) (by exact Nat.le_trans h (by decide)) (bitsOf ns i) x hx
     exact Nat.lt_of_lt_of_le this (by decide)
theorem wire_le : ∀ xs : List Nat, (∀ x ∈ xs, x < 1000000) → (wire xs).length ≤ 4 * xs.length
 | [], _ => Nat.le_refl _
 | x :: r, h => by
  have h1 := wire_le r fun y hy => h y (.tail _ hy)
  have h2 := octs_len (h x (.head _))
  rw [wire_cons, List.length_append, List.length_cons]
  exact o54 h1 h2
noncomputable def T2End (h₀ : Heap) (L : Addr) (m : Str → Option Value) (s : Shared) (nw new₀ : List (Addr × Obj)) (K : Addr → List Value → Nat → List (Addr × Obj) → Prop) (xv : Value) (s₃ : Shared) : Prop := ∃ l vs k, xv = .ref l ∧ CEnd h₀ L m s nw new₀ (K l vs k) s₃
theorem t2_wrap {M : Model} {A : Around} {t : Sem Value} {E : Value → Shared → Prop} {s s₀ : Shared} {h₀ : Heap} {L : Addr} {m : Str → Option Value} {nw new₀ : List (Addr × Obj)} {K : Addr → List Value → Nat → List (Addr × Obj) → Prop} (h : wpAny M A t (T2End h₀ L m s₀ nw new₀ K) E s) :
  wpAny M A t (fun xv s₃ => ∃ l vs k, xv = .ref l ∧ CEnd h₀ L m s₀ nw new₀ (K l vs k) s₃) E s := h
theorem nums_cons2 {ns : List Int} {i : Nat} {n : Nat} (h : n = (needOf ns i).length) : [szOf ns i, (n : Int)] ++ nums (needOf ns i) = nums ((szOf ns i).toNat :: (needOf ns i).length :: needOf ns i) := by
 subst h
 have h1 := (szOf_nn ns i).1
 show [szOf ns i, ((needOf ns i).length : Int)] ++ nums (needOf ns i) = ((szOf ns i).toNat : Int) :: ((needOf ns i).length : Int) :: nums (needOf ns i)
 rw [Int.toNat_of_nonneg h1]
 rfl
theorem news_sub {h₀ h : Heap} {L : Addr} {l l' : List (Addr × Obj)} (N : News h₀ L h l) (k : ∀ p ∈ l', p ∈ l) : News h₀ L h l' := fun p hp => N p (k p hp)
noncomputable def LPA (w : World) (b : List Stmt) (cs : Scope) : Prop := ∀ {dp un : Nat} {gd : Option (List Code)} {cn : Str} {a : Addr} {ccd : Value} {A₀ : Around} {base h₀ : Heap} {L : Addr} {m : Str → Option Value} {news : List (Addr × Obj)} {s : Shared} {mean : ExcName → Option Value} {mg mb : Str → Option Value} {Q : Flow → Shared → Prop} {E : Value → Shared → Prop}
  (B : Below A₀ base [] h₀) (KX : Frag.In (Mine.hd.heap_39 w.params) h₀) (N : News h₀ L s.heap news) (T : Top Mine.hd.view_39 (looseW Mine.hd.view_39 [Str.ofString "_NodeInfo"]) mean mg mb h₀) (hk : cs.kind = .function) (XB : Frag.In (Mine.hd.heap_39 w.params) base) (TB : Top Mine.hd.view_39 (looseW Mine.hd.view_39 [Str.ofString "_NodeInfo"]) mean mg mb base) (KD : KtsDicts (([] : List Env).filterMap (·.frame)) h₀) {Sc C : Addr} {oC : Obj} {cm : Option Value} {sv : List Value} {ns : List Int} (hnd : ND news) (hSc : h₀.IsList Sc sv.toArray) (hsv : IntsAre sv ns) (hlen : ns.length ≤ 63) (hcell : (C, oC) ∈ news) (hoC : oC.data = .cell cm)
  (F : Fr h₀ L s.heap (fun y => if y = Str.ofString "script" then some (.ref Sc) else m y))
  (hnext : ∀ (h₀' : Heap) (Rw Pk Rd : Addr) (pv rv : List Value) (kp kr : Nat) (m' : Str → Option Value) (nw' : List (Addr × Obj)) (h' : Heap) (tk' : Nat), Gr A₀ base [] (Mine.hd.heap_39 w.params) Mine.hd.view_39 (looseW Mine.hd.view_39 [Str.ofString "_NodeInfo"]) mean mg mb h₀ h₀' →
   Fr h₀' L h' (fun y => if y = Str.ofString "rows" then some (.ref Rw) else if y = Str.ofString "packed" then some (.ref Pk) else if y = Str.ofString "read" then some (.ref Rd) else if y = Str.ofString "script" then some (.ref Sc) else m' y) → News h₀' L h' nw' → ND nw' → (∀ p ∈ news, p ∈ nw') → RowsIn nw' Rw (szOf ns) (needOf ns) →
   (Pk, W.listOf pv.toArray kp) ∈ nw' → IntsAre pv (nums (pkN ns 5)) → (Rd, W.listOf rv.toArray kr) ∈ nw' → IntsAre rv (nums (pkN ns 5)) → wpAny (model PySem.Challenge.rw_ik0081_01.prog w) (ktrTop dp un gd cn cs L a ccd [(Str.ofString "files", C)] []) (execs (b.drop 4) (envX cn cs L a ccd [(Str.ofString "files", C)])) Q E { s with heap := h', toks := tk' })
  (hd : dp + 60 < recursionLimit) (hu : un + 600 < cLine) (hE : PassesOwn (model PySem.Challenge.rw_ik0081_01.prog w) (ktrTop dp un gd cn cs L a ccd [(Str.ofString "files", C)] []) (envX cn cs L a ccd [(Str.ofString "files", C)]) E),
  wpAny (model PySem.Challenge.rw_ik0081_01.prog w) (ktrTop dp un gd cn cs L a ccd [(Str.ofString "files", C)] []) (execs b (envX cn cs L a ccd [(Str.ofString "files", C)])) Q E s
theorem law_A (w : World) : ∃ b cs, LawFn w b cs ∧ LPA w b cs := by
 refine i2_2 _ _ ⟨_, _, _, _, _, _, _, _, _, _, _, _, _, by k_is⟩ ?_
 intro dp un gd cn a ccd A₀ base h₀ L m news s mean mg mb Q E B KX N T hk XB TB KD Sc C oC cm sv ns hnd hSc hsv hlen hcell hoC F hnext hd hu hE
 simp only [List.drop_succ_cons, List.drop_zero] at hnext
 (try kd_p)
 k_steps
 rename News h₀ L _ _ => N1
 rename IntsAre _ (List.take 5 ns ++ _) => hI
 rename Fr h₀ L _ _ => F1
 rename _ ∧ _ ∧ _ ∧ _ ∧ _ ∧ AllLt _ news => l9
 rename_i l1 _ l2 D3 _ _ _ _ _ l3 l4 _ l5 D5 _ _ _ _ _ l6 D6 _ _ _ _ _ _ _ l7 D7 wsv _
 all_goals (try kd_p)
 have N2 : News h₀ L _ ((D7, W.listOf wsv.toArray 0) :: (l1, W.listOf #[Value.int 70 s.toks, Value.int 1524417 (s.toks + 1), Value.int 5 (s.toks + 1 + 1), Value.int 6000064 (s.toks + 1 + 1 + 1), Value.int 4000000 (s.toks + 1 + 1 + 1 + 1)] 0) :: news) := news_sub N1 fun p hp => by
  rcases List.mem_cons.mp hp with rfl | hp
  ·exact .head _
  ·exact .tail _ (.tail _ (.tail _ (.tail _ (.tail _ hp))))
 have hn2 := (hnd.cons l2).cons (o := W.listOf wsv.toArray 0) (lt_cons (o := W.listOf #[Value.int 70 s.toks, Value.int 1524417 (s.toks + 1), Value.int 5 (s.toks + 1 + 1), Value.int 6000064 (s.toks + 1 + 1 + 1), Value.int 4000000 (s.toks + 1 + 1 + 1 + 1)] 0) l9.2.2.2.2.1 (allLt_mem l9.2.2.2.2.2))
 clear N1
 replace hI : IntsAre wsv (padded ns) := hI
 have hwl := hI.length
 rw [padded_len] at hwl
 have hb5 : IntsAre [Value.int 70 s.toks, Value.int 1524417 (s.toks + 1), Value.int 5 (s.toks + 1 + 1), Value.int 6000064 (s.toks + 1 + 1 + 1), Value.int 4000000 (s.toks + 1 + 1 + 1 + 1)] base5 := .cons _ _ (.cons _ _ (.cons _ _ (.cons _ _ (.cons _ _ .nil))))
 refine k_zip (fun i ys nw => nw = [] ∧ IntsAre ys ((nmbs ns).take i)) rfl rfl rfl rfl (by decide) F1 N2 hn2 (.tail _ (.head _)) rfl ⟨_, rfl⟩ (.head _) rfl ⟨_, rfl⟩ ⟨rfl, .nil⟩ ?_ ?_ ?_
 ·intro i ys nw hi hR0
  (try kd_p)
  refine e0_2 hR0 ?_
  (try clear hR0); intro _ hJ
  have h1 := hJ.length
  rw [List.length_take, nmbs_len] at h1
  rw [sizeLine_eq]
  exact ub1 h1 (ub5 (by decide))
 ·intro gg C2 nw0 hsub i ys new₀ nw oC2 m₂ h tk E' hi hB hoC2 hJ sub0 sub1 hC ndw F3 N3
  (try kd_p)
  refine e0_2 hJ ?_
  (try clear hJ); intro hz5 hJ
  subst hz5
  refine e2_3 hB ?_
  (try clear hB); intro va vb hz6 hma hmb
  first | refine e1_1 (hz6) ?_ | refine e0_2 (hz6) ?_
  intro ha hb
  have hi5 : i < 5 := by
   have := (List.getElem?_eq_some_iff.mp (show [Value.int 70 s.toks, Value.int 1524417 (s.toks + 1), Value.int 5 (s.toks + 1 + 1), Value.int 6000064 (s.toks + 1 + 1 + 1), Value.int 4000000 (s.toks + 1 + 1 + 1 + 1)][i]? = some va by simpa using ha)).1
   simpa using this
  (try kd_p)
  obtain ⟨xa, hxa⟩ : ∃ xa, base5[i]? = some xa := ⟨_, List.getElem?_eq_getElem (show i < base5.length from hi5)⟩
  obtain ⟨xb, hxb⟩ : ∃ xb, (padded ns)[i]? = some xb := ⟨_, List.getElem?_eq_getElem (by rw [padded_len]; exact hi5)⟩
  refine e1_1 (hb5.get i xa hxa) ?_
  intro ta hva
  (try kd_p)
  refine e1_1 (hI.get i xb hxb) ?_
  intro tb hvb
  rw [List.getElem?_toArray] at hb
  have ha' : [Value.int 70 s.toks, Value.int 1524417 (s.toks + 1), Value.int 5 (s.toks + 1 + 1), Value.int 6000064 (s.toks + 1 + 1 + 1), Value.int 4000000 (s.toks + 1 + 1 + 1 + 1)][i]? = some va := by simpa using ha
  cases ha'.symm.trans hva
  cases hb.symm.trans hvb
  refine wpAny_tests_nil ?_
  try dsimp only
  (try kd_p)
  k_steps
  all_goals (try kd_p)
  refine i3_7 _ _ ([]) rfl (by k_asm) (by k_asm) (fun p hp => nomatch hp) List.nodup_nil rfl ?_
  rw [nmbs, zw_take hxa hxb]
  exact hJ.append (.cons _ _ .nil)
 ·intro gg nw0 hsub D8 h8 tk8 ys new F3 N3 hn3 hJ
  (try kd_p)
  refine e0_2 hJ ?_
  (try clear hJ); intro hz7 hJ
  subst hz7
  rw [show min (([Value.int 70 s.toks, Value.int 1524417 (s.toks + 1), Value.int 5 (s.toks + 1 + 1), Value.int 6000064 (s.toks + 1 + 1 + 1), Value.int 4000000 (s.toks + 1 + 1 + 1 + 1)].toArray).size) wsv.toArray.size = (nmbs ns).length by rw [List.size_toArray, List.size_toArray, hwl, nmbs_len]; rfl, List.take_length] at hJ
  rw [List.nil_append] at N3 hn3
  (try kd_p)
  k_steps
  all_goals (try kd_p)
  have hyl := hJ.length
  rw [nmbs_len] at hyl
  refine k_enum (o := PyProof.Rows.LCg.lst ys) (its := ys.toArray) (fun i zs nw => RowsJ ns i zs nw) rfl rfl rfl rfl (by decide) F3 N3 hn3 (.head _) rfl ⟨_, rfl⟩ ⟨[], rfl, rfl, fun j r e => by cases e⟩ ?_ ?_ ?_
  ·intro i zs nw hi hR0
   (try kd_p)
   refine e1_3 hR0 ?_
   (try clear hR0); intro rs hz8 hz9 _
   subst hz8
   subst hz9
   rw [List.length_map, sizeLine_eq]
   rw [List.size_toArray] at hi
   exact Nat.le_trans hi (ub1 hyl (by decide))
  ·intro gg C2 i zs new₀ nw oC2 m₂ h tk E' hi hB hoC2 hJ4 sub0 sub1 hC ndw F4 N4
   (try kd_p)
   refine e2_3 hB ?_
   (try clear hB); intro va vb hz10 hma hmb
   obtain ⟨ta, rfl, hb⟩ := hz10
   rw [List.size_toArray, hyl] at hi
   (try kd_p)
   obtain ⟨x, hx⟩ : ∃ x, (nmbs ns)[i]? = some x := ⟨_, List.getElem?_eq_getElem (by rw [nmbs_len]; exact hi)⟩
   refine e1_1 (hJ.get i x hx) ?_
   intro tx hvx
   rw [List.getElem?_toArray] at hb
   cases hb.symm.trans hvx
   refine wpAny_tests_nil ?_
   try dsimp only
   (try kd_p)
   k_steps
   all_goals (try kd_p)
   rename IntsAre _ (nums (waits i _)) => hI5
   rename Fr h₀ L _ _ => F5
   rename News h₀ L _ _ => N5
   rename _ ∧ AllLt _ nw => l5
   rename ∀ p ∈ nw, _ => l6
   have hxd : (nmbs ns).getD i 0 = x := by rw [List.getD_eq_getElem?_getD, hx]; rfl
   refine i3_6 _ _ ([(_, _), (_, _)]) rfl F5 N5 ?_ ?_ ((hJ4.mono fun p hp => List.mem_append_right _ hp).snoc (by rw [szOf, hxd]) (.head _) (.tail _ (.head _)) ?_)
   ·intro p hp q hq
    rcases List.mem_cons.mp hp with rfl | hp
    ·exact (Nat.ne_of_lt (allLt_mem l5.2 q hq)).symm
    ·rw [List.mem_singleton.mp hp]
     exact (Nat.ne_of_lt (l6 q hq)).symm
   ·exact List.nodup_cons.mpr ⟨fun h => Nat.ne_of_lt l5.1 (List.mem_singleton.mp h).symm, List.nodup_cons.mpr ⟨List.not_mem_nil, List.nodup_nil⟩⟩
   ·rw [needOf, bitsOf, hxd]
    exact hI5
  ·intro gg D9 h9 tk9 zs new F4 N4 hn4 hJ4
   rw [List.size_toArray, hyl] at hJ4
   have hJ5 : RowsJ ns 5 zs ((D9, LCg.lst zs) :: (new ++ (D8, LCg.lst ys) :: nw0)) := hJ4.mono fun p hp => .tail _ (List.mem_append_left _ hp)
   have hRows : RowsIn ((D9, LCg.lst zs) :: (new ++ (D8, LCg.lst ys) :: nw0)) D9 (szOf ns) (needOf ns) := hJ5.rows (.head _)
   (try kd_p)
   refine e2_4 (hJ5.tab (.head _)) ?_
   intro rs vw hzs hrl hRA hvw
   refine gen1 ((D9, LCg.lst zs) :: (new ++ (D8, LCg.lst ys) :: nw0)) ?_
   intro nw1 enw
   have hnews1 : ∀ p ∈ news, p ∈ nw1 := fun p hp => by
    rw [enw]
    exact .tail _ (List.mem_append_right _ (.tail _ (hsub _ (.tail _ (.tail _ hp)))))
   rw [← enw] at N4 hn4 hRows hRA hvw
   clear enw hJ4 hJ5
   (try kd_p)
   k_steps
   all_goals (try kd_p)
   refine k_rows (fun i ys _ => IntsAre ys (nums (pkN ns i))) rfl rfl rfl rfl (by decide) F4 N4 hn4 hRA .nil ?_ ?_ ?_
   ·intro i ws nw hi hJ
    have h1 := hJ.length
    rw [List.length_map] at h1
    have h2 := pkN_len ns i (by exact Nat.le_trans hi (ub1 hrl (by decide)))
    rw [sizeLine_eq]
    exact ub1 h1 (Nat.le_trans h2 (ub11 (Nat.le_trans hi (ub1 hrl (by decide)))))
   ·intro gg C2 i zs new₀ nw oC2 m₂ h tk E' hi hB hoC2 hJ6 sub0 sub1 hC ndw F5 N5
    (try kd_p)
    refine e2_3 hB ?_
    (try clear hB); intro va vb hv hma hmb
    refine e4_4 (hvw i va vb hv) ?_
    intro ts Wn vs kv hz11 hz12 hWn hvs
    subst hz11
    subst hz12
    have hWn' := sub0 _ hWn
    have hvl := hvs.length
    rw [List.length_map] at hvl
    have hwl := waits_len i (bitsOf ns i)
    have hnl : (needOf ns i).length ≤ 6 := by rw [needOf]; exact Nat.le_trans hwl (ub15 hi (ub1 hrl (by decide)))
    have hnl2 : (nums (needOf ns i)).length ≤ 6 := by rw [List.length_map]; exact hnl
    try dsimp only
    refine t2_wrap ?_
    (try kd_p)
    k_steps
    all_goals (try kd_p)
    rename IntsAre _ (_ ++ nums (needOf ns i)) => hI7
    rename Fr h₀ L _ _ => F6
    rename News h₀ L _ _ => N6
    rename _ ∧ AllLt _ nw => l5
    rename ∀ p ∈ nw, _ => l6
    have hl7 := hI7.length
    rw [nums_cons2 hvl] at hI7
    refine i3_2 _ _ _ rfl (i3_8 _ _ ([(_, _), (_, _)]) rfl F6 N6 ?_ ?_ (.head _) ?_ ?_)
    ·intro p hp q hq
     rcases List.mem_cons.mp hp with rfl | hp
     ·exact (Nat.ne_of_lt (allLt_mem l5.2 q hq)).symm
     ·rw [List.mem_singleton.mp hp]
      exact (Nat.ne_of_lt (l6 q hq)).symm
    ·exact List.nodup_cons.mpr ⟨fun h => Nat.ne_of_lt l5.1 (List.mem_singleton.mp h).symm, List.nodup_cons.mpr ⟨List.not_mem_nil, List.nodup_nil⟩⟩
    ·have h1 := hJ6.length
     rw [List.length_map] at h1
     have h2 := pkN_len ns i (by exact ub3 hi (ub1 hrl (by decide)))
     rw [List.length_append, List.length_cons, List.length_cons, List.length_nil] at hl7
     rw [sizeLine_eq]
     exact ub10 (ub1 h1 (Nat.le_trans h2 (ub11 (ub3 hi (ub1 hrl (by decide)))))) (ub1 hl7 (ub12 hl7 (ub1 hl7 (ub12 hl7 (ub1 hl7 (ub10 (by decide) (Nat.le_trans hnl2 (by decide))))))))
    ·try dsimp only
     rw [pkN_succ, nums, List.map_append]
     exact hJ6.append hI7
   ·intro gg D10 h10 tk10 ws new F5 N5 hn5 hJ6
    rw [hrl] at hJ6
    (try kd_p)
    refine gen1 ((D10, LCg.lst ws) :: (new ++ nw1)) ?_
    intro nw2 enw2
    have hsub2 : ∀ p ∈ nw1, p ∈ nw2 := fun p hp => by
     rw [enw2]
     exact .tail _ (List.mem_append_right _ hp)
    have hD10 : (D10, W.listOf ws.toArray ws.length) ∈ nw2 := by
     rw [enw2]
     exact .head _
    rw [← enw2] at N5 hn5
    clear enw2
    have hwl := hJ6.length
    have hpl := pkN_len ns 5 (Nat.le_refl _)
    have hpx := pkN_lt ns 5 (Nat.le_refl _)
    rw [List.length_map] at hwl
    (try kd_p)
    refine gen1 (pkN ns 5) ?_
    intro ps eps
    rw [← eps] at hJ6 hwl hpl hpx
    (try kd_p)
    k_steps
    all_goals (try kd_p)
    refine k_list (o := W.listOf ws.toArray ws.length) (its := ws.toArray) (fun i ys _ => IntsAre ys (nums (wire (ps.take i)))) rfl rfl rfl F5 N5 hn5 hD10 rfl ⟨_, rfl⟩ .nil ?_ ?_ ?_
    ·intro i ys nw hi hJ
     have h1 := hJ.length
     have h2 := wire_le (ps.take i) fun x hx => hpx x (List.mem_of_mem_take hx)
     rw [List.length_map] at h1
     rw [List.length_take] at h2
     rw [sizeLine_eq]
     exact ub1 h1 (Nat.le_trans h2 (ub11 (ub5 (Nat.le_trans hpl (by decide)))))
    ·intro gg C2 i ys new₀ nw oC2 m₂ h tk E' hi hB hoC2 hJ7 sub0 sub1 hC ndw F6 N6
     (try kd_p)
     refine e1_2 hB ?_
     (try clear hB); intro v hv hm
     rw [List.getElem?_toArray] at hv
     have hi' : i < ps.length := by rw [← hwl]; exact (List.getElem?_eq_some_iff.mp hv).1
     (try kd_p)
     obtain ⟨x, hx⟩ : ∃ x, ps[i]? = some x := ⟨_, List.getElem?_eq_getElem hi'⟩
     have hx6 := hpx x (List.mem_of_getElem? hx)
     (try kd_p)
     first | refine e1_1 (hJ6.get i x (by rw [List.getElem?_map, hx]; rfl)) ?_ | refine e0_2 (hJ6.get i x (by rw [List.getElem?_map, hx]; rfl)) ?_
     intro tx hvx
     cases hv.symm.trans hvx
     try dsimp only
     refine t2_wrap ?_
     (try kd_p)
     k_steps
     all_goals (try kd_p)
     rename IntsAre _ (nums (octs x)) => hI7
     rename Fr h₀ L _ _ => F7
     rename News h₀ L _ _ => N7
     rename ∀ p ∈ nw, _ => l6
     refine i3_2 _ _ _ rfl (i3_8 _ _ ([(_, _)]) rfl F7 N7 ?_ ?_ (.head _) ?_ ?_)
     ·intro p hp q hq
      rw [List.mem_singleton.mp hp]
      exact (Nat.ne_of_lt (l6 q hq)).symm
     ·exact List.nodup_cons.mpr ⟨List.not_mem_nil, List.nodup_nil⟩
     ·have h1 := hJ7.length
      have h2 := wire_le (ps.take i) fun x hx => hpx x (List.mem_of_mem_take hx)
      have h3 := octs_len hx6
      have h4 := hI7.length
      rw [List.length_map] at h1 h4
      rw [List.length_take] at h2
      rw [sizeLine_eq]
      exact ub10 (ub1 h1 (Nat.le_trans h2 (ub11 (ub5 (Nat.le_trans hpl (by decide)))))) (ub1 h4 (Nat.le_trans h3 (by decide)))
     ·rw [List.take_add_one, hx, Option.toList_some, wire_app, nums, List.map_append, show wire [x] = octs x by simp [wire]]
      exact hJ7.append hI7
    ·intro gg D11 h11 tk11 os new F6 N6 hn6 hJ7
     rw [List.size_toArray, hwl, List.take_length] at hJ7
     have hw2 := wire_le ps hpx
     (try kd_p)
     refine gen1 ((D11, LCg.lst os) :: (new ++ nw2)) ?_
     intro nw3 enw3
     have hsub3 : ∀ p ∈ nw2, p ∈ nw3 := fun p hp => by
      rw [enw3]
      exact .tail _ (List.mem_append_right _ hp)
     have hD11 : (D11, W.listOf os.toArray os.length) ∈ nw3 := by
      rw [enw3]
      exact .head _
     rw [← enw3] at N6 hn6
     clear enw3
     have hpz : ps.length ≤ 100 := by exact Nat.le_trans hpl (by decide)
     have hwz : (wire ps).length ≤ 1000 := by exact Nat.le_trans hw2 (ub11 (Nat.le_trans hpz (by decide)))
     (try kd_p)
     k_steps
     rename Gr _ _ _ _ _ _ _ _ _ _ _ => G4
     rename IntsAre _ (nums ps) => hI7
     rename Fr _ L _ _ => F7
     rename News _ L _ _ => N7
     rename ND ((_, _) :: nw3) => hn7
     rename_i g' D' ws' k' h1 tk1 h2
     all_goals (try kd_p)
     obtain ⟨m7, em7, F8⟩ : ∃ m7, m7 = _ ∧ Fr g' L h2 m7 := ⟨_, rfl, F7⟩
     have e1 : m7 (Str.ofString "rows") = some (.ref D9) := by rw [em7]; rfl
     have e2 : m7 (Str.ofString "packed") = some (.ref D10) := by rw [em7]; rfl
     have e3 : m7 (Str.ofString "read") = some (.ref D') := by rw [em7]; rfl
     have e4 : m7 (Str.ofString "script") = some (.ref Sc) := by rw [em7]; rfl
     clear em7 F7
     have F9 := fr_map F8 (fun y => congrFun (put4 e1 e2 e3 e4) y)
     have hI8 : IntsAre ws (nums (pkN ns 5)) := by rw [← eps]; exact hJ6
     have hI9 : IntsAre ws' (nums (pkN ns 5)) := by rw [← eps]; exact hI7
     have hR8 : RowsIn ((D', W.listOf ws'.toArray k') :: nw3) D9 (szOf ns) (needOf ns) := hRows.mono fun p hp => .tail _ (hsub3 _ (hsub2 _ hp))
     have hN8 : ∀ p ∈ news, p ∈ ((D', W.listOf ws'.toArray k') :: nw3) := fun p hp => .tail _ (hsub3 _ (hsub2 _ (hnews1 p hp)))
     have fin := @hnext g' D9 D10 D' ws ws' ws.length k' m7 ((D', W.listOf ws'.toArray k') :: nw3) h2 (tk1 + 1) G4 F9 N7 hn7 hN8 hR8 (.tail _ (hsub3 _ hD10)) hI8 (.head _) hI9
     clear hnext
     refine ws_out ?_
     (try kd_p)
     try dsimp only
     set_option maxHeartbeats 100000 in
     with_reducible exact fin
end
section
local macro_rules | `(tactic| walk_at "execs cons") => `(tactic| k_extra "W77")
noncomputable def Good (i : Nat) (x y : Str) : Prop := x.length ≤ 100 ∧ y.length ≤ 100 ∧ ∃ z, z = joinS x y ∧ z.length ≤ 100 ∧ 0 < z.length ∧ (Txt.join (Str.ofString "/") (normC z)).length ≤ 200 ∧ ((normC z).map (·.length)).sum + (normC z).length * (Str.ofString "/").length ≤ 16777216 ∧ (Txt.slice z (some 1) none).length + 2 ≤ sizeLine ∧
 (Txt.split (Txt.slice z (some 1) none) (Str.ofString "/")).length ≤ 100 ∧ (∀ c ∈ Txt.split (Txt.slice z (some 1) none) (Str.ofString "/"), c.length ≤ 100) ∧ Txt.slice z none (some 1) = Str.ofString "/" ∧ Txt.slice z (some 1) (some 2) ≠ Str.ofString "/" ∧ normS z = fname i
noncomputable def goodB (i : Nat) (x y : Str) : Bool := decide (x.length ≤ 100) && decide (y.length ≤ 100) && (let z := joinS x y; decide (z.length ≤ 100) && decide (0 < z.length) && decide ((Txt.join (Str.ofString "/") (normC z)).length ≤ 200) && decide (((normC z).map (·.length)).sum + (normC z).length * (Str.ofString "/").length ≤ 16777216) && decide ((Txt.slice z (some 1) none).length ≤ 1000) &&
 decide ((Txt.split (Txt.slice z (some 1) none) (Str.ofString "/")).length ≤ 100) && ((Txt.split (Txt.slice z (some 1) none) (Str.ofString "/")).all fun c => decide (c.length ≤ 100)) && (Txt.slice z none (some 1) == Str.ofString "/") && (Txt.slice z (some 1) (some 2) != Str.ofString "/") && (normS z == fname i))
theorem good_of {i : Nat} {x y : Str} (h : goodB i x y = true) : Good i x y := by
 unfold goodB at h
 simp only [Bool.and_eq_true, decide_eq_true_eq, List.all_eq_true, beq_iff_eq, bne_iff_ne] at h
 (try kd_p)
 refine e0_2 h ?_
 (try clear h); intro hz1 hz2
 first | refine e1_1 (hz1) ?_ | refine e0_2 (hz1) ?_
 intro h1 h2
 obtain ⟨⟨⟨⟨⟨⟨⟨⟨⟨h3, h4⟩, h5⟩, h6⟩, h7⟩, h8⟩, h9⟩, h10⟩, h11⟩, h12⟩ := hz2
 exact ⟨h1, h2, _, rfl, h3, h4, h5, h6, (by rw [sizeLine_eq]; (exact rm3 h7 (by decide))), h8, h9, h10, h11, h12⟩
noncomputable def PairsIn (nw : List (Addr × Obj)) (Pr : Addr) : Prop := ∃ ps k, (Pr, W.listOf (List.map Value.ref ps).toArray k) ∈ nw ∧ ps.length = 5 ∧ ∀ i r, ps[i]? = some r → ∃ x tx y ty, (r, ({ cls := .type "tuple", data := .seq #[.str x tx, .str y ty] } : Obj)) ∈ nw ∧ Good i x y
theorem pairs_in {nw : List (Addr × Obj)} {Pr r0 r1 r2 r3 r4 : Addr} {x0 y0 x1 y1 x2 y2 x3 y3 x4 y4 : Str} {t0 u0 t1 u1 t2 u2 t3 u3 t4 u4 : Tok} {k : Nat} (h : (Pr, W.listOf #[Value.ref r0, .ref r1, .ref r2, .ref r3, .ref r4] k) ∈ nw)
  (h0 : (r0, ({ cls := .type "tuple", data := .seq #[.str x0 t0, .str y0 u0] } : Obj)) ∈ nw) (h1 : (r1, ({ cls := .type "tuple", data := .seq #[.str x1 t1, .str y1 u1] } : Obj)) ∈ nw) (h2 : (r2, ({ cls := .type "tuple", data := .seq #[.str x2 t2, .str y2 u2] } : Obj)) ∈ nw) (h3 : (r3, ({ cls := .type "tuple", data := .seq #[.str x3 t3, .str y3 u3] } : Obj)) ∈ nw) (h4 : (r4, ({ cls := .type "tuple", data := .seq #[.str x4 t4, .str y4 u4] } : Obj)) ∈ nw)
  (g : (goodB 0 x0 y0 && goodB 1 x1 y1 && goodB 2 x2 y2 && goodB 3 x3 y3 && goodB 4 x4 y4) = true) : PairsIn nw Pr := by
 simp only [Bool.and_eq_true] at g
 (try kd_p)
 refine e0_2 g ?_
 (try clear g); intro hz3 g4
 obtain ⟨⟨⟨g0, g1⟩, g2⟩, g3⟩ := hz3
 refine i2_3 ([r0, r1, r2, r3, r4]) k h rfl (fun i r e => ?_)
 match i, e with
 | 0, e => cases e; exact ⟨_, _, _, _, h0, good_of g0⟩
 | 1, e => cases e; exact ⟨_, _, _, _, h1, good_of g1⟩
 | 2, e => cases e; exact ⟨_, _, _, _, h2, good_of g2⟩
 | 3, e => cases e; exact ⟨_, _, _, _, h3, good_of g3⟩
 | 4, e => cases e; exact ⟨_, _, _, _, h4, good_of g4⟩
 | n + 5, e => cases e
theorem nd_of {h₀ h : Heap} {L : Addr} {l : List (Addr × Obj)} (_ : News h₀ L h l) (h : ND l) : ND l := h
noncomputable def LPB (w : World) (b : List Stmt) (cs : Scope) : Prop := ∀ {dp un : Nat} {gd : Option (List Code)} {cn : Str} {a : Addr} {ccd : Value} {A₀ : Around} {base h₀ : Heap} {L : Addr} {m : Str → Option Value} {news : List (Addr × Obj)} {s : Shared} {mean : ExcName → Option Value} {mg mb : Str → Option Value} {Q : Flow → Shared → Prop} {E : Value → Shared → Prop} (B : Below A₀ base [] h₀) (KX : Frag.In (Mine.hd.heap_39 w.params) h₀) (N : News h₀ L s.heap news) (T : Top Mine.hd.view_39 (looseW Mine.hd.view_39 [Str.ofString "_NodeInfo"]) mean mg mb h₀) (hk : cs.kind = .function) (XB : Frag.In (Mine.hd.heap_39 w.params) base) (TB : Top Mine.hd.view_39 (looseW Mine.hd.view_39 [Str.ofString "_NodeInfo"]) mean mg mb base) (KD : KtsDicts (([] : List Env).filterMap (·.frame)) h₀) (hnd : ND news) {Sc C Rw Pk Rd : Addr} {sv : List Value} {ns : List Int} (hSc : h₀.IsList Sc sv.toArray) (hsv : IntsAre sv ns) (hlen : ns.length ≤ 63)
  (F : Fr h₀ L s.heap (fun y => if y = Str.ofString "rows" then some (.ref Rw) else if y = Str.ofString "packed" then some (.ref Pk) else if y = Str.ofString "read" then some (.ref Rd) else if y = Str.ofString "script" then some (.ref Sc) else m y))
  (hnext : ∀ (Pr : Addr) (m' : Str → Option Value) (nw' : List (Addr × Obj)) (h' : Heap) (tk' : Nat),
   Fr h₀ L h' (fun y => if y = Str.ofString "rows" then some (.ref Rw) else if y = Str.ofString "packed" then some (.ref Pk) else if y = Str.ofString "read" then some (.ref Rd) else if y = Str.ofString "pairs" then some (.ref Pr) else m' y) → News h₀ L h' nw' → ND nw' → (∀ p ∈ news, p ∈ nw') → PairsIn nw' Pr →
   wpAny (model PySem.Challenge.rw_ik0081_01.prog w) (ktrTop dp un gd cn cs L a ccd [(Str.ofString "files", C)] []) (execs (b.drop 6) (envX cn cs L a ccd [(Str.ofString "files", C)])) Q E { s with heap := h', toks := tk' })
  (hd : dp + 100 < recursionLimit) (hu : un + 900 < cLine) (hE : PassesOwn (model PySem.Challenge.rw_ik0081_01.prog w) (ktrTop dp un gd cn cs L a ccd [(Str.ofString "files", C)] []) (envX cn cs L a ccd [(Str.ofString "files", C)]) E),
  wpAny (model PySem.Challenge.rw_ik0081_01.prog w) (ktrTop dp un gd cn cs L a ccd [(Str.ofString "files", C)] []) (execs (b.drop 4) (envX cn cs L a ccd [(Str.ofString "files", C)])) Q E s
theorem law_B (w : World) : ∃ b cs, LawFn w b cs ∧ LPB w b cs := by
 refine ⟨_, _, ⟨_, _, _, _, _, _, _, _, _, _, _, _, _, by k_is⟩, ?_⟩
 intro dp un gd cn a ccd A₀ base h₀ L m news s mean mg mb Q E B KX N T hk XB TB KD hnd Sc C Rw Pk Rd sv ns hSc hsv hlen F hnext hd hu hE
 simp only [List.drop_succ_cons, List.drop_zero]
 simp only [List.drop_succ_cons, List.drop_zero] at hnext
 (try kd_p)
 k_steps
 all_goals (try kd_p)
 ·rename Fr h₀ L _ _ => F7
  rename News h₀ L _ _ => N7
  (try kd_p)
  obtain ⟨m7, em7, F8⟩ : ∃ m7, m7 = _ ∧ Fr h₀ L _ m7 := ⟨_, rfl, F7⟩
  have e1 : m7 (Str.ofString "rows") = some (.ref Rw) := by rw [em7]; rfl
  have e2 : m7 (Str.ofString "packed") = some (.ref Pk) := by rw [em7]; rfl
  have e3 : m7 (Str.ofString "read") = some (.ref Rd) := by rw [em7]; rfl
  have e4 := (congrFun em7 (Str.ofString "pairs")).trans (if_pos rfl)
  clear em7 F7
  have F9 := fr_map F8 (fun y => congrFun (put4 e1 e2 e3 e4) y)
  have hn7 := nd_of N7 (by (repeat (first | exact hnd | refine ND.cons ?_ (allLt_mem (by with_unfolding_all assumption)) | refine ND.cons ?_ (by assumption))))
  refine ws_out ?_
  (try kd_p)
  try dsimp only
  with_reducible refine @hnext _ _ _ _ _ F9 N7 hn7 ?_ ?_
  ·intro p hp
   exact .tail _ (.tail _ (.tail _ (.tail _ (.tail _ (.tail _ (.tail _ (.tail _ (.tail _ (.tail _ (.tail _ (.tail _ (.tail _ hp))))))))))))
  ·exact pairs_in (.head _) (.tail _ (.tail _ (.tail _ (.tail _ (.tail _ (.head _)))))) (.tail _ (.tail _ (.tail _ (.tail _ (.head _))))) (.tail _ (.tail _ (.tail _ (.head _)))) (.tail _ (.tail _ (.head _))) (.tail _ (.head _)) (by decide +kernel)
 ·rename Fr h₀ L _ _ => F7
  rename News h₀ L _ _ => N7
  (try kd_p)
  obtain ⟨m7, em7, F8⟩ : ∃ m7, m7 = _ ∧ Fr h₀ L _ m7 := ⟨_, rfl, F7⟩
  have e1 : m7 (Str.ofString "rows") = some (.ref Rw) := by rw [em7]; rfl
  have e2 : m7 (Str.ofString "packed") = some (.ref Pk) := by rw [em7]; rfl
  have e3 : m7 (Str.ofString "read") = some (.ref Rd) := by rw [em7]; rfl
  have e4 := (congrFun em7 (Str.ofString "pairs")).trans (if_pos rfl)
  clear em7 F7
  have F9 := fr_map F8 (fun y => congrFun (put4 e1 e2 e3 e4) y)
  have hn7 := nd_of N7 (by (repeat (first | exact hnd | refine ND.cons ?_ (allLt_mem (by with_unfolding_all assumption)) | refine ND.cons ?_ (by assumption))))
  refine ws_out ?_
  (try kd_p)
  try dsimp only
  with_reducible refine @hnext _ _ _ _ _ F9 N7 hn7 ?_ ?_
  ·intro p hp
   exact .tail _ (.tail _ (.tail _ (.tail _ (.tail _ (.tail _ (.tail _ hp))))))
  ·exact pairs_in (.tail _ (.head _)) (.tail _ (.tail _ (.tail _ (.tail _ (.tail _ (.tail _ (.head _))))))) (.tail _ (.tail _ (.tail _ (.tail _ (.tail _ (.head _)))))) (.tail _ (.tail _ (.tail _ (.tail _ (.head _))))) (.tail _ (.tail _ (.tail _ (.head _)))) (.tail _ (.tail _ (.head _))) (by decide +kernel)
end
section
local macro_rules | `(tactic| walk_at "execs cons") => `(tactic| k_extra "W78")
local macro_rules | `(tactic| walk_at "call ref") => `(tactic| k_extra "W79")
local macro_rules | `(tactic| walk_at "call ref") => `(tactic| k_extra "W80")
local macro_rules | `(tactic| walk_at "exec If") => `(tactic| k_extra "W81")
local macro_rules | `(tactic| walk_at "compareOp NotEq ref ref") => `(tactic| k_extra "W82")
local macro_rules | `(tactic| walk_at "compareOp NotEq ref ref") => `(tactic| k_extra "W52")
theorem put1 {m : Str → Option Value} {A : Str} {a : Option Value} (h1 : m A = a) : m = fun y => if y = A then a else m y := by
 funext y
 by_cases e1 : y = A
 ·rw [if_pos e1, e1, h1]
 ·rw [if_neg e1]
noncomputable def LPC (w : World) (b : List Stmt) (cs : Scope) : Prop := ∀ {dp un : Nat} {gd : Option (List Code)} {cn : Str} {a : Addr} {ccd : Value} {A₀ : Around} {base h₀ : Heap} {L : Addr} {m : Str → Option Value} {news : List (Addr × Obj)} {s : Shared} {mean : ExcName → Option Value} {mg mb : Str → Option Value} {Q : Flow → Shared → Prop} {E : Value → Shared → Prop} (B : Below A₀ base [] h₀) (KX : Frag.In (Mine.hd.heap_39 w.params) h₀) (N : News h₀ L s.heap news) (T : Top Mine.hd.view_39 (looseW Mine.hd.view_39 [Str.ofString "_NodeInfo"]) mean mg mb h₀) (hk : cs.kind = .function) (XB : Frag.In (Mine.hd.heap_39 w.params) base) (TB : Top Mine.hd.view_39 (looseW Mine.hd.view_39 [Str.ofString "_NodeInfo"]) mean mg mb base) (KD : KtsDicts (([] : List Env).filterMap (·.frame)) h₀) (hnd : ND news) {C Rw Pk Rd Pr : Addr} {oC : Obj} {cm : Option Value} {pv rv : List Value} {kp kr : Nat} {ps : List Nat} (hcell : (C, oC) ∈ news) (hoC : oC.data = .cell cm) (hP : (Pk, W.listOf pv.toArray kp) ∈ news) (hpv : IntsAre pv (nums ps)) (hR : (Rd, W.listOf rv.toArray kr) ∈ news) (hrv : IntsAre rv (nums ps)) (hpl : ps.length ≤ 100) (hPr : PairsIn news Pr)
  (F : Fr h₀ L s.heap (fun y => if y = Str.ofString "rows" then some (.ref Rw) else if y = Str.ofString "packed" then some (.ref Pk) else if y = Str.ofString "read" then some (.ref Rd) else if y = Str.ofString "pairs" then some (.ref Pr) else m y))
  (hnext : ∀ (Fl : Addr) (fv : List Value) (kf : Nat) (oC' : Obj) (m' : Str → Option Value) (nw' : List (Addr × Obj)) (h' : Heap) (tk' : Nat),
   Fr h₀ L h' (fun y => if y = Str.ofString "rows" then some (.ref Rw) else m' y) → News h₀ L h' nw' → ND nw' → (∀ a its k, (a, W.listOf its k) ∈ news → (a, W.listOf its k) ∈ nw') → (C, oC') ∈ nw' → oC'.data = .cell (some (.ref Fl)) → (Fl, W.listOf fv.toArray kf) ∈ nw' → FilesAre fv [0, 1, 2, 3, 4] →
   wpAny (model PySem.Challenge.rw_ik0081_01.prog w) (ktrTop dp un gd cn cs L a ccd [(Str.ofString "files", C)] []) (execs (b.drop 8) (envX cn cs L a ccd [(Str.ofString "files", C)])) Q E { s with heap := h', toks := tk' })
  (hd : dp + 100 < recursionLimit) (hu : un + 900 < cLine) (hE : PassesOwn (model PySem.Challenge.rw_ik0081_01.prog w) (ktrTop dp un gd cn cs L a ccd [(Str.ofString "files", C)] []) (envX cn cs L a ccd [(Str.ofString "files", C)]) E),
  wpAny (model PySem.Challenge.rw_ik0081_01.prog w) (ktrTop dp un gd cn cs L a ccd [(Str.ofString "files", C)] []) (execs (b.drop 6) (envX cn cs L a ccd [(Str.ofString "files", C)])) Q E s
theorem law_C (w : World) : ∃ b cs, LawFn w b cs ∧ LPC w b cs := by
 refine ⟨_, _, ⟨_, _, _, _, _, _, _, _, _, _, _, _, _, by k_is⟩, ?_⟩
 intro dp un gd cn a ccd A₀ base h₀ L m news s mean mg mb Q E B KX N T hk XB TB KD hnd C Rw Pk Rd Pr oC cm pv rv kp kr ps hcell hoC hP hpv hR hrv hpl hPr F hnext hd hu hE
 simp only [List.drop_succ_cons, List.drop_zero]
 simp only [List.drop_succ_cons, List.drop_zero] at hnext
 have hPr' := hPr
 (try kd_p)
 refine e2_3 hPr ?_
 (try clear hPr); intro prs kpr hPrm hprl hgood
 (try kd_p)
 k_steps
 all_goals (try kd_p)
 refine k_list (o := W.listOf (List.map Value.ref prs).toArray kpr) (its := (List.map Value.ref prs).toArray) (fun i ys _ => FilesAre ys (List.range i)) rfl rfl rfl F N hnd hPrm rfl ⟨_, rfl⟩ .nil ?_ ?_ ?_
 ·intro i ys nw hi hJ
  have h1 := hJ.length
  rw [List.length_range] at h1
  rw [List.size_toArray, List.length_map, hprl] at hi
  rw [sizeLine_eq]
  exact ub1 h1 (Nat.le_trans hi (by decide))
 ·intro gg C2 i ys new₀ nw oC2 m₂ h tk E' hi hB hoC2 hJ sub0 sub1 hC ndw F3 N3
  (try kd_p)
  refine e1_2 hB ?_
  (try clear hB); intro v hv hm
  rw [List.getElem?_toArray, List.getElem?_map] at hv
  (try kd_p)
  refine e1_2 (Option.map_eq_some_iff.mp hv) ?_
  intro r hr e
  subst e
  (try kd_p)
  refine e4_2 (hgood i r hr) ?_
  intro x tx y ty hT hg
  have hT2 := sub0 _ hT
  (try kd_p)
  obtain ⟨hx, hy, z, hz, g1, g2, g3, g4, g5, g6, g7, g8, g9, g10⟩ := hg
  refine wpAny_tests_nil ?_
  try dsimp only
  (try kd_p)
  k_steps
  all_goals (try kd_p)
  refine ws_out ?_
  (try kd_p)
  rw [← hz]
  k_dflt (refine' norm_spec ?zB ?zF ?zX ?zN ?zT ?zk g1 g2 g3 g4 g5 g6 g7 ?zn g8 g9 ?_ ?zd ?zu)
  case zB => k_asm
  case zF => k_asm
  case zX => k_asm
  case zN => k_asm
  case zT => k_asm
  case zk => exact rfl
  case zn => assumption
  case zd => ktr_room
  case zu => ktr_units
  intro t8 h8 tk8 F8 N8
  rw [g10]
  refine i3_6 _ _ ([]) rfl F8 N8 (fun p hp => nomatch hp) List.nodup_nil ?_
  rw [List.range_succ]
  exact hJ.snoc i _
 ·intro gg Fl h5 tk5 ys new F3 N3 hn3 hJ
  rw [List.size_toArray, List.length_map, hprl] at hJ
  have hJ5 : FilesAre ys [0, 1, 2, 3, 4] := hJ
  (try kd_p)
  refine gen1 ((Fl, LCg.lst ys) :: (new ++ news)) ?_
  intro nw1 enw1
  have hsub1 : ∀ p ∈ news, p ∈ nw1 := fun p hp => by
   rw [enw1]
   exact .tail _ (List.mem_append_right _ hp)
  have hFl : (Fl, W.listOf ys.toArray ys.length) ∈ nw1 := by
   rw [enw1]
   exact .head _
  rw [← enw1] at N3 hn3
  clear enw1
  have hcell1 := hsub1 _ hcell
  have hP1 := hsub1 _ hP
  have hR1 := hsub1 _ hR
  (try kd_p)
  k_steps
  rename Obj.data _ = Data.cell (some (Value.ref Fl)) => d2
  rename Fr h₀ L _ _ => F4
  rename News h₀ L _ (rep C _ nw1) => N4
  rename_i h6 o2
  all_goals (try kd_p)
  obtain ⟨nw2, N5, hn5, hc5, hP5, hR5, hF5, hL5⟩ : ∃ nw2, News h₀ L h6 nw2 ∧ ND nw2 ∧ (C, o2) ∈ nw2 ∧ (Pk, W.listOf pv.toArray kp) ∈ nw2 ∧ (Rd, W.listOf rv.toArray kr) ∈ nw2 ∧ (Fl, W.listOf ys.toArray ys.length) ∈ nw2 ∧ ∀ a its k, (a, W.listOf its k) ∈ news → (a, W.listOf its k) ∈ nw2 :=
   ⟨_, N4, hn3.rep, mem_rep_self hcell1, mem_rep_lst hn3 hcell1 hoC hP1, mem_rep_lst hn3 hcell1 hoC hR1, mem_rep_lst hn3 hcell1 hoC hFl, fun a its k h => mem_rep_lst hn3 hcell1 hoC (hsub1 _ h)⟩
  clear N4
  have hys : StrsAre ys [fname 0, fname 1, fname 2, fname 3, fname 4] := by
   cases hJ5 with | cons h => cases h with | cons h => cases h with | cons h => cases h with | cons h => cases h with | cons h => cases h; exact .cons _ _ (.cons _ _ (.cons _ _ (.cons _ _ (.cons _ _ .nil))))
  refine ws_out ?_
  (try kd_p)
  show wpAny _ _ (exec (.If _ _ _ _) _) _ _ _
  refine wpAny_If ?_
  (try kd_p)
  k_steps
  ·rename Fr h₀ L _ _ => F7
   rename News h₀ L _ ((_, _) :: nw2) => N7
   rename ∀ p ∈ nw2, _ => l7
   (try kd_p)
   obtain ⟨m7, em7, F8⟩ : ∃ m7, m7 = _ ∧ Fr h₀ L _ m7 := ⟨_, rfl, F7⟩
   have e1 : m7 (Str.ofString "rows") = some (.ref Rw) := by rw [em7]; rfl
   clear em7 F7
   have F9 := fr_map F8 (fun y => congrFun (put1 e1) y)
   have N8 := news_sub (l' := nw2) N7 fun p hp => .tail _ hp
   refine ws_out ?_
   (try kd_p)
   (try dsimp only)
   with_reducible refine @hnext Fl ys _ _ _ _ _ _ F9 N8 hn5 hL5 hc5 d2 hF5 hJ5
  all_goals (rename_i hx; exact absurd rfl hx)
  all_goals (try kd_p)
end
section
local macro_rules | `(tactic| walk_at "exec For Tuple Call cons nil") => `(tactic| k_extra "W83")
local macro_rules | `(tactic| walk_at "call ref") => `(tactic| k_extra "W84")
local macro_rules | `(tactic| walk_at "execs cons") => `(tactic| k_extra "W85")
theorem sin_start {w : World} {nw : List (Addr × Obj)} {D x d : Addr} {oD : Obj} {t1 t2 t3 t4 tp tn : Tok} {h₀ h : Heap} {L : Addr} (_ : News h₀ L h nw) (h1 : (x, instObj 144 d) ∈ nw) (h2 : (d, sdict w t1 t2 t3 t4 D .none 0 tp 0 tn) ∈ nw) (h3 : (D, oD) ∈ nw) (h4 : oD.IsDictOf (SK w) []) (h5 : (D == sysModules) = false) (h6 : D ≠ d) :
  SIn w x nw ⟨d, D, [], fun _ => 0, fun _ => 0, fun _ => 0, fun _ => 0, fun _ => [], none, 0, 0⟩ :=
 ⟨h1, ⟨t1, t2, t3, t4, tp, tn, h2⟩, ⟨oD, h3, h4⟩, fun j hj => (nomatch hj), fun j hj => (nomatch hj), fun j hj => (nomatch hj), fun R js e => (nomatch e), fun j hj => (nomatch hj), List.nodup_nil, fun i hi => (nomatch hi), fun R js e => (nomatch e), ne_of_beq_false h5, h6, fun j hj => (nomatch hj)⟩
noncomputable def LPD (w : World) (b : List Stmt) (cs : Scope) : Prop := ∀ {dp un : Nat} {gd : Option (List Code)} {cn : Str} {a : Addr} {ccd : Value} {A₀ : Around} {base h₀ : Heap} {L : Addr} {m : Str → Option Value} {news : List (Addr × Obj)} {s : Shared} {mean : ExcName → Option Value} {mg mb : Str → Option Value} {Q : Flow → Shared → Prop} {E : Value → Shared → Prop} (B : Below A₀ base [] h₀) (KX : Frag.In (Mine.hd.heap_39 w.params) h₀) (N : News h₀ L s.heap news) (T : Top Mine.hd.view_39 (looseW Mine.hd.view_39 [Str.ofString "_NodeInfo"]) mean mg mb h₀) (hk : cs.kind = .function) (XB : Frag.In (Mine.hd.heap_39 w.params) base) (TB : Top Mine.hd.view_39 (looseW Mine.hd.view_39 [Str.ofString "_NodeInfo"]) mean mg mb base) (KD : KtsDicts (([] : List Env).filterMap (·.frame)) h₀) (hnd : ND news) {C Rw Fl : Addr} {oC : Obj} {fv : List Value} {kf : Nat} {sz : Nat → Int} {need : Nat → List Nat} (hcell : (C, oC) ∈ news) (hoC : oC.data = .cell (some (.ref Fl))) (hRows : RowsIn news Rw sz need) (hneed : ∀ k, (need k).length ≤ 1000) (hFl : (Fl, W.listOf fv.toArray kf) ∈ news) (hfv : FilesAre fv [0, 1, 2, 3, 4])
  (F : Fr h₀ L s.heap (fun y => if y = Str.ofString "rows" then some (.ref Rw) else m y))
  (hnext : ∀ (Sx Rn : Addr) (rv : List Value) (kr : Nat) (g : G) (m' : Str → Option Value) (nw' : List (Addr × Obj)) (h' : Heap) (tk' : Nat),
   Fr h₀ L h' (fun y => if y = Str.ofString "rows" then some (.ref Rw) else if y = Str.ofString "sorter" then some (.ref Sx) else if y = Str.ofString "rounds" then some (.ref Rn) else if y = Str.ofString "ring" then some (.bool false) else m' y) → News h₀ L h' nw' → ND nw' → (∀ p ∈ news, p ∈ nw') → (∀ p ∈ news, ¬ Own Sx g p.1) →
   SIn w Sx nw' g → g.ord = [] → g.rdy = none → g.po = 0 → g.nf = 0 → (∀ j, g.su j = []) → (∀ j, g.np j = 0) → (Rn, W.listOf rv.toArray kr) ∈ nw' → ListsAre nw' rv (rounds need) →
   wpAny (model PySem.Challenge.rw_ik0081_01.prog w) (ktrTop dp un gd cn cs L a ccd [(Str.ofString "files", C)] []) (execs (b.drop 9) (envX cn cs L a ccd [(Str.ofString "files", C)])) Q E { s with heap := h', toks := tk' })
  (hd : dp + 100 < recursionLimit) (hu : un + 900 < cLine) (hE : PassesOwn (model PySem.Challenge.rw_ik0081_01.prog w) (ktrTop dp un gd cn cs L a ccd [(Str.ofString "files", C)] []) (envX cn cs L a ccd [(Str.ofString "files", C)]) E),
  wpAny (model PySem.Challenge.rw_ik0081_01.prog w) (ktrTop dp un gd cn cs L a ccd [(Str.ofString "files", C)] []) (execs (b.drop 8) (envX cn cs L a ccd [(Str.ofString "files", C)])) Q E s
theorem law_D (w : World) : ∃ b cs, LawFn w b cs ∧ LPD w b cs := by
 refine ⟨_, _, ⟨_, _, _, _, _, _, _, _, _, _, _, _, _, by k_is⟩, ?_⟩
 intro dp un gd cn a ccd A₀ base h₀ L m news s mean mg mb Q E B KX N T hk XB TB KD hnd C Rw Fl oC fv kf sz need hcell hoC hRows hneed hFl hfv F hnext hd hu hE
 simp only [List.drop_succ_cons, List.drop_zero]
 simp only [List.drop_succ_cons, List.drop_zero] at hnext
 clear XB TB KD
 (try kd_p)
 k_steps
 all_goals (try kd_p)
 rename (News h₀ L _ ((_, _) :: (_, _) :: (_, _) :: news)) => N1
 rename (_ == sysModules) = false => lo
 rename Obj.IsDictOf (PySem.strKind _ _) _ [] => hs
 rename ∀ p ∈ news, p.1 < _ => l1
 rename _ ∧ _ ∧ AllLt _ news => l3
 rename @LT.lt Nat _ _ _ => l2
 have hn1 := nd_of N1 (by
  refine ND.cons (ND.cons (ND.cons hnd l1) ?_) (allLt_mem l3)
  intro p hp
  rcases List.mem_cons.mp hp with rfl | hp
  ·exact l2
  ·exact Nat.lt_trans (l1 p hp) l2)
 have hS := sin_start N1 (.tail _ (.head _)) (.tail _ (.tail _ (.head _))) (.head _) hs lo (Nat.ne_of_gt l3.2.1)
 rename_i tk F1 kT kX
 refine ws_out ?_
 (try kd_p)
 k_dflt (refine' rounds_spec ?zB F1 ?zX N1 ?zT ?zk hn1 ?zr hneed ?zd ?zu ?_)
 case zB => k_asm
 case zX => k_asm
 case zT => k_asm
 case zk => exact rfl
 case zr => exact hRows.mono fun p hp => .tail _ (.tail _ (.tail _ hp))
 case zd => ktr_room
 case zu => ktr_units
 intro Rn rv kr nw3 h3 tk3 F3 N3 hn3 sub3 hRn hRv
 have hS3 := SIn.of hS fun p hp _ => sub3 p hp
 clear F1 N1
 (try kd_p)
 k_steps
 all_goals (try kd_p)
 rename Fr h₀ L _ _ => F7
 rename News h₀ L _ ((_, _) :: nw3) => N7
 have N8 := news_sub (l' := nw3) N7 fun p hp => .tail _ hp
 (try kd_p)
 obtain ⟨m7, em7, F8⟩ : ∃ m7, m7 = _ ∧ Fr h₀ L _ m7 := ⟨_, rfl, F7⟩
 have e1 : m7 (Str.ofString "rows") = some (.ref Rw) := by rw [em7]; rfl
 have e3 : m7 (Str.ofString "rounds") = some (.ref Rn) := by rw [em7]; rfl
 have e4 : m7 (Str.ofString "ring") = some (.bool false) := by rw [em7]; rfl
 have e2 := (congrFun em7 (Str.ofString "sorter")).trans (show _ = some (Value.ref _) from rfl)
 clear em7 F7
 have F9 := fr_map F8 (fun y => congrFun (put4 e1 e2 e3 e4) y)
 have hsub4 : ∀ p ∈ news, p ∈ nw3 := fun p hp => sub3 p (.tail _ (.tail _ (.tail _ hp)))
 refine ws_out ?_
 (try kd_p)
 (try dsimp only)
 with_reducible refine @hnext _ Rn rv kr _ _ nw3 _ _ F9 N8 hn3 hsub4 ?_ hS3 rfl rfl rfl rfl (fun _ => rfl) (fun _ => rfl) hRn hRv
 intro p hp
 rintro (e | e | e | ⟨j, hj, _⟩ | ⟨R, js, e, _⟩)
 ·exact Nat.ne_of_lt (Nat.lt_trans (l1 p hp) l2) e
 ·exact Nat.ne_of_lt (l1 p hp) e
 ·exact Nat.ne_of_lt (allLt_mem l3.2.2 p hp) e
 ·cases hj
 ·cases e
end
section
section
variable {M : Model} {A : Around} {E : Value → Shared → Prop} {s : Shared} {K : Frag} {env : Env} {pos p apos : Pos} {name : Str} {f : Value} {first : List Value} {Q : Value → Shared → Prop} {h₀ : Heap} {L : Addr} {news : List (Addr × Obj)} {e o : PySem.Expr} {rest args : List PySem.Expr} {q g : Addr} {self : Value}
theorem meth_star (h : wpAny M A (eval o env) (fun ov s₁ => wpAny M A (getAttr ov name true) (fun f s₂ => wpAny M A (callWith pos f [] (backTo pos (starEach args env)) []) Q E s₂) E s₁) E s)
  (he : eval (.Call (.Attribute o name apos) args [] pos) env = (do
   let ov ← eval o env
   standAt apos.atName
   let (f, first) ← holding [ov] (do pure (← getAttr ov name true, []))
   callWith pos f first (backTo pos (starEach args env)) []) := by rfl) :
  wpAny M A (eval (.Call (.Attribute o name apos) args [] pos) env) Q E s := by
 rw [he]
 refine wpAny_bind (wpAny_mono h (fun ov s₁ h₁ => wpAny_bind (wpAny_standAt (wpAny_bind (wpAny_holding (wpAny_bind (wpAny_mono h₁ (fun fx s₂ h₂ => wpAny_pure ?_) fun _ _ x => x)))))) fun _ _ x => x)
 exact h₂
theorem callWith_SM (_X : K.In h₀) (_N : News h₀ L s.heap news) (_q : (q, methodObj (.ref g) self) ∈ news) (hf : fnIn K g = true) (h : wpAny M A (spliced (backTo pos (starEach (e :: rest) env))) (fun vs s₁ => MethP K q g self s₁.heap ∧ wpAny M A (call (.ref q) (first ++ vs)) Q E s₁) E s)
  (he : starEach (e :: rest) env = (false, eval e env) :: starEach rest env := by rfl) (hst : (backTo pos (starEach rest env)).any (·.1) = true := by rfl) :
  wpAny M A (callWith pos (.ref q) first (backTo pos (starEach (e :: rest) env)) []) Q E s := by
 rw [he] at h ⊢
 exact ks_call (by show (false || (backTo pos (starEach rest env)).any (·.1)) = true; rw [hst]; rfl) (keeps_M hf) (evalArgs_plain h)
theorem callWith_SL (_X : K.In h₀) (_N : News h₀ L s.heap news) (_q : (q, methodObj (.ref g) self) ∈ news) (hf : fnIn K g = true) (h : wpAny M A (eval e env) (fun v s₁ => StarOf M A E v (fun vs s₂ => MethP K q g self s₂.heap ∧ wpAny M A (call (.ref q) (first ++ vs)) Q E s₂) s₁) E s)
  (he : starEach [.Starred e p] env = [(true, eval e env)] := by rfl) :
  wpAny M A (callWith pos (.ref q) first (backTo pos (starEach [.Starred e p] env)) []) Q E s := by
 rw [he]
 exact ks_call rfl (keeps_M hf) (ks_lone h)
end
end
section
local macro_rules | `(tactic| walk_at "exec For Tuple Call cons nil") => `(tactic| k_extra "W71")
local macro_rules | `(tactic| walk_at "exec For Name Name cons nil") => `(tactic| k_extra "W83")
local macro_rules | `(tactic| walk_at "exec Try") => `(tactic| k_extra "W83")
local macro_rules | `(tactic| walk_at "execs cons") => `(tactic| k_extra "W86")
local macro_rules | `(tactic| walk_at "call ref") => `(tactic| k_extra "W87")
local macro_rules | `(tactic| walk_at "eval Call Attribute") => `(tactic| k_extra "W88")
local macro_rules | `(tactic| walk_at "callWith ref") => `(tactic| k_extra "W89")
local macro_rules | `(tactic| walk_at "StarOf ref") => `(tactic| (k_extra "W90"; intro h' F' N'; try dsimp only [List.nil_append, List.cons_append]))
theorem put3 {m : Str → Option Value} {A B C : Str} {a b c : Option Value} (h1 : m A = a) (h2 : m B = b) (h3 : m C = c) : m = fun y => if y = A then a else if y = B then b else if y = C then c else m y := by
 funext y
 by_cases e1 : y = A
 ·rw [if_pos e1, e1, h1]
 ·rw [if_neg e1]
  by_cases e2 : y = B
  ·rw [if_pos e2, e2, h2]
  ·rw [if_neg e2]
   by_cases e3 : y = C
   ·rw [if_pos e3, e3, h3]
   ·rw [if_neg e3]
local macro_rules | `(tactic| walk_at "subscriptTail") => `(tactic| k_extra "W72")
local macro_rules | `(tactic| walk_at "subscriptTail") => `(tactic| k_extra "W91")
local macro_rules | `(tactic| walk_at "last subscriptTail") => `(tactic| k_extra "W91")
local macro_rules | `(tactic| walk_at "subscriptTail Name Slice ref ref") => `(tactic| (k_extra "W92"; intro D' h' F' N' l1; (try k_lt l1)))
local macro_rules | `(tactic| walk_at "subscriptTail") => `(tactic| (k_extra "W92"; intro D' h' F' N' l1; (try k_lt l1)))
theorem ints_take {vs : List Value} {xs : List Int} (h : IntsAre vs xs) : ∀ n, IntsAre (vs.take n) (xs.take n) := by
 induction h with
 | nil => intro n; rw [List.take_nil, List.take_nil]; exact .nil
 | cons a t _ ih =>
  intro n
  cases n with
  | zero => exact .nil
  | succ n => exact .cons a t (ih n)
theorem ints_drop {vs : List Value} {xs : List Int} (h : IntsAre vs xs) : ∀ n, IntsAre (vs.drop n) (xs.drop n) := by
 induction h with
 | nil => intro n; rw [List.drop_nil, List.drop_nil]; exact .nil
 | cons a t h ih =>
  intro n
  cases n with
  | zero => exact .cons a t h
  | succ n => exact ih n
theorem pick_oneL (l : List Value) : kms_pick l none (some 1) = l.take 1 := pick_take l 1
theorem pick_rest (l : List Value) : kms_pick l (some 1) none = l.drop 1 := by
 unfold kms_pick kms_lo kms_hi
 simp only
 rw [if_neg (by decide)]
 show (l.drop (min 1 l.length)).take (l.length - min 1 l.length) = l.drop 1
 rw [List.take_of_length_le (by rw [List.length_drop]; exact Nat.le_refl _)]
 cases l with
 | nil => rfl
 | cons x r => rw [List.length_cons, Nat.min_eq_left (by exact Nat.le_add_left _ _)]
theorem pick_len1 (l : List Value) : (kms_pick l none (some 1)).length ≤ 1 := by
 rw [pick_oneL, List.length_take]; exact ub6 (by decide)
theorem twice_ints {vs : List Value} {ws : List Nat} (h : IntsAre vs (nums ws)) : IntsAre (List.replicate (Int.toNat 2) (kms_pick vs none (some 1))).flatten (nums (ws.take 1 ++ ws.take 1)) := by
 have h1 := ints_take h 1
 rw [pick_oneL, nums, List.map_append, List.map_take]
 show IntsAre (vs.take 1 ++ (vs.take 1 ++ [])) _
 rw [List.append_nil]
 exact h1.append h1
theorem rest_ints {vs : List Value} {ws : List Nat} (h : IntsAre vs (nums ws)) : IntsAre (kms_pick vs (some 1) none) (nums (ws.drop 1)) := by
 rw [pick_rest, nums, List.map_drop]
 exact ints_drop h 1
local macro_rules | `(tactic| walk_at "binaryOp Mult ref int") => `(tactic| (k_extra "W93"; intro D' h' F' N' l1; (try k_lt l1)))
noncomputable def Ab.row (a : Ab) (k : Nat) (ws : List Nat) : Ab := (a.add k (ws.take 1 ++ ws.take 1)).add k (ws.drop 1)
noncomputable def graph (need : Nat → List Nat) : Nat → Ab → Ab
 | 0, a => a
 | i + 1, a => (graph need i a).row i (need i)
theorem add_su_len (a : Ab) (k j : Nat) (js : List Nat) : ((a.add k js).su j).length ≤ (a.su j).length + js.length := by
 have h1 := links_len k j js ((a.node k).inc k js.length)
 have h2 := node_su_len a k j
 unfold Ab.add
 refine Nat.le_trans h1 (Nat.add_le_add_right ?_ _)
 exact h2
theorem row_su_len (a : Ab) (k j : Nat) (ws : List Nat) : ((a.row k ws).su j).length ≤ (a.su j).length + ws.length + 2 := by
 have h1 := add_su_len (a.add k (ws.take 1 ++ ws.take 1)) k j (ws.drop 1)
 have h2 := add_su_len a k j (ws.take 1 ++ ws.take 1)
 rw [List.length_append, List.length_take] at h2
 rw [List.length_drop] at h1
 unfold Ab.row
 exact o8 h1 h2
theorem graph_su_len (need : Nat → List Nat) (hn : ∀ k, (need k).length ≤ 6) (a : Ab) (ha : ∀ j, (a.su j).length = 0) (j : Nat) : ∀ i, ((graph need i a).su j).length ≤ 8 * i
 | 0 => by rw [graph, ha j]; exact Nat.le_refl _
 | i + 1 => by
  have h1 := graph_su_len need hn a ha j i
  have h2 := row_su_len (graph need i a) i j (need i)
  have h3 := hn i
  rw [graph]
  exact o42 h1 h2 h3
theorem own_mem {w : World} {Sx : Addr} {nw : List (Addr × Obj)} {g : G} {a : Addr} (H : SIn w Sx nw g) (hnd : ND nw) (h : Own Sx g a) : ∃ o, (a, o) ∈ nw ∧ o.cls ≠ .type "tuple" := by
 rcases h with rfl | rfl | rfl | ⟨j, hj, rfl | rfl | rfl⟩ | ⟨R, js, e, rfl⟩
 ·exact i1_2 _ H.self (by simp [instObj])
 ·(try kd_p)
  refine e6_1 H.dict ?_
  intro _ _ _ _ _ _ q
  exact i1_2 _ q (by simp [dictOf])
 ·(try kd_p)
  refine e1_2 H.tab ?_
  intro oD q _
  exact i1_2 oD q (by rw [tab_cls H hnd q]; simp)
 ·(try kd_p)
  refine e2_1 (H.node j hj) ?_
  intro _ _ q
  exact i1_2 _ q (by simp)
 ·exact i1_2 _ (H.ndict j hj) (by simp [dictOf])
 ·(try kd_p)
  refine e2_2 (H.list j hj) ?_
  intro _ _ _ q
  exact i1_2 _ q (by simp [W.listOf])
 ·(try kd_p)
  refine e2_2 (H.ready _ js e) ?_
  intro _ _ _ q
  exact i1_2 _ q (by simp [W.listOf])
theorem ow_free {w : World} {Sx : Addr} {nw ow : List (Addr × Obj)} {wr : List Addr} {g : G} (H : SIn w Sx (off wr nw) g) (hnd : ND nw) (h1 : ∀ p ∈ ow, p ∈ nw) (h2 : ∀ p ∈ ow, p.1 ∉ wr → p.2.cls = .type "tuple") : ∀ p ∈ ow, ¬ Own Sx g p.1 := fun p hp ho => by
 (try kd_p)
 refine e1_2 (own_mem H hnd.off ho) ?_
 intro o hm hc
 refine e0_2 (mem_off.mp hm) ?_
 intro hm1 hm2
 have e := hnd.uniq (h1 p hp) hm1
 exact hc (e ▸ h2 p hp hm2)
theorem off_sin {w : World} {Sx : Addr} {nw ow : List (Addr × Obj)} {wr : List Addr} {g : G} (H : SIn w Sx nw g) (hex : ∀ a ∈ wr, ∃ o, (a, o) ∈ ow) (hf : ∀ p ∈ ow, ¬ Own Sx g p.1) : SIn w Sx (off wr nw) g :=
 H.of fun p hp ho => mem_off.mpr ⟨hp, fun q => by
  (try kd_p)
  refine e1_1 (hex _ q) ?_
  intro o ho'
  exact hf _ ho' ho⟩
noncomputable def LPE (w : World) (b : List Stmt) (cs : Scope) : Prop := ∀ {dp un : Nat} {gd : Option (List Code)} {cn : Str} {a : Addr} {ccd : Value} {A₀ : Around} {base h₀ : Heap} {L : Addr} {m : Str → Option Value} {news : List (Addr × Obj)} {s : Shared} {mean : ExcName → Option Value} {mg mb : Str → Option Value} {Q : Flow → Shared → Prop} {E : Value → Shared → Prop} (B : Below A₀ base [] h₀) (KX : Frag.In (Mine.hd.heap_39 w.params) h₀) (N : News h₀ L s.heap news) (T : Top Mine.hd.view_39 (looseW Mine.hd.view_39 [Str.ofString "_NodeInfo"]) mean mg mb h₀) (hk : cs.kind = .function) (XB : Frag.In (Mine.hd.heap_39 w.params) base) (TB : Top Mine.hd.view_39 (looseW Mine.hd.view_39 [Str.ofString "_NodeInfo"]) mean mg mb base) (KD : KtsDicts (([] : List Env).filterMap (·.frame)) h₀) (hnd : ND news) {C Rw Fl Sx Rn : Addr} {oC : Obj} {fv rv : List Value} {kf kr : Nat} {sz : Nat → Int} {need : Nat → List Nat} {X : List (Addr × Obj)} {g : G} (hX : ∀ p ∈ X, p ∈ news ∧ ¬ Own Sx g p.1) (hcell : (C, oC) ∈ X) (hoC : oC.data = .cell (some (.ref Fl))) (hRows : RowsIn X Rw sz need) (hneed : ∀ k, (need k).length ≤ 6) (hn5 : ∀ k < 5, ∀ j ∈ need k, j < 5) (hFl : (Fl, W.listOf fv.toArray kf) ∈ X) (hfv : FilesAre fv [0, 1, 2, 3, 4])
  (hS : SIn w Sx news g) (hord : g.ord = []) (hrdy : g.rdy = none) (hsu : ∀ j, (g.su j).length = 0)
  (F : Fr h₀ L s.heap (fun y => if y = Str.ofString "rows" then some (.ref Rw) else if y = Str.ofString "sorter" then some (.ref Sx) else if y = Str.ofString "rounds" then some (.ref Rn) else if y = Str.ofString "ring" then some (.bool false) else m y))
  (hnext : ∀ (g' : G) (m' : Str → Option Value) (nw' : List (Addr × Obj)) (h' : Heap) (tk' : Nat),
   Fr h₀ L h' (fun y => if y = Str.ofString "rows" then some (.ref Rw) else if y = Str.ofString "sorter" then some (.ref Sx) else if y = Str.ofString "rounds" then some (.ref Rn) else if y = Str.ofString "ring" then some (.bool false) else m' y) → News h₀ L h' nw' → ND nw' → (∀ p ∈ X, p ∈ nw' ∧ ¬ Own Sx g' p.1) → SIn w Sx nw' g' → g'.ab = graph need 5 g.ab → Same g g' →
   wpAny (model PySem.Challenge.rw_ik0081_01.prog w) (ktrTop dp un gd cn cs L a ccd [(Str.ofString "files", C)] []) (execs (b.drop 10) (envX cn cs L a ccd [(Str.ofString "files", C)])) Q E { s with heap := h', toks := tk' })
  (hd : dp + 100 < recursionLimit) (hu : un + 900 < cLine) (hE : PassesOwn (model PySem.Challenge.rw_ik0081_01.prog w) (ktrTop dp un gd cn cs L a ccd [(Str.ofString "files", C)] []) (envX cn cs L a ccd [(Str.ofString "files", C)]) E),
  wpAny (model PySem.Challenge.rw_ik0081_01.prog w) (ktrTop dp un gd cn cs L a ccd [(Str.ofString "files", C)] []) (execs (b.drop 9) (envX cn cs L a ccd [(Str.ofString "files", C)])) Q E s
theorem law_E (w : World) : ∃ b cs, LawFn w b cs ∧ LPE w b cs := by
 refine ⟨_, _, ⟨_, _, _, _, _, _, _, _, _, _, _, _, _, by k_is⟩, ?_⟩
 intro dp un gd cn a ccd A₀ base h₀ L m news s mean mg mb Q E B KX N T hk XB TB KD hnd C Rw Fl Sx Rn oC fv rv kf kr sz need X g hX hcell hoC hRows hneed hn5 hFl hfv hS hord hrdy hsu F hnext hd hu hE
 clear XB TB KD
 simp only [List.drop_succ_cons, List.drop_zero]
 simp only [List.drop_succ_cons, List.drop_zero] at hnext
 (try kd_p)
 refine e2_3 hRows.rows ?_
 intro rs kR hRwm hrsl hrow
 have hcell0 := (hX _ hcell).1
 (try kd_p)
 k_steps
 all_goals (try kd_p)
 refine for_zip (o1 := W.listOf fv.toArray kf) (o2 := W.listOf (List.map Value.ref rs).toArray kR) (xs := fv.toArray) (ys := (List.map Value.ref rs).toArray) (fun i m nw => ∃ g', SIn w Sx nw g' ∧ g'.ab = graph need i g.ab ∧ Same g g' ∧ (∀ p ∈ X, p ∈ nw ∧ ¬ Own Sx g' p.1) ∧ m (Str.ofString "rows") = some (.ref Rw) ∧ m (Str.ofString "sorter") = some (.ref Sx) ∧ m (Str.ofString "rounds") = some (.ref Rn) ∧ m (Str.ofString "ring") = some (.bool false))
  rfl rfl rfl rfl F N hnd (hX _ hFl).1 rfl ⟨_, rfl⟩ (hX _ hRwm).1 rfl ⟨_, rfl⟩ ?_ ?_ ?_ ?_ ?_
 ·intro nw hsub hn
  exact i1_8 g (hS.of fun p hp _ => hsub p hp) rfl (Same.refl g) (fun p hp => ⟨hsub p (hX p hp).1, (hX p hp).2⟩) rfl rfl rfl rfl
 ·intro i m₁ nw hR0
  (try kd_p)
  refine e1_5 hR0 ?_
  (try clear hR0); intro g' _ _ _ hx _
  exact ⟨(hx _ hFl).1, (hx _ hRwm).1⟩
 ·intro gg i v0 v1 m₁ nw ow wr h tk hi hP hJ hoff how hot hex hndw F1 N1
  (try kd_p)
  refine e1_8 hJ ?_
  (try clear hJ); intro g' hS1 hab hsame hX1 hm1 hm2 hm3 hm4
  refine e0_2 hP ?_
  (try clear hP); intro hv0 hv1
  rw [List.getElem?_toArray] at hv0 hv1
  rw [List.getElem?_map] at hv1
  (try kd_p)
  refine e1_2 (Option.map_eq_some_iff.mp hv1) ?_
  intro r hr e
  subst e
  have hi5 : i < 5 := by
   have := (List.getElem?_eq_some_iff.mp hr).1
   exact ul2 this hrsl
  (try kd_p)
  first | refine e1_1 (hfv.get (i := i) (j := i) (by refine lt5 (P := fun i => ([0, 1, 2, 3, 4] : List Nat)[i]? = some i) ?_ ?_ ?_ ?_ ?_ hi5 <;> rfl)) ?_ | refine e0_2 (hfv.get (i := i) (j := i) (by refine lt5 ?_ ?_ ?_ ?_ ?_ hi5 <;> rfl)) ?_
  intro t0 hf0
  cases hv0.symm.trans hf0
  (try kd_p)
  refine e5_3 (hrow i r hr) ?_
  intro Wn ts kk vs kv hr1 hr2 hr3
  refine e0_2 (hX1 _ hr1) ?_
  intro hr1a hr1b
  refine e0_2 (hX1 _ hr2) ?_
  intro hr2a hr2b
  (try kd_p)
  refine e0_2 (hX1 _ hFl) ?_
  intro hFla hFlb
  refine e0_2 (hX1 _ hcell) ?_
  intro hca hcb
  have sub : ∀ p ∈ off wr nw, p ∈ nw := fun p hp => (mem_off.mp hp).1
  have hS2 : SIn w Sx nw g' := hS1.of fun p hp _ => sub p hp
  have howf := ow_free hS1 hndw how hot
  replace hr1a := sub _ hr1a
  replace hr2a := sub _ hr2a
  replace hFla := sub _ hFla
  replace hca := sub _ hca
  have hvl := hr3.length
  rw [List.length_map] at hvl
  have hnl := hneed i
  (try kd_p)
  obtain ⟨m5, em5, F2⟩ : ∃ m5, m5 = _ ∧ Fr h₀ L h m5 := ⟨_, rfl, F1⟩
  have e1 : m5 (Str.ofString "sorter") = some (.ref Sx) := by rw [em5]; exact hm2
  have e2 : m5 (Str.ofString "file") = some (.str (fname i) t0) := by rw [em5]; rfl
  have e3 : m5 (Str.ofString "row") = some (.ref r) := by rw [em5]; rfl
  have e4 : m5 (Str.ofString "rows") = some (.ref Rw) := by rw [em5]; exact hm1
  have e5 : m5 (Str.ofString "rounds") = some (.ref Rn) := by rw [em5]; exact hm3
  have e6 : m5 (Str.ofString "ring") = some (.bool false) := by rw [em5]; exact hm4
  have F3 := fr_map F2 (fun y => congrFun (put3 e1 e2 e3) y)
  clear em5 F2 F1 N F hm1 hm2 hm3 hm4
  have hself := hS2.self
  (try kd_p)
  refine e6_1 hS2.dict ?_
  intro t1 t2 t3 t4 tp tn hdict
  have hrd : g'.rdy = none := hsame.rdy.trans hrdy
  have hrv : g'.rdyV = .none := by unfold G.rdyV; rw [hrd]
  rw [hrv] at hdict
  have hlen1 : (List.take 1 (need i)).length ≤ 1 := by rw [List.length_take]; exact ub6 (by decide)
  (try kd_p)
  k_steps
  rename_i q hq1 fq1 nq1 lq1 D1 hq2 fq2 nq2 lq2 D2 hq3 FA NA lA
  all_goals (try kd_p)
  have hnA := nd_of NA (((hndw.cons lq1).cons (allLt_mem lq2)).cons (allLt_mem lA))
  have hjs := twice_ints hr3
  have hjl : ∀ j ∈ (need i).take 1 ++ (need i).take 1, j < 5 := fun j hj => hn5 i hi5 j (by
   rcases List.mem_append.mp hj with hj | hj <;> exact List.mem_of_mem_take hj)
  (try kd_p)
  refine gen1 ((need i).take 1 ++ (need i).take 1) ?_
  intro js ejs
  refine gen1 ((List.replicate (Int.toNat 2) (kms_pick vs none (some 1))).flatten) ?_
  intro us eus
  rw [← ejs] at hjs hjl
  rw [← eus] at hjs NA hnA
  have hjz : js.length ≤ 2 := by
   rw [ejs, List.length_append, List.length_take]; exact ub10 (ub6 (by decide)) (ub6 (by decide))
  have hul := hjs.length
  rw [List.length_map] at hul
  refine k_list (o := W.listOf us.toArray 0) (its := us.toArray) (fun i ys _ => FilesAre ys (js.take i)) rfl rfl rfl FA NA hnA (.head _) rfl ⟨_, rfl⟩ .nil ?_ ?_ ?_
  ·intro i ys nw hi hJ
   have h1 := hJ.length
   rw [List.length_take] at h1
   rw [sizeLine_eq]
   exact ub1 h1 (ub5 (Nat.le_trans hjz (by decide)))
  ·intro gg C2 i2 ys new₀ nw2 oC2 m₂ h tk E' hi2 hB hoC2 hJ sub0 sub1 hC ndw2 F6 N6
   (try kd_p)
   refine e1_2 hB ?_
   (try clear hB); intro v hv hm
   rw [List.getElem?_toArray] at hv
   have hi2' : i2 < js.length := by rw [← hul]; exact (List.getElem?_eq_some_iff.mp hv).1
   (try kd_p)
   obtain ⟨j, hj⟩ : ∃ j, js[i2]? = some j := ⟨_, List.getElem?_eq_getElem hi2'⟩
   have hj5 := hjl j (List.mem_of_getElem? hj)
   (try kd_p)
   first | refine e1_1 (hjs.get i2 j (by rw [List.getElem?_map, hj]; rfl)) ?_ | refine e0_2 (hjs.get i2 j (by rw [List.getElem?_map, hj]; rfl)) ?_
   intro tj hvj
   cases hv.symm.trans hvj
   have hFl6 := sub0 _ (.tail _ (.tail _ (.tail _ hFla)))
   have hC6 := sub0 _ (.tail _ (.tail _ (.tail _ hca)))
   (try kd_p)
   first | refine e1_1 (hfv.get (i := j) (j := j) (by refine lt5 (P := fun i => ([0, 1, 2, 3, 4] : List Nat)[i]? = some i) ?_ ?_ ?_ ?_ ?_ hj5 <;> rfl)) ?_ | refine e0_2 (hfv.get (i := j) (j := j) (by refine lt5 ?_ ?_ ?_ ?_ ?_ hj5 <;> rfl)) ?_
   intro tf hfj
   refine wpAny_tests_nil ?_
   try dsimp only
   (try kd_p)
   k_steps
   all_goals (try kd_p)
   refine i3_6 _ _ ([]) rfl F6 N6 (fun p hp => nomatch hp) List.nodup_nil ?_
   rw [List.take_add_one, hj, Option.toList_some]
   exact hJ.snoc j tf
  ·intro gg Dc hc tkc ys new FB NB hnB hJ
   rw [List.size_toArray, hul, List.take_length] at hJ
   have hysl := hJ.length
   have hysz : ys.toArray.size ≤ sizeLine := by rw [List.size_toArray, sizeLine_eq]; exact ub1 hysl (Nat.le_trans hjz (by decide))
   (try kd_p)
   refine gen1 ((Dc, LCg.lst ys) :: (new ++ (D2, W.listOf us.toArray 0) :: (D1, W.listOf (kms_pick vs none (some 1)).toArray 0) :: (q, methodObj (.ref 94) (.ref Sx)) :: nw)) ?_
   intro nwB enB
   have hsubB : ∀ p ∈ nw, p ∈ nwB := fun p hp => by
    rw [enB]
    exact .tail _ (List.mem_append_right _ (.tail _ (.tail _ (.tail _ hp))))
   have hqB : (q, methodObj (.ref 94) (.ref Sx)) ∈ nwB := by
    rw [enB]
    exact .tail _ (List.mem_append_right _ (.tail _ (.tail _ (.head _))))
   have hDcB : (Dc, W.listOf ys.toArray ys.length) ∈ nwB := by
    rw [enB]
    exact .head _
   rw [← enB] at NB hnB
   clear enB
   have hb1 : ∀ j, (g'.su j).length ≤ 1000 := fun j => by
    have h1 := graph_su_len need hneed g.ab hsu j i
    rw [← hab] at h1
    have h2 : (g'.su j).length ≤ 8 * i := h1
    exact Nat.le_trans h2 (ub11 (ub3 hi5 (by decide)))
   have hys64 : ys.length ≤ 64 := by exact ub1 hysl (Nat.le_trans hjz (by decide))
   have hSB : SIn w Sx nwB g' := hS2.of fun p hp _ => hsubB p hp
   (try kd_p)
   k_steps
   all_goals (try kd_p)
   refine ws_out ?_
   (try kd_p)
   rw [List.append_nil]
   rename News h₀ L _ nwB => NC
   rename Fr h₀ L _ _ => FC
   refine call_meth NC hqB ?_
   k_dflt (refine' add_code ?zB FC ?zX NC ?zT ?zk hSB hnB hi5 hjl hJ hrd hys64 hb1 ?zd ?zu ?_)
   case zB => k_asm
   case zX => k_asm
   case zT => k_asm
   case zk => exact rfl
   case zd => ktr_room
   case zu => ktr_units
   intro g2 nwD hD tkD FD ND' PD habD hsmD
   (try kd_p)
   refine e0_2 (PD.keep _ (hsubB _ hr1a) hr1b) ?_
   intro hr1D hr1E
   refine e0_2 (PD.keep _ (hsubB _ hr2a) hr2b) ?_
   intro hr2D hr2E
   refine e0_2 (PD.keep _ (hsubB _ hFla) hFlb) ?_
   intro hFlD hFlE
   (try kd_p)
   refine e0_2 (PD.keep _ (hsubB _ hca) hcb) ?_
   intro hcD hcE
   have hnD := PD.nd
   have hSD := PD.sin
   have hselfD := hSD.self
   (try kd_p)
   refine e6_1 hSD.dict ?_
   intro u1 u2 u3 u4 up un' hdictD
   have hrdD : g2.rdy = none := hsmD.rdy.trans hrd
   have hrvD : g2.rdyV = .none := by unfold G.rdyV; rw [hrdD]
   rw [hrvD] at hdictD
   clear FC NC FB NB hqB
   (try kd_p)
   k_steps
   rename_i q2 hq4 fq4 nq4 lq4 D4 hq5 FG NG lG
   all_goals (try kd_p)
   have hnG := nd_of NG ((hnD.cons lq4).cons (allLt_mem lG))
   have hks := rest_ints hr3
   have hkl : ∀ j ∈ (need i).drop 1, j < 5 := fun j hj => hn5 i hi5 j (List.mem_of_mem_drop hj)
   (try kd_p)
   refine gen1 ((need i).drop 1) ?_
   intro ks eks
   refine gen1 (kms_pick vs (some 1) none) ?_
   intro ws ews
   rw [← eks] at hks hkl
   rw [← ews] at hks NG hnG
   have hkz : ks.length ≤ 6 := by
    rw [eks, List.length_drop]; exact ub7 hnl
   have hwl := hks.length
   rw [List.length_map] at hwl
   refine k_list (o := W.listOf ws.toArray 0) (its := ws.toArray) (fun i ys _ => FilesAre ys (ks.take i)) rfl rfl rfl FG NG hnG (.head _) rfl ⟨_, rfl⟩ .nil ?_ ?_ ?_
   ·intro i ys nw hi hJ
    have h1 := hJ.length
    rw [List.length_take] at h1
    rw [sizeLine_eq]
    exact ub1 h1 (ub5 (Nat.le_trans hkz (by decide)))
   ·intro gg C2 i2 ys new₀ nw2 oC2 m₂ h tk E' hi2 hB hoC2 hJ sub0 sub1 hC ndw2 F6 N6
    (try kd_p)
    refine e1_2 hB ?_
    (try clear hB); intro v hv hm
    rw [List.getElem?_toArray] at hv
    have hi2' : i2 < ks.length := by rw [← hwl]; exact (List.getElem?_eq_some_iff.mp hv).1
    (try kd_p)
    obtain ⟨j, hj⟩ : ∃ j, ks[i2]? = some j := ⟨_, List.getElem?_eq_getElem hi2'⟩
    have hj5 := hkl j (List.mem_of_getElem? hj)
    (try kd_p)
    first | refine e1_1 (hks.get i2 j (by rw [List.getElem?_map, hj]; rfl)) ?_ | refine e0_2 (hks.get i2 j (by rw [List.getElem?_map, hj]; rfl)) ?_
    intro tj hvj
    cases hv.symm.trans hvj
    have hFl6 := sub0 _ (.tail _ (.tail _ hFlD))
    have hC6 := sub0 _ (.tail _ (.tail _ hcD))
    (try kd_p)
    first | refine e1_1 (hfv.get (i := j) (j := j) (by refine lt5 (P := fun i => ([0, 1, 2, 3, 4] : List Nat)[i]? = some i) ?_ ?_ ?_ ?_ ?_ hj5 <;> rfl)) ?_ | refine e0_2 (hfv.get (i := j) (j := j) (by refine lt5 ?_ ?_ ?_ ?_ ?_ hj5 <;> rfl)) ?_
    intro tf hfj
    refine wpAny_tests_nil ?_
    try dsimp only
    (try kd_p)
    k_steps
    all_goals (try kd_p)
    refine i3_6 _ _ ([]) rfl F6 N6 (fun p hp => nomatch hp) List.nodup_nil ?_
    rw [List.take_add_one, hj, Option.toList_some]
    exact hJ.snoc j tf
   ·intro gg De he tke zs new2 FH NH hnH hK
    rw [List.size_toArray, hwl, List.take_length] at hK
    have hzsl := hK.length
    have hzsz : zs.toArray.size ≤ sizeLine := by rw [List.size_toArray, sizeLine_eq]; exact ub1 hzsl (Nat.le_trans hkz (by decide))
    (try kd_p)
    refine gen1 ((De, LCg.lst zs) :: (new2 ++ (D4, W.listOf ws.toArray 0) :: (q2, methodObj (.ref 94) (.ref Sx)) :: nwD)) ?_
    intro nwH enH
    have hsubH : ∀ p ∈ nwD, p ∈ nwH := fun p hp => by
     rw [enH]
     exact .tail _ (List.mem_append_right _ (.tail _ (.tail _ hp)))
    have hqH : (q2, methodObj (.ref 94) (.ref Sx)) ∈ nwH := by
     rw [enH]
     exact .tail _ (List.mem_append_right _ (.tail _ (.head _)))
    have hDeH : (De, W.listOf zs.toArray zs.length) ∈ nwH := by
     rw [enH]
     exact .head _
    rw [← enH] at NH hnH
    clear enH
    have hb2 : ∀ j, (g2.su j).length ≤ 1000 := fun j => by
     have h1 := graph_su_len need hneed g.ab hsu j i
     have h2 := add_su_len g'.ab i j js
     rw [← habD] at h2
     rw [← hab] at h1
     have h3 : (g2.su j).length ≤ (g'.ab.su j).length + js.length := h2
     exact Nat.le_trans h3 (ub10 (Nat.le_trans h1 (ub11 (ub3 hi5 (by decide)))) (Nat.le_trans hjz (by decide)))
    have hzs64 : zs.length ≤ 64 := by exact ub1 hzsl (Nat.le_trans hkz (by decide))
    have hSH : SIn w Sx nwH g2 := hSD.of fun p hp _ => hsubH p hp
    (try kd_p)
    k_steps
    all_goals (try kd_p)
    refine ws_out ?_
    (try kd_p)
    rw [List.append_nil]
    rename News h₀ L _ nwH => NI
    rename Fr h₀ L _ _ => FI
    refine call_meth NI hqH ?_
    k_dflt (refine' add_code ?zB FI ?zX NI ?zT ?zk hSH hnH hi5 hkl hK hrdD hzs64 hb2 ?zd ?zu ?_)
    case zB => k_asm
    case zX => k_asm
    case zT => k_asm
    case zk => exact rfl
    case zd => ktr_room
    case zu => ktr_units
    intro g3 nwJ hJ3 tkJ FJ NJ PJ habJ hsmJ
    k_steps
    all_goals (try kd_p)
    have keep : ∀ p ∈ nw, ¬ Own Sx g' p.1 → p ∈ nwJ ∧ ¬ Own Sx g3 p.1 := fun p hp ho =>
     let a := PD.keep p (hsubB p hp) ho
     PJ.keep p (hsubH p a.1) a.2
    have howJ : ∀ p ∈ ow, p ∈ nwJ ∧ ¬ Own Sx g3 p.1 := fun p hp => keep p (how p hp) (howf p hp)
    refine i4_6 _ _ _ _ rfl FJ NJ PJ.nd (fun p hp => (howJ p hp).1) (i1_8 g3 (off_sin PJ.sin hex fun p hp => (howJ p hp).2) ?_ ((hsame.trans hsmD).trans hsmJ) ?_ e4 rfl e5 e6)
    ·rw [habJ, habD, hab, graph, Ab.row, ← ejs, ← eks]
    ·intro p hp
     (try kd_p)
     refine e0_2 (hX1 p hp) ?_
     intro a1 a2
     refine e0_2 (keep p (sub p a1) a2) ?_
     intro b1 b2
     exact ⟨mem_off.mpr ⟨b1, hoff _ (hX p hp).1⟩, b2⟩
 ·intro h tk m₁ nw F1 N1 hn1 hJ
  (try kd_p)
  refine e1_8 hJ ?_
  (try clear hJ); intro g' hS1 hab hsame hX1 hm1 hm2 hm3 hm4
  have hn : min fv.toArray.size (List.map Value.ref rs).toArray.size = 5 := by
   have := hfv.length
   rw [List.size_toArray, List.size_toArray, List.length_map, hrsl, this]
   rfl
  rw [hn] at hab
  have F9 := fr_map F1 (fun y => congrFun (put4 hm1 hm2 hm3 hm4) y)
  (try kd_p)
  k_steps
  all_goals (try kd_p)
  refine ws_out ?_
  (try kd_p)
  (try dsimp only)
  with_reducible exact @hnext g' m₁ nw _ _ F9 N1 hn1 hX1 hS1 hab hsame
 ·exact hE
end
section
local macro_rules | `(tactic| walk_at "exec For Name Name cons nil") => `(tactic| k_extra "W83")
local macro_rules | `(tactic| walk_at "execs cons") => `(tactic| k_extra "W94")
local macro_rules | `(tactic| walk_at "call ref") => `(tactic| k_extra "W95")
section
variable {prog : Program} {w : World} {A₀ A : Around} {E : Value → Shared → Prop} {s s' : Shared} {base h₀ g G : Heap} {outer : List Env} {L a e t C : Addr} {m : Str → Option Value} {cn : Str} {cs : Scope} {ccd : Value} {cl : List (Str × Addr)} {news : List (Addr × Obj)} {KF : Frag} {p : Program} {loose : List Str} {mean : ExcName → Option Value} {mg mb : Str → Option Value}
 {vs : List Value} {b₀ : Stmt} {suite : List Stmt} {pos np : Pos} {rest : List ExceptHandler} {Q : Flow → Shared → Prop} {x : Str}
theorem caught_XA {g₀ : Heap} (hA : A = A₀.deeper (envX cn cs L a ccd cl)) (R : RaisedS base G (envX cn cs L a ccd cl :: outer) e (.ref C) t vs news s'.heap) (F : Fr g L G m) (hsm : G.UpToSlots s'.heap) (XB : KF.In base) (TB : Top p loose mean mg mb base)
  (Gg : Gr A₀ base outer KF p loose mean mg mb g₀ g) (ex : nsIn KF mainGlobals x = some (some (.ref C))) (q : ktsIn KF C "BaseException" = true)
  (k : ∀ h' g', Gr A₀ base outer KF p loose mean mg mb g₀ g' → Fr g' L h' m → News g' L h' news →
   wpAny (model prog w) (A.mark (some (.ref e))) (execs (b₀ :: suite) (envX cn cs L a ccd cl)) Q E { s' with heap := h' })
  (hk : cs.kind = .function) (hx : (envX cn cs L a ccd cl).kindOf x = some .globalImplicit) (hd : (x == ("__debug__" : Str)) = false)
  (hE : PassesOwnAt (model prog w) (A.mark (some (.ref e))) A (envX cn cs L a ccd cl) E) :
  wpAny (model prog w) A (noteFrame (.ref e) (envX cn cs L a ccd cl))
   (fun _ s₂ => wpAny (model prog w) A (setFlight (.ref e) none) (fun _ s₃ =>
    wpAny (model prog w) A (handleBy (.ref e) (envX cn cs L a ccd cl) (.ExceptHandler (some (.Name x np)) none (b₀ :: suite) pos :: rest)) Q E s₃) E s₂) E s' := by
 subst hA
 exact caught_X0 R F hsm XB TB Gg ex q k hk hx hd hE
end
noncomputable def LPF (w : World) (b : List Stmt) (cs : Scope) : Prop := ∀ {dp un : Nat} {gd : Option (List Code)} {cn : Str} {a : Addr} {ccd : Value} {A₀ : Around} {base h₀ : Heap} {L : Addr} {m : Str → Option Value} {news : List (Addr × Obj)} {s : Shared} {mean : ExcName → Option Value} {mg mb : Str → Option Value} {Q : Flow → Shared → Prop} {E : Value → Shared → Prop} (B : Below A₀ base [] h₀) (KX : Frag.In (Mine.hd.heap_39 w.params) h₀) (N : News h₀ L s.heap news) (T : Top Mine.hd.view_39 (looseW Mine.hd.view_39 [Str.ofString "_NodeInfo"]) mean mg mb h₀) (hk : cs.kind = .function) (XB : Frag.In (Mine.hd.heap_39 w.params) base) (TB : Top Mine.hd.view_39 (looseW Mine.hd.view_39 [Str.ofString "_NodeInfo"]) mean mg mb base) (KD : KtsDicts (([] : List Env).filterMap (·.frame)) h₀) (hnd : ND news) {C Rw Sx Rn : Addr} {X : List (Addr × Obj)} {g : G} (hX : ∀ p ∈ X, p ∈ news ∧ ¬ Own Sx g p.1)
  (hS : SIn w Sx news g) (hrdy : g.rdy = none) (hcl : ∀ j ∈ g.ord, ∀ k ∈ g.su j, k ∈ g.ord) (hb : ∀ j, (g.su j).length ≤ 1000)
  (hA : (ktrTop dp un gd cn cs L a ccd [(Str.ofString "files", C)] []) = A₀.deeper (envX cn cs L a ccd [(Str.ofString "files", C)])) (hEm : ∀ e : Addr, PassesOwnAt (model PySem.Challenge.rw_ik0081_01.prog w) ((ktrTop dp un gd cn cs L a ccd [(Str.ofString "files", C)] []).mark (some (.ref e))) (ktrTop dp un gd cn cs L a ccd [(Str.ofString "files", C)] []) (envX cn cs L a ccd [(Str.ofString "files", C)]) E)
  (F : Fr h₀ L s.heap (fun y => if y = Str.ofString "rows" then some (.ref Rw) else if y = Str.ofString "sorter" then some (.ref Sx) else if y = Str.ofString "rounds" then some (.ref Rn) else if y = Str.ofString "ring" then some (.bool false) else m y))
  (hnext : ∀ (h₀' : Heap) (R : Addr) (rb : Bool) (m' : Str → Option Value) (nw' : List (Addr × Obj)) (h' : Heap) (tk' : Nat), Gr A₀ base [] (Mine.hd.heap_39 w.params) Mine.hd.view_39 (looseW Mine.hd.view_39 [Str.ofString "_NodeInfo"]) mean mg mb h₀ h₀' →
   Fr h₀' L h' (fun y => if y = Str.ofString "rows" then some (.ref Rw) else if y = Str.ofString "sorter" then some (.ref Sx) else if y = Str.ofString "rounds" then some (.ref Rn) else if y = Str.ofString "ring" then some (.bool rb) else m' y) → News h₀' L h' nw' → ND nw' →
   (∀ p ∈ X, p ∈ nw' ∧ ¬ Own Sx { g with rdy := some (R, g.ord.filter fun j => decide (g.np j = 0)) } p.1) → SIn w Sx nw' { g with rdy := some (R, g.ord.filter fun j => decide (g.np j = 0)) } →
   (rb = false → ∃ fin, Topo g.su fin ∧ fin.Nodup ∧ ∀ j, j ∈ fin ↔ j ∈ g.ord) → (rb = true → ∃ l, (∀ j ∈ l, j ∈ g.ord) ∧ Ring g.su l) →
   wpAny (model PySem.Challenge.rw_ik0081_01.prog w) (ktrTop dp un gd cn cs L a ccd [(Str.ofString "files", C)] []) (execs (b.drop 11) (envX cn cs L a ccd [(Str.ofString "files", C)])) Q E { s with heap := h', toks := tk' })
  (hd : dp + 100 < recursionLimit) (hu : un + 900 < cLine) (hE : PassesOwn (model PySem.Challenge.rw_ik0081_01.prog w) (ktrTop dp un gd cn cs L a ccd [(Str.ofString "files", C)] []) (envX cn cs L a ccd [(Str.ofString "files", C)]) E),
  wpAny (model PySem.Challenge.rw_ik0081_01.prog w) (ktrTop dp un gd cn cs L a ccd [(Str.ofString "files", C)] []) (execs (b.drop 10) (envX cn cs L a ccd [(Str.ofString "files", C)])) Q E s
theorem law_F (w : World) : ∃ b cs, LawFn w b cs ∧ LPF w b cs := by
 refine ⟨_, _, ⟨_, _, _, _, _, _, _, _, _, _, _, _, _, by k_is⟩, ?_⟩
 intro dp un gd cn a ccd A₀ base h₀ L m news s mean mg mb Q E B KX N T hk XB TB KD hnd C Rw Sx Rn X g hX hS hrdy hcl hb hA hEm F hnext hd hu hE
 simp only [List.drop_succ_cons, List.drop_zero]
 simp only [List.drop_succ_cons, List.drop_zero] at hnext
 have KX' := KX
 clear KX
 have T' := T
 clear T
 have hself := hS.self
 (try kd_p)
 refine e6_1 hS.dict ?_
 intro t1 t2 t3 t4 tp tn hdict
 have hrv : g.rdyV = .none := by unfold G.rdyV; rw [hrdy]
 rw [hrv] at hdict
 (try kd_p)
 k_steps
 all_goals (try kd_p)
 show wpAny _ _ (exec (.Try _ _ _ [] _) _) _ _ _
 refine wpAny_Try_except ?_
 (try kd_p)
 k_steps
 all_goals (try kd_p)
 refine ws_out ?_
 (try kd_p)
 show wpAny _ _ (call (.ref 99) [.ref Sx]) _ _ _
 k_dflt (refine' prepare_spec ?zB F ?zX N ?zT ?zk XB TB KD hS hnd hrdy hcl hb ?zd ?zu ?_ ?_)
 case zB => k_asm
 case zX => k_asm
 case zT => k_asm
 case zk => exact rfl
 case zd => ktr_room
 case zu => ktr_units
 ·intro R g0 nw1 h1 tk1 G1 F1 N1 P1 ht
  have B2 := G1.below
  have T2 := G1.top
  have X2 := G1.kin
  (try kd_p)
  k_steps
  all_goals (try kd_p)
  rename Fr g0 L _ _ => F7
  rename News g0 L _ nw1 => N7
  (try kd_p)
  obtain ⟨m7, em7, F8⟩ : ∃ m7, m7 = _ ∧ Fr g0 L _ m7 := ⟨_, rfl, F7⟩
  have e1 : m7 (Str.ofString "rows") = some (.ref Rw) := by rw [em7]; rfl
  have e2 : m7 (Str.ofString "sorter") = some (.ref Sx) := by rw [em7]; rfl
  have e3 : m7 (Str.ofString "rounds") = some (.ref Rn) := by rw [em7]; rfl
  have e4 : m7 (Str.ofString "ring") = some (.bool false) := by rw [em7]; rfl
  clear em7 F7
  have F9 := fr_map F8 (fun y => congrFun (put4 e1 e2 e3 e4) y)
  refine ws_out ?_
  (try kd_p)
  (try dsimp only)
  with_reducible exact @hnext g0 R false m7 nw1 _ _ G1 F9 N7 P1.nd (fun p hp => P1.keep p (hX p hp).1 (hX p hp).2) P1.sin (fun _ => ht) (fun e => by cases e)
 ·intro R g0 G0 e t vs nw1 h1 tk1 G1 F1 R1 hup P1 hring
  show wpAny _ _ (noteFrame (.ref e) _) _ _ _
  refine caught_XA (x := Str.ofString "CycleError") hA R1 F1 hup XB TB G1 ?ex ?q ?kk rfl rfl (by decide) ?hE
  case ex => k_is
  case q => kts_isx
  case hE => exact hEm e
  case kk =>
   intro h2 g2 G2 F2 N2
   have B2 := G2.below
   have T2 := G2.top
   have X2 := G2.kin
   (try kd_p)
   k_steps
   all_goals (try kd_p)
   rename Fr g2 L _ _ => F7
   rename News g2 L _ nw1 => N7
   (try kd_p)
   obtain ⟨m7, em7, F8⟩ : ∃ m7, m7 = _ ∧ Fr g2 L _ m7 := ⟨_, rfl, F7⟩
   have e1 : m7 (Str.ofString "rows") = some (.ref Rw) := by rw [em7]; rfl
   have e2 : m7 (Str.ofString "sorter") = some (.ref Sx) := by rw [em7]; rfl
   have e3 : m7 (Str.ofString "rounds") = some (.ref Rn) := by rw [em7]; rfl
   have e4 : m7 (Str.ofString "ring") = some (.bool true) := by rw [em7]; rfl
   clear em7 F7
   have F9 := fr_map F8 (fun y => congrFun (put4 e1 e2 e3 e4) y)
   refine ws_out ?_
   (try kd_p)
   (try dsimp only)
   with_reducible exact @hnext g2 R true m7 nw1 _ _ G2 F9 N7 P1.nd (fun p hp => P1.keep p (hX p hp).1 (hX p hp).2) P1.sin (fun e => by cases e) (fun _ => hring)
end
section
noncomputable def Wl (ws : List Nat) : List Nat := (ws.take 1 ++ ws.take 1) ++ ws.drop 1
noncomputable def SuOk (need su : Nat → List Nat) : Prop := (∀ j < 5, ∀ k ∈ su j, k < 5) ∧ ∀ j < 5, ∀ k < 5, (su j).count k = (Wl (need k)).count j
structure Live (need : Nat → List Nat) (K : List Nat) (np : Nat → Int) (r : List Nat) (po nf : Int) : Prop where
 nd : K.Nodup
 lt : ∀ j ∈ K, j < 5
 cnt : ∀ k < 5, k ∉ K → np k = ((Wl (need k)).countP (fun x => decide (x ∉ K)) : Nat)
 sq : ∀ (i k : Nat), K[i]? = some k → ∀ x ∈ need k, x ∈ K.take i
 perm : r.Perm (freeOf need K)
 po : po = K.length
 nf : nf = K.length
theorem Live.cl {need : Nat → List Nat} {K r : List Nat} {np : Nat → Int} {po nf : Int} (h : Live need K np r po nf) : ∀ k ∈ K, ∀ x ∈ need k, x ∈ K := fun k hk x hx => by
 obtain ⟨i, hi, e⟩ := List.mem_iff_getElem.mp hk
 exact List.mem_of_mem_take (h.sq i k (by rw [List.getElem?_eq_getElem hi, e]) x hx)
theorem Live.rnd {need : Nat → List Nat} {K r : List Nat} {np : Nat → Int} {po nf : Int} (h : Live need K np r po nf) : r.Nodup := h.perm.nodup_iff.mpr (freeOf_nodup _ _)
theorem Live.rlt {need : Nat → List Nat} {K r : List Nat} {np : Nat → Int} {po nf : Int} (h : Live need K np r po nf) : ∀ j ∈ r, j < 5 := fun j hj => (freeOf_new (h.perm.mem_iff.mp hj)).1
theorem Wl_mem {ws : List Nat} {x : Nat} : x ∈ Wl ws ↔ x ∈ ws := by
 cases ws with
 | nil => simp [Wl]
 | cons a r => simp [Wl]
theorem free_iff {need : Nat → List Nat} {K : List Nat} {k : Nat} : k ∈ freeOf need K ↔ k < 5 ∧ k ∉ K ∧ ∀ x ∈ need k, x ∈ K := by
 unfold freeOf free1
 rw [List.mem_filter, List.mem_range]
 simp only [Bool.and_eq_true, Bool.not_eq_true', List.isEmpty_iff, List.filter_eq_nil_iff, ← Bool.not_eq_true, List.contains_iff_mem, Decidable.not_not]
theorem Live.apart {need su : Nat → List Nat} {K r : List Nat} {np : Nat → Int} {po nf : Int} (h : Live need K np r po nf) (hsu : SuOk need su) : ∀ i ∈ r, ∀ j ∈ r, j ∉ su i := by
 intro i hi j hj hs
 have fi := free_iff.mp (h.perm.mem_iff.mp hi)
 have fj := free_iff.mp (h.perm.mem_iff.mp hj)
 have hc := hsu.2 i fi.1 j fj.1
 have h1 : 0 < (su i).count j := List.count_pos_iff.mpr hs
 rw [hc] at h1
 exact fi.2.1 (fj.2.2 i (Wl_mem.mp (List.count_pos_iff.mp h1)))
theorem outs_at (j : Nat) : ∀ (r : List Nat) (np : Nat → Int), (r.foldl (fun f j => set1 f j (-1)) np) j = if j ∈ r then -1 else np j
 | [], np => by simp
 | i :: r, np => by
  rw [List.foldl_cons, outs_at j r]
  by_cases h : j ∈ r
  ·rw [if_pos h, if_pos (.tail _ h)]
  ·rw [if_neg h]
   by_cases e : j = i
   ·subst e
    rw [set1_self, if_pos (.head _)]
   ·rw [set1_ne _ _ e, if_neg (fun q => (List.mem_cons.mp q).elim e h)]
theorem outs (np : Nat → Int) (r : List Nat) : ∀ j ∈ r, (r.foldl (fun f j => set1 f j (-1)) np) j = -1 := fun j hj => by rw [outs_at, if_pos hj]
theorem live_start {need : Nat → List Nat} {ord : List Nat} {np : Nat → Int} {po nf : Int} (h1 : ∀ j, j ∈ ord ↔ j < 5) (h3 : ∀ k < 5, np k = ((Wl (need k)).length : Nat)) (hn : ord.Nodup) (hpo : po = 0) (hnf : nf = 0) : Live need [] np (ord.filter fun j => decide (np j = 0)) po nf where
 nd := List.nodup_nil
 lt := fun j hj => by cases hj
 cnt := fun k hk _ => by
  rw [h3 k hk]
  congr 1
  exact (List.countP_eq_length.mpr fun a _ => by simp).symm
 sq := fun i k e => by cases e
 perm := by
  refine (List.perm_ext_iff_of_nodup (List.Nodup.sublist List.filter_sublist hn) (freeOf_nodup _ _)).mpr fun k => ?_
  rw [List.mem_filter, h1, free_iff, decide_eq_true_eq]
  constructor
  ·intro hR0
   refine e0_2 hR0 ?_
   (try clear hR0); intro a b
   rw [h3 k a] at b
   have h0 : (Wl (need k)).length = 0 := by exact o126 b
   refine i0_3 a (by simp) (fun x hx => ?_)
   have : x ∈ Wl (need k) := Wl_mem.mpr hx
   rw [List.length_eq_zero_iff.mp h0] at this
   exact this
  ·intro hR0
   refine e0_3 hR0 ?_
   (try clear hR0); intro a _ b
   refine ⟨a, ?_⟩
   rw [h3 k a]
   have : Wl (need k) = [] := List.eq_nil_iff_forall_not_mem.mpr fun x hx => by
    have := b x (Wl_mem.mp hx)
    cases this
   rw [this]; rfl
 po := by rw [hpo]; rfl
 nf := by rw [hnf]; rfl
theorem hits_all : ∀ (l : List Nat) (st : (Nat → Int) × List Nat), (∀ k ∈ l, ((l.count k : Nat) : Int) ≤ st.1 k) →
  (∀ k, (l.foldl hit st).1 k = st.1 k - (l.count k : Nat)) ∧ (∀ x, x ∈ (l.foldl hit st).2 ↔ x ∈ st.2 ∨ (x ∈ l ∧ st.1 x = (l.count x : Nat))) ∧ (st.2.Nodup → (∀ x ∈ l, x ∉ st.2) → (l.foldl hit st).2.Nodup)
 | [], st, _ => ⟨fun k => by simp, fun x => by simp, fun h _ => h⟩
 | a :: l, st, h => by
  have ha := h a (.head _)
  have hca : (a :: l).count a = l.count a + 1 := by simp
  have hco : ∀ k, k ≠ a → (a :: l).count k = l.count k := fun k hk => List.count_cons_of_ne (Ne.symm hk)
  have s1 : (hit st a).1 a = st.1 a - 1 := by simp [hit]
  have s2 : ∀ k, k ≠ a → (hit st a).1 k = st.1 k := fun k hk => by simp [hit, set1_ne _ _ hk]
  have hyp : ∀ k ∈ l, ((l.count k : Nat) : Int) ≤ (hit st a).1 k := fun k hk => by
   by_cases e : k = a
   ·subst e
    rw [s1]
    rw [hca] at ha
    exact o84 ha
   ·rw [s2 k e, ← hco k e]
    exact h k (.tail _ hk)
  refine e0_3 (hits_all l (hit st a) hyp) ?_
  intro i1 i2 i3
  have s3 : (hit st a).2 = if st.1 a - 1 = 0 then st.2 ++ [a] else st.2 := rfl
  have hz : st.1 a - 1 = 0 → l.count a = 0 := fun e => by rw [hca] at ha; exact o49 ha e
  refine i0_3 (fun k => ?_) (fun x => ?_) (fun hn hx => ?_)
  ·rw [List.foldl_cons, i1]
   by_cases e : k = a
   ·subst e; rw [s1, hca]; exact o82
   ·rw [s2 k e, hco k e]
  ·rw [List.foldl_cons, i2, s3]
   by_cases e : x = a
   ·subst e
    rw [s1, hca]
    by_cases z : st.1 x - 1 = 0
    ·rw [if_pos z]
     have z2 := hz z
     constructor
     ·intro _
      exact .inr ⟨.head _, by (exact o64 s1 z z2)⟩
     ·intro _
      exact .inl (List.mem_append_right _ (.head _))
    ·rw [if_neg z]
     constructor
     ·rintro (q | ⟨q1, q2⟩)
      ·exact .inl q
      ·exact .inr ⟨.head _, by (exact o61 s1 q2)⟩
     ·rintro (q | ⟨_, q2⟩)
      ·exact .inl q
      ·right
       refine ⟨List.count_pos_iff.mp (by exact o79 ‹_› ‹_›), by (exact o103 q2)⟩
   ·rw [s2 x e, hco x e]
    have m1 : x ∈ (a :: l) ↔ x ∈ l := ⟨fun q => (List.mem_cons.mp q).resolve_left e, .tail _⟩
    rw [m1]
    by_cases z : st.1 a - 1 = 0
    ·rw [if_pos z, List.mem_append, List.mem_singleton]
     simp [e]
    ·rw [if_neg z]
  ·rw [List.foldl_cons]
   refine i3 ?_ ?_
   ·rw [s3]
    split
    ·exact List.nodup_append.mpr ⟨hn, by simp, fun x hx1 y hy e => hx a (.head _) (by rw [List.mem_singleton.mp hy] at e; exact e ▸ hx1)⟩
    ·exact hn
   ·intro x hxl
    rw [s3]
    split
    ·rename_i z
     intro q
     rcases List.mem_append.mp q with q | q
     ·exact hx x (.tail _ hxl) q
     ·rw [List.mem_singleton.mp q] at hxl
      exact absurd (List.count_pos_iff.mpr hxl) (by rw [hz z]; exact Nat.lt_irrefl _)
    ·exact hx x (.tail _ hxl)
theorem dones_all (su : Nat → List Nat) : ∀ (js : List Nat) (st : (Nat → Int) × List Nat), js.Nodup → (∀ k ∈ js.flatMap su, k ∉ js) → (∀ k ∈ js.flatMap su, (((js.flatMap su).count k : Nat) : Int) ≤ st.1 k) →
  (∀ k, (js.foldl (done1 su) st).1 k = if k ∈ js then -2 else st.1 k - ((js.flatMap su).count k : Nat)) ∧ (∀ x, x ∈ (js.foldl (done1 su) st).2 ↔ x ∈ st.2 ∨ (x ∈ js.flatMap su ∧ st.1 x = ((js.flatMap su).count x : Nat))) ∧ (st.2.Nodup → (∀ x ∈ js.flatMap su, x ∉ st.2) → (js.foldl (done1 su) st).2.Nodup)
 | [], st, _, _, _ => ⟨fun k => by simp, fun x => by simp, fun h _ => h⟩
 | j :: js, st, hn, hd, hc => by
  have hfm : (j :: js).flatMap su = su j ++ js.flatMap su := List.flatMap_cons
  rw [hfm] at hd hc
  have hjs := (List.nodup_cons.mp hn).1
  have hjn := (List.nodup_cons.mp hn).2
  have hj0 : j ∉ su j ++ js.flatMap su := fun q => hd j q (.head _)
  have hct : ∀ k, (su j ++ js.flatMap su).count k = (su j).count k + (js.flatMap su).count k := fun k => List.count_append
  have cj1 : (su j).count j = 0 := List.count_eq_zero.mpr fun q => hj0 (List.mem_append_left _ q)
  have cj2 : (js.flatMap su).count j = 0 := List.count_eq_zero.mpr fun q => hj0 (List.mem_append_right _ q)
  have ne1 : ∀ k ∈ su j ++ js.flatMap su, k ≠ j := fun k hk e => hj0 (e ▸ hk)
  obtain ⟨a1, a2, a3⟩ := hits_all (su j) (set1 st.1 j (-2), st.2) fun k hk => by
   have h1 := hc k (List.mem_append_left _ hk)
   rw [hct] at h1
   show _ ≤ set1 st.1 j (-2) k
   rw [set1_ne _ _ (ne1 k (List.mem_append_left _ hk))]
   exact o93 h1
  refine gen1 ((su j).foldl hit (set1 st.1 j (-2), st.2)) ?_
  intro st' est
  rw [← est] at a1 a2 a3
  have b1 : ∀ k, k ≠ j → st'.1 k = st.1 k - ((su j).count k : Nat) := fun k hk => by rw [a1]; simp only [set1_ne _ _ hk]
  have b0 : st'.1 j = -2 := by rw [a1, cj1]; simp
  have hstep : (j :: js).foldl (done1 su) st = js.foldl (done1 su) st' := by rw [List.foldl_cons, est]; rfl
  obtain ⟨i1, i2, i3⟩ := dones_all su js st' hjn (fun k hk q => hd k (List.mem_append_right _ hk) (.tail _ q)) fun k hk => by
   have h1 := hc k (List.mem_append_right _ hk)
   rw [hct] at h1
   rw [b1 k (ne1 k (List.mem_append_right _ hk))]
   exact o100 h1
  rw [hstep, hfm]
  refine i0_3 (fun k => ?_) (fun x => ?_) (fun h1 h2 => ?_)
  ·rw [i1]
   by_cases e : k = j
   ·subst e
    rw [if_neg hjs, if_pos (.head _), b0, cj2]
    rfl
   ·by_cases m : k ∈ js
    ·rw [if_pos m, if_pos (.tail _ m)]
    ·rw [if_neg m, if_neg (fun q => (List.mem_cons.mp q).elim e m), b1 k e, hct]
     exact o105
  ·rw [i2, a2, hct, List.mem_append]
   dsimp only
   constructor
   ·rintro ((q | ⟨q1, q2⟩) | ⟨q1, q2⟩)
    ·exact .inl q
    ·have ne := ne1 x (List.mem_append_left _ q1)
     rw [set1_ne _ _ ne] at q2
     have h1 := hc x (List.mem_append_left _ q1)
     rw [hct] at h1
     exact .inr ⟨.inl q1, by (exact o102 q2 h1)⟩
    ·have ne := ne1 x (List.mem_append_right _ q1)
     rw [b1 x ne] at q2
     exact .inr ⟨.inr q1, by (exact o96 q2)⟩
   ·rintro (q | ⟨q1, q2⟩)
    ·exact .inl (.inl q)
    ·have ne : x ≠ j := ne1 x (List.mem_append.mpr q1)
     by_cases z : (js.flatMap su).count x = 0
     ·refine .inl (.inr ⟨?_, by rw [set1_ne _ _ ne]; (exact o70 q2 z)⟩)
      rcases q1 with q1 | q1
      ·exact q1
      ·exact absurd (List.count_pos_iff.mpr q1) (by exact fun hom => o119 hom z)
     ·exact .inr ⟨List.count_pos_iff.mp (by exact Nat.pos_of_ne_zero z), by rw [b1 x ne]; (exact o69 q2)⟩
  ·refine i3 (a3 h1 fun x hx => h2 x (List.mem_append_left _ hx)) fun x hx q => ?_
   rcases (a2 x).mp q with q | ⟨q1, q2⟩
   ·exact h2 x (List.mem_append_right _ hx) q
   ·have ne := ne1 x (List.mem_append_left _ q1)
    dsimp only at q2
    rw [set1_ne _ _ ne] at q2
    have h3 := hc x (List.mem_append_left _ q1)
    rw [hct] at h3
    have := List.count_pos_iff.mpr hx
    exact o144 q2 h3 this
theorem sum_count (ws : List Nat) : ∀ {r : List Nat}, r.Nodup → (r.map fun j => ws.count j).sum = ws.countP (fun x => decide (x ∈ r))
 | [], _ => by
  rw [List.map_nil, List.sum_nil]
  exact (List.countP_eq_zero.mpr fun a _ => by simp).symm
 | j :: r, h => by
  refine e0_2 (List.nodup_cons.mp h) ?_
  intro h1 h2
  rw [List.map_cons, List.sum_cons, sum_count ws h2]
  induction ws with
  | nil => rfl
  | cons a ws ih =>
   rw [List.countP_cons, List.countP_cons, List.count_cons, ← ih]
   by_cases e : a = j
   ·subst e
    simp [h1]
    exact Nat.add_right_comm _ _ _
   ·simp [e]
    exact Eq.symm (Nat.add_assoc _ _ _)
theorem count_flat {su : Nat → List Nat} {x : Nat} : ∀ r : List Nat, (r.flatMap su).count x = (r.map fun j => (su j).count x).sum
 | [] => rfl
 | j :: r => by rw [List.flatMap_cons, List.count_append, count_flat r, List.map_cons, List.sum_cons]
theorem split_count {K r K' : List Nat} (hK' : ∀ x, x ∈ K' ↔ x ∈ K ∨ x ∈ r) (hd : ∀ x ∈ r, x ∉ K) : ∀ ws : List Nat, ws.countP (fun x => decide (x ∉ K)) = ws.countP (fun x => decide (x ∉ K')) + ws.countP (fun x => decide (x ∈ r))
 | [] => rfl
 | a :: ws => by
  have ih := split_count hK' hd ws
  rw [List.countP_cons, List.countP_cons, List.countP_cons, ih]
  by_cases h1 : a ∈ K
  ·have h2 : a ∉ r := fun q => hd a q h1
   have h3 : a ∈ K' := (hK' a).mpr (.inl h1)
   simp [h1, h2, h3]
  ·by_cases h2 : a ∈ r
   ·have h3 : a ∈ K' := (hK' a).mpr (.inr h2)
    simp [h1, h2, h3]
    exact Nat.add_assoc _ _ _
   ·have h3 : a ∉ K' := fun q => ((hK' a).mp q).elim h1 h2
    simp [h1, h2, h3]
    exact Nat.add_right_comm _ _ _
theorem live_step {need su : Nat → List Nat} {K r : List Nat} {np : Nat → Int} {po nf : Int} (h : Live need K np r po nf) (hsu : SuOk need su) :
  Live need (K ++ freeOf need K) (r.foldl (done1 su) (r.foldl (fun f j => set1 f j (-1)) np, [])).1 (r.foldl (done1 su) (r.foldl (fun f j => set1 f j (-1)) np, [])).2 (po + r.length) (nf + r.length) := by
 refine gen1 (K ++ freeOf need K) ?_
 intro K' eK
 have rm : ∀ x, x ∈ r ↔ x ∈ freeOf need K := fun x => h.perm.mem_iff
 have hK' : ∀ x, x ∈ K' ↔ x ∈ K ∨ x ∈ r := fun x => by rw [eK, List.mem_append, rm]
 have hd : ∀ x ∈ r, x ∉ K := fun x hx => (free_iff.mp ((rm x).mp hx)).2.1
 have fl : ∀ k < 5, (r.flatMap su).count k = (Wl (need k)).countP (fun x => decide (x ∈ r)) := fun k hk => by
  rw [count_flat, ← sum_count _ h.rnd]
  congr 1
  exact List.map_congr_left fun j hj => hsu.2 j (h.rlt j hj) k hk
 have inf : ∀ k ∈ r.flatMap su, k < 5 ∧ k ∉ r ∧ k ∉ K := fun k hk => by
  refine e1_2 (List.mem_flatMap.mp hk) ?_
  intro j hj hkj
  have hj5 := h.rlt j hj
  have hk5 := hsu.1 j hj5 k hkj
  refine i0_3 hk5 (fun q => h.apart hsu j hj k q hkj) (fun q => ?_)
  have hc := hsu.2 j hj5 k hk5
  have h1 : 0 < (su j).count k := List.count_pos_iff.mpr hkj
  rw [hc] at h1
  exact hd j hj (h.cl k q j (Wl_mem.mp (List.count_pos_iff.mp h1)))
 have np1 : ∀ k, k ∉ r → (r.foldl (fun f j => set1 f j (-1)) np) k = np k := fun k hk => by rw [outs_at, if_neg hk]
 have sp := fun k => split_count hK' hd (Wl (need k))
 obtain ⟨a1, a2, a3⟩ := dones_all su r (r.foldl (fun f j => set1 f j (-1)) np, []) h.rnd (fun k hk => (inf k hk).2.1) fun k hk => by
  refine e0_3 (inf k hk) ?_
  intro k5 kr kK
  dsimp only
  rw [np1 k kr, h.cnt k k5 kK, fl k k5, sp k]
  exact o106
 rw [← eK]
 refine ⟨?_, ?_, ?_, ?_, ?_, ?_, ?_⟩
 ·rw [eK]
  exact (known_add (need := need) h.nd h.lt).1
 ·rw [eK]
  exact (known_add (need := need) h.nd h.lt).2
 ·intro k hk hkK
  have kr : k ∉ r := fun q => hkK ((hK' k).mpr (.inr q))
  have kK : k ∉ K := fun q => hkK ((hK' k).mpr (.inl q))
  rw [a1, if_neg kr]
  dsimp only
  rw [np1 k kr, h.cnt k hk kK, fl k hk, sp k]
  exact o94
 ·intro i k e x hx
  rw [eK] at e ⊢
  by_cases hi : i < K.length
  ·rw [List.getElem?_append_left hi] at e
   rw [List.take_append_of_le_length (by exact Nat.le_of_lt hi)]
   exact h.sq i k e x hx
  ·rw [List.getElem?_append_right (by exact Nat.le_of_not_lt hi)] at e
   have hf := (free_iff.mp (List.mem_of_getElem? e)).2.2 x hx
   rw [List.take_append, List.take_of_length_le (by exact Nat.le_of_not_lt hi)]
   exact List.mem_append_left _ hf
 ·refine (List.perm_ext_iff_of_nodup (a3 List.nodup_nil fun x _ q => by cases q) (freeOf_nodup _ _)).mpr fun x => ?_
  rw [a2, free_iff]
  dsimp only
  constructor
  ·rintro (q | ⟨q1, q2⟩)
   ·cases q
   ·refine e0_3 (inf x q1) ?_
    intro x5 xr xK
    rw [np1 x xr, h.cnt x x5 xK, fl x x5, sp x] at q2
    have z : (Wl (need x)).countP (fun y => decide (y ∉ K')) = 0 := by exact o91 q2
    refine i0_3 x5 (fun q => ((hK' x).mp q).elim xK xr) (fun y hy => ?_)
    have := List.countP_eq_zero.mp z y (Wl_mem.mpr hy)
    simpa using this
  ·intro hR0
   refine e0_3 hR0 ?_
   (try clear hR0); intro x5 xK' hall
   have xr : x ∉ r := fun q => xK' ((hK' x).mpr (.inr q))
   have xK : x ∉ K := fun q => xK' ((hK' x).mpr (.inl q))
   have z : (Wl (need x)).countP (fun y => decide (y ∉ K')) = 0 := List.countP_eq_zero.mpr fun y hy => by simpa using hall y (Wl_mem.mp hy)
   right
   rw [np1 x xr, h.cnt x x5 xK, fl x x5, sp x, z]
   refine ⟨?_, by (exact o99)⟩
   refine List.count_pos_iff.mp ?_
   rw [fl x x5]
   have : ¬ ∀ y ∈ need x, y ∈ K := fun q => xr ((rm x).mpr (free_iff.mpr ⟨x5, xK, q⟩))
   refine e1_1 (Classical.not_forall.mp this) ?_
   intro y hy
   refine e0_2 (Classical.not_imp.mp hy) ?_
   intro hy1 hy2
   have hyr := ((hK' y).mp (hall y hy1)).resolve_left hy2
   exact List.countP_pos_iff.mpr ⟨y, Wl_mem.mpr hy1, by simpa using hyr⟩
 ·rw [h.po, eK, List.length_append, h.perm.length_eq]
  exact o136
 ·rw [h.nf, eK, List.length_append, h.perm.length_eq]
  exact o136
theorem roundsGo_at {need : Nat → List Nat} : ∀ (n : Nat) (K : List Nat) {i : Nat} {due : List Nat}, (roundsGo need n K)[i]? = some due → due = freeOf need (K ++ ((roundsGo need n K).take i).flatten) ∧ due ≠ []
 | 0, K, i, due, h => by cases h
 | n + 1, K, i, due, h => by
  rw [roundsGo] at h ⊢
  by_cases hf : freeOf need K = []
  ·rw [if_pos hf] at h; cases h
  ·rw [if_neg hf] at h ⊢
   cases i with
   | zero =>
    cases h
    refine ⟨?_, hf⟩
    simp
   | succ i =>
    have h' : (roundsGo need n (K ++ freeOf need K))[i]? = some due := h
    refine e0_2 (roundsGo_at n _ h') ?_
    intro a b
    refine ⟨?_, b⟩
    rw [List.take_succ_cons, List.flatten_cons, ← List.append_assoc]
    exact a
theorem rounds_at {need : Nat → List Nat} {i : Nat} {due : List Nat} (h : (rounds need)[i]? = some due) : due = freeOf need ((rounds need).take i).flatten ∧ due ≠ [] := by
 refine e0_2 (roundsGo_at 6 [] h) ?_
 intro a b
 rw [List.nil_append] at a
 exact ⟨a, b⟩
theorem roundsGo_end {need : Nat → List Nat} : ∀ (n : Nat) (K : List Nat), K.Nodup → (∀ j ∈ K, j < 5) → 6 - K.length ≤ n → freeOf need (K ++ (roundsGo need n K).flatten) = []
 | 0, K, hn, h5, hf => by
  have := nodup_len 5 _ hn h5
  exact False.elim (o37 hf this)
 | n + 1, K, hn, h5, hf => by
  rw [roundsGo]
  by_cases h : freeOf need K = []
  ·rw [if_pos h, List.flatten_nil, List.append_nil]; exact h
  ·rw [if_neg h, List.flatten_cons, ← List.append_assoc]
   first | refine e1_1 (known_add (need := need) hn h5) ?_ | refine e0_2 (known_add (need := need) hn h5) ?_
   intro a b
   have hp : 0 < (freeOf need K).length := List.length_pos_iff.mpr h
   exact roundsGo_end n _ a b (by rw [List.length_append]; (exact o7 hf hp))
theorem rounds_end (need : Nat → List Nat) : freeOf need (rounds need).flatten = [] := by
 have := roundsGo_end (need := need) 6 [] List.nodup_nil (fun j hj => by cases hj) (by decide)
 rw [List.nil_append] at this
 exact this
theorem topo_suffix {su : Nat → List Nat} : ∀ {pre l : List Nat}, Topo su (pre ++ l) → Topo su l
 | [], _, h => h
 | _ :: _, _, h => topo_suffix h.2
theorem topo_mem {su : Nat → List Nat} : ∀ {l : List Nat} {u : Nat}, Topo su l → u ∈ l → ∀ k ∈ su u, k ∈ l
 | a :: l, u, h, hu, k, hk => by
  rcases List.mem_cons.mp hu with q | q
  ·rw [q] at hk; exact .tail _ (h.1 k hk)
  ·exact .tail _ (topo_mem h.2 q k hk)
theorem live_topo {need su : Nat → List Nat} {K r : List Nat} {np : Nat → Int} {po nf : Int} (h : Live need K np r po nf) (hsu : SuOk need su) (hn5 : ∀ k < 5, ∀ j ∈ need k, j < 5) (he : freeOf need K = []) {fin : List Nat} (ht : Topo su fin) (hn : fin.Nodup) (hf : ∀ j, j ∈ fin ↔ j < 5) : ¬ K.length < 5 := by
 have all : ∀ (rest pre : List Nat), fin = pre ++ rest → (∀ x ∈ pre, x ∈ K) → ∀ x ∈ rest, x ∈ K := by
  intro rest
  induction rest with
  | nil => intro _ _ _ x hx; cases hx
  | cons v rs ih =>
   intro pre e hp
   have hv5 : v < 5 := (hf v).mp (by rw [e]; exact List.mem_append_right _ (.head _))
   have ht2 : Topo su (v :: rs) := topo_suffix (by rw [← e]; exact ht)
   have hn2 : (v :: rs).Nodup := (List.nodup_append.mp (by rw [← e]; exact hn)).2.1
   have hvK : v ∈ K := by
    refine Classical.byContradiction fun hvK => ?_
    have hnf : v ∉ freeOf need K := by rw [he]; intro q; cases q
    have : ¬ ∀ x ∈ need v, x ∈ K := fun q => hnf (free_iff.mpr ⟨hv5, hvK, q⟩)
    refine e1_1 (Classical.not_forall.mp this) ?_
    intro u hu
    refine e0_2 (Classical.not_imp.mp hu) ?_
    intro hu1 hu2
    have hu5 := hn5 v hv5 u hu1
    have hvs : v ∈ su u := List.count_pos_iff.mp (by
     rw [hsu.2 u hu5 v hv5]
     exact List.count_pos_iff.mpr (Wl_mem.mpr hu1))
    have huf := (hf u).mpr hu5
    rw [e] at huf
    rcases List.mem_append.mp huf with q | q
    ·exact hu2 (hp u q)
    ·rcases List.mem_cons.mp q with q | q
     ·rw [q] at hvs
      exact (List.nodup_cons.mp hn2).1 (ht2.1 v hvs)
     ·exact (List.nodup_cons.mp hn2).1 (topo_mem ht2.2 q v hvs)
   intro x hx
   rcases List.mem_cons.mp hx with q | q
   ·rw [q]; exact hvK
   ·refine ih (pre ++ [v]) (by rw [e]; simp) (fun y hy => ?_) x q
    rcases List.mem_append.mp hy with z | z
    ·exact hp y z
    ·rw [List.mem_singleton.mp z]; exact hvK
 have hall : ∀ x, x < 5 → x ∈ K := fun x hx => all fin [] rfl (fun y hy => by cases hy) x ((hf x).mpr hx)
 have hp : (List.range 5).Perm K := (List.perm_ext_iff_of_nodup List.nodup_range h.nd).mpr fun x => ⟨fun q => hall x (List.mem_range.mp q), fun q => List.mem_range.mpr (h.lt x q)⟩
 have := hp.length_eq
 rw [List.length_range] at this
 exact fun hom => o119 hom this
theorem live_ring {need su : Nat → List Nat} {K r : List Nat} {np : Nat → Int} {po nf : Int} (h : Live need K np r po nf) (hsu : SuOk need su) {l : List Nat} (hl : ∀ j ∈ l, j < 5) (hr : Ring su l) : K.length < 5 := by
 have none : ∀ (i v : Nat), v ∈ l → K[i]? ≠ some v := by
  intro i
  induction i using Nat.strongRecOn with
  | ind i ih =>
   intro v hv e
   refine e1_2 (hr.2 v hv) ?_
   intro u hu hvu
   have hc := hsu.2 u (hl u hu) v (hl v hv)
   have h1 : 0 < (su u).count v := List.count_pos_iff.mpr hvu
   rw [hc] at h1
   have hun : u ∈ need v := Wl_mem.mp (List.count_pos_iff.mp h1)
   obtain ⟨j, hj, ej⟩ := List.mem_iff_getElem.mp (h.sq i v e u hun)
   rw [List.length_take] at hj
   rw [List.getElem_take] at ej
   exact ih j (by exact o57 hj) u hu (by rw [List.getElem?_eq_getElem (by exact o56 hj), ej])
 obtain ⟨v, hv⟩ : ∃ v, v ∈ l := List.exists_mem_of_ne_nil l hr.1
 have hvK : v ∉ K := fun q => by
  obtain ⟨i, hi, e⟩ := List.mem_iff_getElem.mp q
  exact none i v hv (by rw [List.getElem?_eq_getElem hi, e])
 have := nodup_len 5 (v :: K) (List.nodup_cons.mpr ⟨hvK, h.nd⟩) (fun j hj => by
  rcases List.mem_cons.mp hj with q | q
  ·rw [q]; exact hl v hv
  ·exact h.lt j q)
 rw [List.length_cons] at this
 exact Nat.le_trans this (by decide)
structure Clean (a : Ab) : Prop where
 np : ∀ j, j ∉ a.ord → a.np j = 0
 su : ∀ j, j ∉ a.ord → a.su j = []
theorem node_clean {a : Ab} (h : Clean a) (j : Nat) : (a.node j).np = a.np ∧ (a.node j).su = a.su ∧ (∀ x, x ∈ (a.node j).ord ↔ x ∈ a.ord ∨ x = j) ∧ Clean (a.node j) := by
 unfold Ab.node
 by_cases hj : j ∈ a.ord
 ·rw [if_pos hj]
  exact i0_4 rfl rfl (fun x => ⟨.inl, fun q => q.elim id fun e => e ▸ hj⟩) h
 ·rw [if_neg hj]
  have e1 : set1 a.np j 0 = a.np := by
   funext x
   by_cases e : x = j
   ·rw [e, set1_self, h.np j hj]
   ·rw [set1_ne _ _ e]
  have e2 : set1 a.su j [] = a.su := by
   funext x
   by_cases e : x = j
   ·rw [e, set1_self, h.su j hj]
   ·rw [set1_ne _ _ e]
  refine i0_4 e1 e2 (fun x => by simp) ⟨fun x hx => ?_, fun x hx => ?_⟩
  ·show set1 a.np j 0 x = 0
   rw [e1]
   exact h.np x fun q => hx (List.mem_append_left _ q)
  ·show set1 a.su j [] x = []
   rw [e2]
   exact h.su x fun q => hx (List.mem_append_left _ q)
theorem links_ok (k : Nat) : ∀ (js : List Nat) (a : Ab), Clean a → Clean (js.foldl (fun a j => (a.node j).link j k) a) ∧ (js.foldl (fun a j => (a.node j).link j k) a).np = a.np ∧
  (∀ x, x ∈ (js.foldl (fun a j => (a.node j).link j k) a).ord ↔ x ∈ a.ord ∨ x ∈ js) ∧ ∀ x y, ((js.foldl (fun a j => (a.node j).link j k) a).su x).count y = (a.su x).count y + if y = k then js.count x else 0
 | [], a, h => ⟨h, rfl, fun x => by simp, fun x y => by simp⟩
 | j :: js, a, h => by
  refine e0_4 (node_clean h j) ?_
  intro n1 n2 n3 n4
  have hj : j ∈ (a.node j).ord := (n3 j).mpr (.inr rfl)
  have hc : Clean ((a.node j).link j k) := ⟨fun x hx => n4.np x hx, fun x hx => by
   show set1 (a.node j).su j _ x = []
   rw [set1_ne _ _ fun e : x = j => hx (e ▸ hj)]
   exact n4.su x hx⟩
  refine e0_4 (links_ok k js _ hc) ?_
  intro i1 i2 i3 i4
  rw [List.foldl_cons]
  refine i0_4 i1 (i2.trans n1) (fun x => ?_) (fun x y => ?_)
  ·rw [i3]
   show x ∈ (a.node j).ord ∨ x ∈ js ↔ _
   rw [n3, List.mem_cons, or_assoc]
  ·rw [i4]
   show (set1 (a.node j).su j ((a.node j).su j ++ [k]) x).count y + _ = _
   rw [n2, List.count_cons]
   by_cases e : x = j
   ·subst e
    rw [set1_self, List.count_append]
    by_cases z : y = k
    ·subst z
     simp
     exact o26
    ·have z2 : k ≠ y := fun q => z q.symm
     simp [z, z2]
   ·have e2 : j ≠ x := fun q => e q.symm
    rw [set1_ne _ _ e]
    by_cases z : y = k
    ·simp [z, e2]
    ·simp [z]
theorem add_ok {a : Ab} (h : Clean a) (k : Nat) (js : List Nat) : Clean (a.add k js) ∧ (∀ x, (a.add k js).np x = a.np x + if x = k then (js.length : Int) else 0) ∧
  (∀ x, x ∈ (a.add k js).ord ↔ x ∈ a.ord ∨ x = k ∨ x ∈ js) ∧ ∀ x y, ((a.add k js).su x).count y = (a.su x).count y + if y = k then js.count x else 0 := by
 refine e0_4 (node_clean h k) ?_
 intro n1 n2 n3 n4
 have hk : k ∈ (a.node k).ord := (n3 k).mpr (.inr rfl)
 have hc : Clean ((a.node k).inc k js.length) := ⟨fun x hx => by
  show set1 (a.node k).np k _ x = 0
  rw [set1_ne _ _ fun e : x = k => hx (e ▸ hk)]
  exact n4.np x hx, fun x hx => n4.su x hx⟩
 refine e0_4 (links_ok k js _ hc) ?_
 intro i1 i2 i3 i4
 unfold Ab.add
 refine i0_4 i1 (fun x => ?_) (fun x => ?_) (fun x y => ?_)
 ·rw [i2]
  show set1 (a.node k).np k ((a.node k).np k + js.length) x = _
  rw [n1]
  by_cases e : x = k
  ·subst e; rw [set1_self, if_pos rfl]
  ·rw [set1_ne _ _ e, if_neg e]; exact Eq.symm (Int.add_zero _)
 ·rw [i3]
  show x ∈ (a.node k).ord ∨ x ∈ js ↔ _
  rw [n3, or_assoc]
 ·rw [i4]
  show ((a.node k).su x).count y + _ = _
  rw [n2]
theorem row_ok {a : Ab} (h : Clean a) (k : Nat) (ws : List Nat) : Clean (a.row k ws) ∧ (∀ x, (a.row k ws).np x = a.np x + if x = k then ((Wl ws).length : Int) else 0) ∧
  (∀ x, x ∈ (a.row k ws).ord ↔ x ∈ a.ord ∨ x = k ∨ x ∈ ws) ∧ ∀ x y, ((a.row k ws).su x).count y = (a.su x).count y + if y = k then (Wl ws).count x else 0 := by
 refine e0_4 (add_ok h k (ws.take 1 ++ ws.take 1)) ?_
 intro a1 a2 a3 a4
 refine e0_4 (add_ok a1 k (ws.drop 1)) ?_
 intro b1 b2 b3 b4
 unfold Ab.row
 refine i0_4 b1 (fun x => ?_) (fun x => ?_) (fun x y => ?_)
 ·rw [b2, a2]
  by_cases e : x = k
  ·simp only [if_pos e, Wl, List.length_append]
   exact o72
  ·simp only [if_neg e]
   exact Int.add_zero _
 ·rw [b3, a3]
  have : x ∈ ws ↔ x ∈ ws.take 1 ++ ws.take 1 ∨ x ∈ ws.drop 1 := by
   rw [← List.mem_append]
   exact (Wl_mem (ws := ws) (x := x)).symm
  rw [this]
  constructor
  ·rintro ((q | q | q) | q | q)
   ·exact .inl q
   ·exact .inr (.inl q)
   ·exact .inr (.inr (.inl q))
   ·exact .inr (.inl q)
   ·exact .inr (.inr (.inr q))
  ·rintro (q | q | q | q)
   ·exact .inl (.inl q)
   ·exact .inl (.inr (.inl q))
   ·exact .inl (.inr (.inr q))
   ·exact .inr (.inr q)
 ·rw [b4, a4]
  by_cases e : y = k
  ·simp only [if_pos e, Wl, List.count_append]
   exact Nat.add_assoc _ _ _
  ·simp only [if_neg e]
theorem graph_all (need : Nat → List Nat) {a : Ab} (h1 : a.ord = []) (h2 : ∀ j, a.su j = []) (h3 : ∀ j, a.np j = 0) : ∀ i, Clean (graph need i a) ∧ (∀ x, (graph need i a).np x = if x < i then ((Wl (need x)).length : Int) else 0) ∧
  (∀ x, x ∈ (graph need i a).ord ↔ ∃ k < i, x = k ∨ x ∈ need k) ∧ ∀ x y, ((graph need i a).su x).count y = if y < i then (Wl (need y)).count x else 0
 | 0 => ⟨⟨fun j _ => h3 j, fun j _ => h2 j⟩, fun x => by rw [graph, h3]; rfl, fun x => by rw [graph, h1]; simp, fun x y => by rw [graph, h2]; rfl⟩
 | i + 1 => by
  refine e0_4 (graph_all need h1 h2 h3 i) ?_
  intro a1 a2 a3 a4
  refine e0_4 (row_ok a1 i (need i)) ?_
  intro b1 b2 b3 b4
  refine i0_4 b1 (fun x => ?_) (fun x => ?_) (fun x y => ?_)
  ·rw [graph, b2, a2]
   by_cases e : x = i
   ·subst e
    rw [if_neg (Nat.lt_irrefl x), if_pos rfl, if_pos (Nat.lt_succ_self x)]; exact Int.zero_add _
   ·rw [if_neg e]
    by_cases l : x < i
    ·rw [if_pos l, if_pos (by exact Nat.lt_succ_of_lt l)]; exact Int.add_zero _
    ·rw [if_neg l, if_neg (by exact fun hom => o145 e l hom)]; exact Int.zero_add _
  ·rw [graph, b3, a3]
   constructor
   ·rintro (⟨k, hk, q⟩ | q | q)
    ·exact i1_2 k (by exact Nat.lt_succ_of_lt hk) q
    ·exact i1_2 i (by exact Nat.lt_succ_self _) (.inl q)
    ·exact i1_2 i (by exact Nat.lt_succ_self _) (.inr q)
   ·intro hR0
    refine e1_2 hR0 ?_
    (try clear hR0); intro k hk q
    by_cases e : k = i
    ·subst e
     exact .inr q
    ·exact .inl ⟨k, by (exact o65 hk e), q⟩
  ·rw [graph, b4, a4]
   by_cases e : y = i
   ·subst e
    rw [if_neg (Nat.lt_irrefl y), if_pos rfl, if_pos (Nat.lt_succ_self y)]; exact Nat.zero_add _
   ·rw [if_neg e]
    by_cases l : y < i
    ·rw [if_pos l, if_pos (by exact Nat.lt_succ_of_lt l)]; exact o134
    ·rw [if_neg l, if_neg (by exact fun hom => o145 e l hom)]
theorem graph_ok {need : Nat → List Nat} (hn5 : ∀ k < 5, ∀ j ∈ need k, j < 5) {a : Ab} (h1 : a.ord = []) (h2 : ∀ j, a.su j = []) (h3 : ∀ j, a.np j = 0) :
  (∀ j, j ∈ (graph need 5 a).ord ↔ j < 5) ∧ SuOk need (graph need 5 a).su ∧ ∀ k < 5, (graph need 5 a).np k = ((Wl (need k)).length : Nat) := by
 refine e0_4 (graph_all need h1 h2 h3 5) ?_
 intro _ a2 a3 a4
 refine i0_3 (fun j => ?_) ⟨fun j hj k hk => ?_, fun j hj k hk => ?_⟩ (fun k hk => ?_)
 ·rw [a3]
  constructor
  ·rintro ⟨k, hk, q | q⟩
   ·rw [q]; exact hk
   ·exact hn5 k hk j q
  ·intro h
   exact i1_2 j h (.inl rfl)
 ·have h := List.count_pos_iff.mpr hk
  rw [a4] at h
  refine Classical.byContradiction fun q => ?_
  rw [if_neg q] at h
  exact Nat.lt_irrefl _ h
 ·rw [a4, if_pos hk]
 ·rw [a2, if_pos hk]
noncomputable def srow : Nat → List Str
 | 0 => [Str.ofString "", Str.ofString "s", Str.ofString "ba"]
 | 1 => [Str.ofString "", Str.ofString "s", Str.ofString "b", Str.ofString "c"]
 | 2 => [Str.ofString "", Str.ofString "s", Str.ofString "b", Str.ofString "e"]
 | 3 => [Str.ofString "", Str.ofString "t"]
 | _ => [Str.ofString "", Str.ofString "s", Str.ofString "b", Str.ofString "d"]
noncomputable def frow : Nat → List Str
 | 0 => [Str.ofString "s", Str.ofString "ba"]
 | 1 => [Str.ofString "s", Str.ofString "b", Str.ofString "c"]
 | 2 => [Str.ofString "s", Str.ofString "b", Str.ofString "e"]
 | 3 => [Str.ofString "t"]
 | _ => [Str.ofString "s", Str.ofString "b", Str.ofString "d"]
theorem srow_eq : ∀ j < 5, Txt.split (fname j) (Str.ofString "/") = srow j := by decide +kernel
theorem frow_eq : ∀ j < 5, rowF (srow j) = frow j := by decide +kernel
noncomputable def level : Nat → List (List Nat)
 | 0 => [[]]
 | n + 1 => (level n).flatMap fun js => ((List.range 5).filter fun k => !js.contains k).map fun k => k :: js
theorem level_mem : ∀ {js : List Nat}, js.Nodup → (∀ j ∈ js, j < 5) → js ∈ level js.length
 | [], _, _ => .head _
 | k :: js, hn, h5 => by
  refine e0_2 (List.nodup_cons.mp hn) ?_
  intro h1 h2
  rw [List.length_cons, level]
  refine List.mem_flatMap.mpr ⟨js, level_mem h2 fun j hj => h5 j (.tail _ hj), List.mem_map.mpr ⟨k, List.mem_filter.mpr ⟨List.mem_range.mpr (h5 k (.head _)), ?_⟩, rfl⟩⟩
  simpa using h1
noncomputable def reachB (a b : List Str) : Bool := (List.range a.length).all fun i => !decide (a.take i = b.take i) || decide (i < b.length)
noncomputable def goodJs (js : List Nat) : Bool :=
 let a := minRow (js.map frow)
 let b := maxRow (js.map frow)
 reachB a b && decide (Str.ofString "/" ++ Txt.join (Str.ofString "/") (comm a b) = sharedS (((List.range 5).filter fun k => decide (k ∈ js)).map srow))
theorem good1 : (level 1).all goodJs = true := by decide +kernel
theorem good2 : (level 2).all goodJs = true := by decide +kernel
theorem good3 : (level 3).all goodJs = true := by decide +kernel
theorem good4 : (level 4).all goodJs = true := by decide +kernel
theorem good5 : (level 5).all goodJs = true := by decide +kernel
theorem good_js {js : List Nat} (hn : js.Nodup) (h5 : ∀ j ∈ js, j < 5) (h0 : js ≠ []) : goodJs js = true := by
 have hm := level_mem hn h5
 have hl := nodup_len 5 _ hn h5
 have hp : 0 < js.length := List.length_pos_iff.mpr h0
 refine e1_1 (Nat.exists_eq_succ_of_ne_zero (Nat.ne_of_gt hp)) ?_
 intro n en
 rw [en] at hm hl
 revert hm
 exact lt5 (i := n) (P := fun n => js ∈ level (n + 1) → goodJs js = true) (fun hm => List.all_eq_true.mp good1 js hm) (fun hm => List.all_eq_true.mp good2 js hm) (fun hm => List.all_eq_true.mp good3 js hm) (fun hm => List.all_eq_true.mp good4 js hm) (fun hm => List.all_eq_true.mp good5 js hm) hl
theorem rowsOf_eq {js : List Nat} (h5 : ∀ j ∈ js, j < 5) : rowsOf (js.map fname) = js.map frow := by
 unfold rowsOf
 rw [List.map_map, List.map_map]
 refine List.map_congr_left fun j hj => ?_
 show rowF (Txt.split (fname j) (Str.ofString "/")) = frow j
 rw [srow_eq j (h5 j hj), frow_eq j (h5 j hj)]
theorem common_shared {js : List Nat} (hn : js.Nodup) (h5 : ∀ j ∈ js, j < 5) (h0 : js ≠ []) {due : List Nat} (hd : due = (List.range 5).filter fun k => decide (k ∈ js)) :
  commonS (js.map fname) = sharedS ((due.map fname).map fun x => Txt.split x (Str.ofString "/")) := by
 have hg := good_js hn h5 h0
 unfold goodJs at hg
 dsimp only at hg
 rw [Bool.and_eq_true, decide_eq_true_eq] at hg
 unfold commonS
 rw [rowsOf_eq h5, hg.2, ← hd, List.map_map]
 congr 1
 refine List.map_congr_left fun j hj => ?_
 have hj5 : j < 5 := by
  rw [hd] at hj
  exact List.mem_range.mp (List.mem_filter.mp hj).1
 exact (srow_eq j hj5).symm
noncomputable def bndB (r : List Str) : Bool := decide (r.length ≤ 100) && (List.range (r.length + 1)).all fun n => decide (((r.take n).map (·.length)).sum + (r.take n).length * (Str.ofString "/").length ≤ 1000) && decide ((Txt.join (Str.ofString "/") (r.take n)).length ≤ 1000)
theorem bnd_ok : bndB [] = true ∧ ∀ j < 5, bndB (frow j) = true := ⟨by decide +kernel, by decide +kernel⟩
theorem bnd_of {r : List Str} (h : bndB r = true) : r.length ≤ 100 ∧ ∀ n, ((r.take n).map (·.length)).sum + (r.take n).length * (Str.ofString "/").length ≤ 1000 ∧ (Txt.join (Str.ofString "/") (r.take n)).length ≤ 1000 := by
 unfold bndB at h
 rw [Bool.and_eq_true, decide_eq_true_eq, List.all_eq_true] at h
 refine ⟨h.1, fun n => ?_⟩
 have key : ∀ n ≤ r.length, _ := fun n hn => h.2 n (List.mem_range.mpr (Nat.lt_succ_of_le hn))
 by_cases hn : n ≤ r.length
 ·have := key n hn
  rw [Bool.and_eq_true, decide_eq_true_eq, decide_eq_true_eq] at this
  exact this
 ·have := key r.length (Nat.le_refl _)
  rw [Bool.and_eq_true, decide_eq_true_eq, decide_eq_true_eq] at this
  rw [List.take_of_length_le (by exact o116 hn)]
  rw [List.take_length] at this
  exact this
theorem row_bnd {js : List Nat} (h5 : ∀ j ∈ js, j < 5) (i : Nat) : bndB (rowAt (js.map frow) i) = true := by
 rw [rowAt, List.getD_eq_getElem?_getD, List.getElem?_map]
 cases e : js[i]? with
 | none => exact bnd_ok.1
 | some j => exact bnd_ok.2 j (h5 j (List.mem_of_getElem? e))
theorem common_ok {js : List Nat} (hn : js.Nodup) (h5 : ∀ j ∈ js, j < 5) (h0 : js ≠ []) : Reach (minRow (rowsOf (js.map fname))) (maxRow (rowsOf (js.map fname))) ∧
  ∀ r, r = minRow (rowsOf (js.map fname)) ∨ r = maxRow (rowsOf (js.map fname)) → r.length ≤ 100 ∧ ∀ n, ((r.take n).map (·.length)).sum + (r.take n).length * (Str.ofString "/").length ≤ 1000 ∧ (Txt.join (Str.ofString "/") (r.take n)).length ≤ 1000 := by
 rw [rowsOf_eq h5]
 have hg := good_js hn h5 h0
 unfold goodJs at hg
 dsimp only at hg
 rw [Bool.and_eq_true] at hg
 refine ⟨fun i hi e => ?_, fun r hr => ?_⟩
 ·have := List.all_eq_true.mp hg.1 i (List.mem_range.mpr hi)
  simpa [e] using this
 ·rcases hr with rfl | rfl
  ·exact bnd_of (row_bnd h5 _)
  ·exact bnd_of (row_bnd h5 _)
theorem file_ok (j : Nat) : (fname j).length ≤ 100 ∧ ((Txt.split (fname j) (Str.ofString "/")).length ≤ 100 ∧ ∀ c ∈ Txt.split (fname j) (Str.ofString "/"), c.length ≤ 100) ∧ Txt.startswith (fname j) (Str.ofString "/") = true := by
 have key : ∀ j < 5, (decide ((fname j).length ≤ 100) && decide ((Txt.split (fname j) (Str.ofString "/")).length ≤ 100) && (Txt.split (fname j) (Str.ofString "/")).all (fun c => decide (c.length ≤ 100)) && Txt.startswith (fname j) (Str.ofString "/")) = true := by decide +kernel
 have fin : ∀ j, ∃ i < 5, fname j = fname i := fun j => by
  match j with
  | 0 => exact ⟨0, by decide, rfl⟩
  | 1 => exact ⟨1, by decide, rfl⟩
  | 2 => exact ⟨2, by decide, rfl⟩
  | 3 => exact ⟨3, by decide, rfl⟩
  | n + 4 => exact ⟨4, by decide, rfl⟩
 refine e1_2 (fin j) ?_
 intro i hi e
 have k := key i hi
 rw [← e] at k
 simp only [Bool.and_eq_true, decide_eq_true_eq, List.all_eq_true] at k
 exact i0_3 k.1.1.1 ⟨k.1.1.2, k.1.2⟩ k.2
end
end
section
local macro_rules | `(tactic| walk_at "execs cons") => `(tactic| k_extra "W96")
local macro_rules | `(tactic| walk_at "exec For Name Name cons nil") => `(tactic| k_extra "W71")
local macro_rules | `(tactic| walk_at "eval Call Attribute") => `(tactic| k_extra "W97")
local macro_rules | `(tactic| walk_at "callWith ref") => `(tactic| k_extra "W98")
local macro_rules | `(tactic| walk_at "StarOf ref") => `(tactic| (k_extra "W90"; intro h' F' N'; try dsimp only [List.nil_append, List.cons_append]))
local macro_rules | `(tactic| walk_at "call ref") => `(tactic| k_extra "W99")
local macro_rules | `(tactic| walk_at "call ref") => `(tactic| k_extra "W100")
local macro_rules | `(tactic| walk_at "call ref") => `(tactic| k_extra "W101")
local macro_rules | `(tactic| walk_at "call ref") => `(tactic| k_extra "W102")
local macro_rules | `(tactic| walk_at "call ref") => `(tactic| k_extra "W103")
local macro_rules | `(tactic| walk_at "call builtin:sorted") => `(tactic| k_extra "W83")
local macro_rules | `(tactic| walk_at "compareOp NotEq ref ref") => `(tactic| k_extra "W83")
theorem put2 {m : Str → Option Value} {A B : Str} {a b : Option Value} (h1 : m A = a) (h2 : m B = b) : m = fun y => if y = A then a else if y = B then b else m y := by
 funext y
 by_cases e1 : y = A
 ·rw [if_pos e1, e1, h1]
 ·rw [if_neg e1]
  by_cases e2 : y = B
  ·rw [if_pos e2, e2, h2]
  ·rw [if_neg e2]
theorem ListsAre.at {nw : List (Addr × Obj)} {vs : List Value} {rs : List (List Nat)} (h : ListsAre nw vs rs) : ∀ {i : Nat} {v : Value}, vs[i]? = some v → ∃ r a u k, rs[i]? = some r ∧ v = .ref a ∧ (a, W.listOf u.toArray k) ∈ nw ∧ IntsAre u (nums r) := by
 induction h with
 | nil => intro i v e; cases e
 | cons h1 h2 _ ih =>
  intro i v e
  cases i with
  | zero => cases e; exact ⟨_, _, _, _, rfl, rfl, h1, h2⟩
  | succ i => exact ih e
theorem ne_tupE {prog : Program} {w : World} {A : Around} {E : Value → Shared → Prop} {s : Shared} {a b : Addr} {Q : Value → Shared → Prop} (hl : s.heap.IsTuple a #[]) (hl' : s.heap.IsTuple b #[]) (hu : A.units < cLine) (h : Q (.bool false) s) : wpAny (model prog w) A (compareOp .NotEq (.ref a) (.ref b)) Q E s := by
 show wpAny _ _ (richCompare .NotEq (.ref a) (.ref b)) Q E s
 exact PySem.SeqAt.RcNeAt.tuples (e := fun _ => true) hl hl' hu (fun j h1 _ => absurd h1 (Nat.not_lt_zero _)) prog w E Q h
theorem files_strs {vs : List Value} {js : List Nat} (h : FilesAre vs js) : StrsAre vs (js.map fname) := by
 induction h with
 | nil => exact .nil
 | cons _ ih => exact .cons _ _ ih
noncomputable def LPG (w : World) (b : List Stmt) (cs : Scope) : Prop := ∀ {dp un : Nat} {gd : Option (List Code)} {cn : Str} {a : Addr} {ccd : Value} {A₀ : Around} {base h₀ : Heap} {L : Addr} {m : Str → Option Value} {news : List (Addr × Obj)} {s : Shared} {mean : ExcName → Option Value} {mg mb : Str → Option Value} {Q : Flow → Shared → Prop} {E : Value → Shared → Prop} (B : Below A₀ base [] h₀) (KX : Frag.In (Mine.hd.heap_39 w.params) h₀) (N : News h₀ L s.heap news) (T : Top Mine.hd.view_39 (looseW Mine.hd.view_39 [Str.ofString "_NodeInfo"]) mean mg mb h₀) (hk : cs.kind = .function) (XB : Frag.In (Mine.hd.heap_39 w.params) base) (TB : Top Mine.hd.view_39 (looseW Mine.hd.view_39 [Str.ofString "_NodeInfo"]) mean mg mb base) (KD : KtsDicts (([] : List Env).filterMap (·.frame)) h₀) (hnd : ND news) {C Rw Fl Sx Rn R : Addr} {oC : Obj} {fv rv : List Value} {kf kr : Nat} {need : Nat → List Nat} {X : List (Addr × Obj)} {g : G} {r0 : List Nat} {rb : Bool} (hX : ∀ p ∈ X, p ∈ news ∧ ¬ Own Sx g p.1) (hcell : (C, oC) ∈ X) (hoC : oC.data = .cell (some (.ref Fl))) (hFl : (Fl, W.listOf fv.toArray kf) ∈ X) (hfv : FilesAre fv [0, 1, 2, 3, 4])
  (hRn : (Rn, W.listOf rv.toArray kr) ∈ X) (hRv : ListsAre X rv (rounds need))
  (hS : SIn w Sx news g) (hrdy : g.rdy = some (R, r0)) (hord : ∀ j, j ∈ g.ord ↔ j < 5) (hsuo : SuOk need g.su) (hb : ∀ j, (g.su j).length ≤ 1000) (hlive : Live need [] g.np r0 g.po g.nf)
  (F : Fr h₀ L s.heap (fun y => if y = Str.ofString "rows" then some (.ref Rw) else if y = Str.ofString "sorter" then some (.ref Sx) else if y = Str.ofString "rounds" then some (.ref Rn) else if y = Str.ofString "ring" then some (.bool rb) else m y))
  (hnext : ∀ (g' : G) (r' : List Nat) (m' : Str → Option Value) (nw' : List (Addr × Obj)) (h' : Heap) (tk' : Nat),
   Fr h₀ L h' (fun y => if y = Str.ofString "rows" then some (.ref Rw) else if y = Str.ofString "sorter" then some (.ref Sx) else if y = Str.ofString "rounds" then some (.ref Rn) else if y = Str.ofString "ring" then some (.bool rb) else m' y) → News h₀ L h' nw' → ND nw' →
   (∀ p ∈ X, p ∈ nw' ∧ ¬ Own Sx g' p.1) → SIn w Sx nw' g' → g'.rdy = some (R, r') → Live need (rounds need).flatten g'.np r' g'.po g'.nf →
   wpAny (model PySem.Challenge.rw_ik0081_01.prog w) (ktrTop dp un gd cn cs L a ccd [(Str.ofString "files", C)] []) (execs (b.drop 12) (envX cn cs L a ccd [(Str.ofString "files", C)])) Q E { s with heap := h', toks := tk' })
  (hd : dp + 100 < recursionLimit) (hu : un + 900 < cLine) (hE : PassesOwn (model PySem.Challenge.rw_ik0081_01.prog w) (ktrTop dp un gd cn cs L a ccd [(Str.ofString "files", C)] []) (envX cn cs L a ccd [(Str.ofString "files", C)]) E),
  wpAny (model PySem.Challenge.rw_ik0081_01.prog w) (ktrTop dp un gd cn cs L a ccd [(Str.ofString "files", C)] []) (execs (b.drop 11) (envX cn cs L a ccd [(Str.ofString "files", C)])) Q E s
theorem law_G (w : World) : ∃ b cs, LawFn w b cs ∧ LPG w b cs := by
 refine ⟨_, _, ⟨_, _, _, _, _, _, _, _, _, _, _, _, _, by k_is⟩, ?_⟩
 intro dp un gd cn a ccd A₀ base h₀ L m news s mean mg mb Q E B KX N T hk XB TB KD hnd C Rw Fl Sx Rn R oC fv rv kf kr need X g r0 rb hX hcell hoC hFl hfv hRn hRv hS hrdy hord hsuo hb hlive F hnext hd hu hE
 clear XB TB KD
 simp only [List.drop_succ_cons, List.drop_zero]
 simp only [List.drop_succ_cons, List.drop_zero] at hnext
 (try kd_p)
 k_steps
 all_goals (try kd_p)
 have hrl := hRv.length
 refine iter_seqT (x := Str.ofString "due") (tup := false) (its := rv.toArray) (o := W.listOf rv.toArray kr) rfl rfl rfl
  (fun i m nw => ∃ g' r', SIn w Sx nw g' ∧ g'.rdy = some (R, r') ∧ g'.su = g.su ∧ g'.ord = g.ord ∧ Live need ((rounds need).take i).flatten g'.np r' g'.po g'.nf ∧ (∀ p ∈ X, p ∈ nw ∧ ¬ Own Sx g' p.1) ∧ m (Str.ofString "rows") = some (.ref Rw) ∧ m (Str.ofString "sorter") = some (.ref Sx) ∧ m (Str.ofString "rounds") = some (.ref Rn) ∧ m (Str.ofString "ring") = some (.bool rb))
  rfl ⟨_, rfl⟩ F N hnd (hX _ hRn).1 ?_ ?_ ?_ ?_ hE
 ·intro i m₁ nw hR0
  (try kd_p)
  refine e2_7 hR0 ?_
  (try clear hR0); intro g' r' _ _ _ _ _ hx _
  exact (hx _ hRn).1
 ·exact i2_10 g r0 hS hrdy rfl rfl hlive hX rfl rfl rfl rfl
 ·intro I i v m₁ nw h tk o' hI hv hnI hR0 F1 N1
  (try kd_p)
  refine e2_10 hR0 ?_
  (try clear hR0); intro g' r' hS1 hr1 hsu1 hord1 hlv hX1 hm1 hm2 hm3 hm4
  rw [List.getElem?_toArray] at hv
  (try kd_p)
  refine e4_4 (hRv.at hv) ?_
  intro due du dv dk hdue hz1 hdu hdv
  subst hz1
  refine e0_2 (rounds_at hdue) ?_
  intro hd1 hd2
  refine gen1 (((rounds need).take i).flatten) ?_
  intro K eK
  rw [← eK] at hlv hd1
  have hKn : ((rounds need).take (i + 1)).flatten = K ++ freeOf need K := by
   rw [List.take_add_one, hdue, Option.toList_some, List.flatten_append, ← eK, ← hd1]
   simp
  have hperm : r'.Perm due := by rw [hd1]; exact hlv.perm
  have hr0 : r' ≠ [] := fun e => hd2 (by rw [e] at hperm; exact (List.nil_perm.mp hperm))
  have hrl5 : r'.length ≤ 5 := nodup_len 5 _ hlv.rnd hlv.rlt
  have hdl : due.length = r'.length := hperm.length_eq.symm
  have hdn : due.Nodup := hperm.nodup_iff.mp hlv.rnd
  have hdlt : ∀ j ∈ due, j < 5 := fun j hj => hlv.rlt j (hperm.mem_iff.mpr hj)
  have hSI : SIn w Sx ((I, o') :: nw) g' := hS1.cons
  have hIo : ¬ Own Sx g' I := not_own hS1 hnI.head
  (try kd_p)
  obtain ⟨m5, em5, F2⟩ : ∃ m5, m5 = _ ∧ Fr h₀ L h m5 := ⟨_, rfl, F1⟩
  have e1 : m5 (Str.ofString "sorter") = some (.ref Sx) := by rw [em5]; exact hm2
  have e2 : m5 (Str.ofString "due") = some (.ref du) := by rw [em5]; rfl
  have e4 : m5 (Str.ofString "rows") = some (.ref Rw) := by rw [em5]; exact hm1
  have e5 : m5 (Str.ofString "rounds") = some (.ref Rn) := by rw [em5]; exact hm3
  have e6 : m5 (Str.ofString "ring") = some (.bool rb) := by rw [em5]; exact hm4
  have F3 := fr_map F2 (fun y => congrFun (put2 e1 e2) y)
  clear em5 F2 F1 N F hm1 hm2 hm3 hm4
  have hself := hSI.self
  have hrv : g'.rdyV = .ref R := by unfold G.rdyV; rw [hr1]
  (try kd_p)
  refine e6_1 hSI.dict ?_
  intro t1 t2 t3 t4 tp tn hdict
  rw [hrv] at hdict
  (try kd_p)
  k_steps
  all_goals (try kd_p)
  refine ws_out ?_
  (try kd_p)
  show wpAny _ _ (call (.ref 113) [.ref Sx]) _ _ _
  k_dflt (refine' active_spec ?zB F3 ?zX N1 ?zT ?zk hSI hnI hr1 (Nat.le_trans hrl5 (by decide)) ?zd ?zu ?_)
  case zB => k_asm
  case zX => k_asm
  case zT => k_asm
  case zk => exact rfl
  case zd => ktr_room
  case zu => ktr_units
  intro h2 tk2 F4 N4
  have hact : (decide (g'.nf < g'.po) || !r'.isEmpty) = true := by
   rw [Bool.or_eq_true]; right
   cases r' with
   | nil => exact absurd rfl hr0
   | cons _ _ => rfl
  rw [hact]
  clear F3 N1
  (try kd_p)
  k_steps
  all_goals (try kd_p)
  refine ws_out ?_
  (try kd_p)
  show wpAny _ _ (call (.ref 106) [.ref Sx]) _ _ _
  have hin : ∀ j ∈ r', j ∈ g'.ord := fun j hj => by rw [hord1]; exact (hord j).mpr (hlv.rlt j hj)
  k_dflt (refine' getready_spec ?zB F4 ?zX N4 ?zT ?zk hSI hnI hr1 (Nat.le_trans hrl5 (by decide)) hin ?zd ?zu ?_)
  case zB => k_asm
  case zX => k_asm
  case zT => k_asm
  case zk => exact rfl
  case zd => ktr_room
  case zu => ktr_units
  intro Td tv nw2 h3 tk3 F5 N5 hT htv hTf P2 hTo
  (try kd_p)
  refine gen1 ({ g' with np := r'.foldl (fun f j => set1 f j (-1)) g'.np, rdy := some (R, []), po := g'.po + r'.length } : G) ?_
  intro g2 eg2
  rw [← eg2] at P2 hTo
  have hr2 : g2.rdy = some (R, []) := by rw [eg2]
  have hsu2 : g2.su = g.su := by rw [eg2]; exact hsu1
  have hord2 : g2.ord = g.ord := by rw [eg2]; exact hord1
  have hpo2 : g2.po = g'.po + r'.length := by rw [eg2]
  have hnf2 : g2.nf = g'.nf := by rw [eg2]
  have hnp2 : g2.np = r'.foldl (fun f j => set1 f j (-1)) g'.np := by rw [eg2]
  clear eg2
  (try kd_p)
  refine e0_2 (P2.keep _ (.head _) hIo) ?_
  intro hI2 hIo2
  have hX2 : ∀ p ∈ X, p ∈ nw2 ∧ ¬ Own Sx g2 p.1 := fun p hp => P2.keep p (.tail _ (hX1 p hp).1) (hX1 p hp).2
  have hn2 := P2.nd
  have hS2 := P2.sin
  have hself2 := hS2.self
  have hrv2 : g2.rdyV = .ref R := by unfold G.rdyV; rw [hr2]
  (try kd_p)
  refine e6_1 hS2.dict ?_
  intro u1 u2 u3 u4 up un' hdict2
  rw [hrv2] at hdict2
  clear F4 N4 hdict hself
  (try kd_p)
  k_steps
  all_goals (try kd_p)
  refine ws_out ?_
  (try kd_p)
  show wpAny _ _ (call (.ref 113) [.ref Sx]) _ _ _
  rename Fr h₀ L _ _ => F6
  rename News h₀ L _ nw2 => N6
  k_dflt (refine' active_spec ?zB F6 ?zX N6 ?zT ?zk hS2 hn2 hr2 (Nat.zero_le _) ?zd ?zu ?_)
  case zB => k_asm
  case zX => k_asm
  case zT => k_asm
  case zk => exact rfl
  case zd => ktr_room
  case zu => ktr_units
  intro h4 tk4 F7 N7
  have hrp : 0 < r'.length := List.length_pos_iff.mpr hr0
  have hact2 : (decide (g2.nf < g2.po) || !([] : List Nat).isEmpty) = true := by
   rw [Bool.or_eq_true]; left
   rw [hnf2, hpo2, hlv.nf, hlv.po]
   exact decide_eq_true (by exact o52 hrp)
  rw [hact2]
  clear F6 N6
  (try kd_p)
  k_steps
  all_goals (try kd_p)
  refine ws_out ?_
  (try kd_p)
  have htl := htv.length
  refine sorted_tupN F7 N7 hT (files_strs htv) (by exact ul1 htl (Nat.lt_of_le_of_lt hrl5 (by decide))) ?_
  intro D1 h5 sv1 ss1 c1 F8 N8 l8 hsv1 hp1 hs1
  have hn8 := hn2.cons (o := W.listOf sv1.toArray c1) l8
  have hdul : dv.length = due.length := by
   have := hdv.length
   rw [List.length_map] at this
   exact this
  have hdu2 := (hX2 _ hdu).1
  have hFl2 := (hX2 _ hFl).1
  have hC2 := (hX2 _ hcell).1
  (try kd_p)
  k_steps
  all_goals (try kd_p)
  refine k_list (o := W.listOf dv.toArray dk) (its := dv.toArray) (fun i ys _ => FilesAre ys (due.take i)) rfl rfl rfl F8 N8 hn8 (.tail _ hdu2) rfl ⟨_, rfl⟩ .nil ?_ ?_ ?_
  ·intro i ys nw hi hJ
   have h1 := hJ.length
   rw [List.length_take] at h1
   rw [sizeLine_eq]
   exact ub1 h1 (ub5 (ub1 hdl (Nat.le_trans hrl5 (by decide))))
  ·intro gg C3 i2 ys new₀ nw3 oC2 m₂ h tk E' hi2 hB hoC2 hJ sub0 sub1 hC ndw3 F9 N9
   (try kd_p)
   refine e1_2 hB ?_
   (try clear hB); intro v hv2 hm
   rw [List.getElem?_toArray] at hv2
   have hi2' : i2 < due.length := by rw [← hdul]; exact (List.getElem?_eq_some_iff.mp hv2).1
   (try kd_p)
   obtain ⟨j, hj⟩ : ∃ j, due[i2]? = some j := ⟨_, List.getElem?_eq_getElem hi2'⟩
   have hj5 := hdlt j (List.mem_of_getElem? hj)
   (try kd_p)
   first | refine e1_1 (hdv.get i2 j (by rw [List.getElem?_map, hj]; rfl)) ?_ | refine e0_2 (hdv.get i2 j (by rw [List.getElem?_map, hj]; rfl)) ?_
   intro tj hvj
   cases hv2.symm.trans hvj
   have hFl6 := sub0 _ (.tail _ hFl2)
   have hC6 := sub0 _ (.tail _ hC2)
   (try kd_p)
   first | refine e1_1 (hfv.get (i := j) (j := j) (by refine lt5 (P := fun i => ([0, 1, 2, 3, 4] : List Nat)[i]? = some i) ?_ ?_ ?_ ?_ ?_ hj5 <;> rfl)) ?_ | refine e0_2 (hfv.get (i := j) (j := j) (by match j, hj5 with | 0, _ => rfl | 1, _ => rfl | 2, _ => rfl | 3, _ => rfl | 4, _ => rfl)) ?_
   intro tf hfj
   refine wpAny_tests_nil ?_
   try dsimp only
   (try kd_p)
   k_steps
   all_goals (try kd_p)
   refine i3_6 _ _ ([]) rfl F9 N9 (fun p hp => nomatch hp) List.nodup_nil ?_
   rw [List.take_add_one, hj, Option.toList_some]
   exact hJ.snoc j tf
  ·intro gg Dc hc tkc fs new F9 N9 hn9 hJ
   rw [List.size_toArray, hdul, List.take_length] at hJ
   have hfsl := hJ.length
   (try kd_p)
   refine gen1 ((Dc, LCg.lst fs) :: (new ++ (D1, W.listOf sv1.toArray c1) :: nw2)) ?_
   intro nw4 en4
   have hsub4 : ∀ p ∈ nw2, p ∈ nw4 := fun p hp => by
    rw [en4]
    exact .tail _ (List.mem_append_right _ (.tail _ hp))
   have hD14 : (D1, W.listOf sv1.toArray c1) ∈ nw4 := by
    rw [en4]
    exact .tail _ (List.mem_append_right _ (.head _))
   have hDc4 : (Dc, W.listOf fs.toArray fs.length) ∈ nw4 := by
    rw [en4]
    exact .head _
   rw [← en4] at N9 hn9
   clear en4
   (try kd_p)
   k_steps
   all_goals (try kd_p)
   refine ws_out ?_
   (try kd_p)
   refine sorted_lstN F9 N9 hDc4 (files_strs hJ) (by exact ul1 hfsl (ul1 hdl (Nat.lt_of_le_of_lt hrl5 (by decide)))) ?_
   intro D5 h6 sv2 ss2 c2 F10 N10 l10 hsv2 hp2 hs2
   have hss : ss1 = ss2 := sorted_perm hs1 hs2 (hp1.trans ((hperm.map fname).trans hp2.symm))
   (try kd_p)
   k_steps
   all_goals (try kd_p)
   refine ws_out ?_
   (try kd_p)
   have hlA := News.isList N10 (.tail _ hD14)
   have hlB := News.isList N10 (.head _)
   k_dflt (refine' ne_strsK hlA hsv1 hlB hsv2 ?zu ?_)
   case zu => ktr_units
   rw [decide_eq_true hss]
   have N11 := news_sub (l' := nw4) N10 fun p hp => .tail _ hp
   have hS4 : SIn w Sx nw4 g2 := hS2.of fun p hp _ => hsub4 p hp
   have hself4 := hS4.self
   (try kd_p)
   refine e6_1 hS4.dict ?_
   intro v1 v2 v3 v4 vp vn' hdict4
   rw [hrv2] at hdict4
   clear N10 hlA hlB F7 N7 F8 N8 F9 N9
   (try kd_p)
   k_steps
   all_goals (try kd_p)
   refine ws_out ?_
   (try kd_p)
   show wpAny _ _ (call (.ref 106) [.ref Sx]) _ _ _
   k_dflt (refine' getready_spec ?zB F10 ?zX N11 ?zT ?zk hS4 hn9 hr2 (Nat.zero_le _) (fun j hj => nomatch hj) ?zd ?zu ?_)
   case zB => k_asm
   case zX => k_asm
   case zT => k_asm
   case zk => exact rfl
   case zd => ktr_room
   case zu => ktr_units
   intro T3 tv3 nw5 h7 tk7 F12 N12 hT3 htv3 hTf3 P5 hTo3
   (try kd_p)
   refine gen1 ({ g2 with np := ([] : List Nat).foldl (fun f j => set1 f j (-1)) g2.np, rdy := some (R, []), po := g2.po + ([] : List Nat).length } : G) ?_
   intro g3 eg3
   rw [← eg3] at P5 hTo3
   have hr3 : g3.rdy = some (R, []) := by rw [eg3]
   have hsu3 : g3.su = g.su := by rw [eg3]; exact hsu2
   have hord3 : g3.ord = g.ord := by rw [eg3]; exact hord2
   have hpo3 : g3.po = g'.po + r'.length := by
    rw [eg3]
    show g2.po + ((0 : Nat) : Int) = _
    rw [hpo2]; exact o132
   have hnf3 : g3.nf = g'.nf := by rw [eg3]; exact hnf2
   have hnp3 : g3.np = r'.foldl (fun f j => set1 f j (-1)) g'.np := by rw [eg3]; exact hnp2
   clear eg3
   have htv3n : tv3 = [] := by cases htv3; rfl
   subst htv3n
   have keep5 : ∀ p ∈ nw2, ¬ Own Sx g2 p.1 → p ∈ nw5 ∧ ¬ Own Sx g3 p.1 := fun p hp ho => P5.keep p (hsub4 p hp) ho
   (try kd_p)
   refine e0_2 (keep5 _ hI2 hIo2) ?_
   intro hI5 hIo5
   refine e0_2 (keep5 _ hT hTo) ?_
   intro hT5 hTo5
   have hX5 : ∀ p ∈ X, p ∈ nw5 ∧ ¬ Own Sx g3 p.1 := fun p hp => keep5 p (hX2 p hp).1 (hX2 p hp).2
   have hn5 := P5.nd
   have hS5 := P5.sin
   clear F10 N11 hdict4 hself4 hdict2 hself2
   (try kd_p)
   k_steps
   all_goals (try kd_p)
   rename News h₀ L _ ((_, _) :: nw5) => N13
   rename Fr h₀ L _ _ => F13
   refine ws_out ?_
   (try kd_p)
   have ht1 := News.isTup N13 (.tail _ hT3)
   have ht2 := News.isTup N13 (.head _)
   k_dflt (refine' ne_tupE ?zl ?zr ?zu ?_)
   case zl => exact ⟨_, (N13 _ (.tail _ hT3)).1, rfl, _, rfl⟩
   case zr => exact ⟨_, (N13 _ (.head _)).1, rfl, _, rfl⟩
   case zu => ktr_units
   clear ht1 ht2
   have N14 := news_sub (l' := nw5) N13 fun p hp => .tail _ hp
   clear N13
   have hxs := files_strs htv
   (try kd_p)
   refine e0_2 (common_ok hlv.rnd hlv.rlt hr0) ?_
   intro hrch hjk
   have hmem : ∀ x ∈ r'.map fname, ∃ j, x = fname j := fun x hx => by
    (try kd_p)
    refine e1_2 (List.mem_map.mp hx) ?_
    intro j _ e
    exact ⟨j, e.symm⟩
   have hc1 : ∀ x ∈ r'.map fname, x.length ≤ 100 := fun x hx => by
    (try kd_p)
    obtain ⟨j, rfl⟩ := hmem x hx; exact (file_ok j).1
   have hc2 : ∀ x ∈ r'.map fname, (Txt.split x (Str.ofString "/")).length ≤ 100 ∧ ∀ c ∈ Txt.split x (Str.ofString "/"), c.length ≤ 100 := fun x hx => by
    (try kd_p)
    obtain ⟨j, rfl⟩ := hmem x hx; exact (file_ok j).2.1
   have hc3 : ∀ x ∈ r'.map fname, Txt.startswith x (Str.ofString "/") = true := fun x hx => by
    (try kd_p)
    obtain ⟨j, rfl⟩ := hmem x hx; exact (file_ok j).2.2
   have hdu5 := (hX5 _ hdu).1
   have hFl5 := (hX5 _ hFl).1
   have hC5 := (hX5 _ hcell).1
   (try kd_p)
   k_steps
   all_goals (try kd_p)
   refine ws_out ?_
   (try kd_p)
   show wpAny _ _ (call (.ref 261) [.ref Td]) _ _ _
   k_dflt (refine' common_spec ?zB F13 ?zX N14 ?zT ?zk hn5 hT5 hxs ?zl ?z0 hc1 hc2 hc3 hrch hjk ?_ ?zd ?zu)
   case zB => k_asm
   case zX => k_asm
   case zT => k_asm
   case zk => exact rfl
   case zl => rw [List.length_map]; exact hrl5
   case z0 => rw [List.length_map]; exact hrp
   case zd => ktr_room
   case zu => ktr_units
   intro tc h8 tk8 F15 N15
   (try clear F13); (try clear N14)
   (try kd_p)
   k_steps
   all_goals (try kd_p)
   refine k_list (o := W.listOf dv.toArray dk) (its := dv.toArray) (fun i ys _ => FilesAre ys (due.take i)) rfl rfl rfl F15 N15 hn5 hdu5 rfl ⟨_, rfl⟩ .nil ?_ ?_ ?_
   ·intro i ys nw hi hJ
    have h1 := hJ.length
    rw [List.length_take] at h1
    rw [sizeLine_eq]
    exact ub1 h1 (ub5 (ub1 hdl (Nat.le_trans hrl5 (by decide))))
   ·intro gg C3 i2 ys new₀ nw3 oC2 m₂ h tk E' hi2 hB hoC2 hJ sub0 sub1 hC ndw3 F9 N9
    (try kd_p)
    refine e1_2 hB ?_
    (try clear hB); intro v hv2 hm
    rw [List.getElem?_toArray] at hv2
    have hi2' : i2 < due.length := by rw [← hdul]; exact (List.getElem?_eq_some_iff.mp hv2).1
    (try kd_p)
    obtain ⟨j, hj⟩ : ∃ j, due[i2]? = some j := ⟨_, List.getElem?_eq_getElem hi2'⟩
    have hj5 := hdlt j (List.mem_of_getElem? hj)
    (try kd_p)
    first | refine e1_1 (hdv.get i2 j (by rw [List.getElem?_map, hj]; rfl)) ?_ | refine e0_2 (hdv.get i2 j (by rw [List.getElem?_map, hj]; rfl)) ?_
    intro tj hvj
    cases hv2.symm.trans hvj
    have hFl6 := sub0 _ hFl5
    have hC6 := sub0 _ hC5
    (try kd_p)
    first | refine e1_1 (hfv.get (i := j) (j := j) (by refine lt5 (P := fun i => ([0, 1, 2, 3, 4] : List Nat)[i]? = some i) ?_ ?_ ?_ ?_ ?_ hj5 <;> rfl)) ?_ | refine e0_2 (hfv.get (i := j) (j := j) (by match j, hj5 with | 0, _ => rfl | 1, _ => rfl | 2, _ => rfl | 3, _ => rfl | 4, _ => rfl)) ?_
    intro tf hfj
    refine wpAny_tests_nil ?_
    try dsimp only
    (try kd_p)
    k_steps
    all_goals (try kd_p)
    refine i3_6 _ _ ([]) rfl F9 N9 (fun p hp => nomatch hp) List.nodup_nil ?_
    rw [List.take_add_one, hj, Option.toList_some]
    exact hJ.snoc j tf
   ·intro gg De he tke ds new6 F16 N16 hn16 hK
    rw [List.size_toArray, hdul, List.take_length] at hK
    have hdsl := hK.length
    (try kd_p)
    refine gen1 ((De, LCg.lst ds) :: (new6 ++ nw5)) ?_
    intro nw6 en6
    have hsub6 : ∀ p ∈ nw5, p ∈ nw6 := fun p hp => by
     rw [en6]
     exact .tail _ (List.mem_append_right _ hp)
    have hDe6 : (De, W.listOf ds.toArray ds.length) ∈ nw6 := by
     rw [en6]
     exact .head _
    rw [← en6] at N16 hn16
    clear en6
    have hmem2 : ∀ x ∈ due.map fname, ∃ j, x = fname j := fun x hx => by
     (try kd_p)
     refine e1_2 (List.mem_map.mp hx) ?_
     intro j _ e
     exact ⟨j, e.symm⟩
    have hq1 : ∀ x ∈ due.map fname, x.length ≤ 100 := fun x hx => by
     (try kd_p)
     obtain ⟨j, rfl⟩ := hmem2 x hx; exact (file_ok j).1
    have hq2 : ∀ x ∈ due.map fname, (Txt.split x (Str.ofString "/")).length ≤ 100 ∧ ∀ c ∈ Txt.split x (Str.ofString "/"), c.length ≤ 100 := fun x hx => by
     (try kd_p)
     obtain ⟨j, rfl⟩ := hmem2 x hx; exact (file_ok j).2.1
    have hdf : due = (List.range 5).filter fun k => decide (k ∈ r') := by
     rw [hd1, freeOf]
     refine List.filter_congr fun k hk => ?_
     have h1 : k ∈ r' ↔ k ∈ freeOf need K := hlv.perm.mem_iff
     have h2 : k ∈ freeOf need K ↔ free1 need K k = true := by
      rw [freeOf, List.mem_filter]
      exact ⟨fun h => h.2, fun h => ⟨hk, h⟩⟩
     rw [Bool.eq_iff_iff, decide_eq_true_eq, h1, h2]
    have heq := common_shared hlv.rnd hlv.rlt hr0 hdf
    (try kd_p)
    k_steps
    all_goals (try kd_p)
    refine ws_out ?_
    (try kd_p)
    show wpAny _ _ (call (.ref 290) [.ref De]) _ _ _
    k_dflt (refine' shared_spec ?zB F16 ?zX N16 ?zT ?zk hn16 hDe6 (files_strs hK) ?zl ?z0 hq1 hq2 ?zd ?zu ?_)
    case zB => k_asm
    case zX => k_asm
    case zT => k_asm
    case zk => exact rfl
    case zl => rw [List.length_map]; exact ub1 hdl hrl5
    case z0 => rw [List.length_map]; exact ul3 hrp hdl
    case zd => ktr_room
    case zu => ktr_units
    intro ts h9 tk9 F17 N17
    rw [← heq]
    have hS6 : SIn w Sx nw6 g3 := hS5.of fun p hp _ => hsub6 p hp
    have hself6 := hS6.self
    (try kd_p)
    refine e6_1 hS6.dict ?_
    intro w1 w2 w3 w4 wp wn hdict6
    have hrv3 : g3.rdyV = .ref R := by unfold G.rdyV; rw [hr3]
    rw [hrv3] at hdict6
    (try clear F15); (try clear N15); (try clear F16); (try clear N16)
    (try kd_p)
    obtain ⟨hT6, hTo6⟩ : (Td, ({ cls := .type "tuple", data := .seq tv.toArray } : Obj)) ∈ nw6 ∧ ¬ Own Sx g3 Td := ⟨hsub6 _ hT5, hTo5⟩
    have htz : tv.toArray.size ≤ sizeLine := by rw [List.size_toArray, sizeLine_eq]; exact ub1 htl (Nat.le_trans hrl5 (by decide))
    (try kd_p)
    k_steps
    ·rename_i hx
     exact absurd hx (by simp)
    all_goals (try kd_p)
    rename News h₀ L _ ((_, _) :: nw6) => N18
    rename Fr h₀ L _ _ => F18
    rename ∀ p ∈ nw6, _ => l18
    have hn18 := nd_of N18 (hn16.cons l18)
    refine ws_out ?_
    (try kd_p)
    show wpAny _ _ (call (.ref _) tv) _ _ _
    refine call_meth N18 (.head _) ?_
    k_dflt (refine' done_code (js := r') (r0 := []) ?zB F18 ?zX N18 ?zT ?zk ?zS hn18 hr3 ?zz ?zy ?zi htv ?zc ?zo hlv.rnd ?za ?zb ?zd ?zu ?_)
    case zB => k_asm
    case zX => k_asm
    case zT => k_asm
    case zk => exact rfl
    case zS => exact hS6.cons
    case zz => (exact Nat.le_trans hrl5 (by decide))
    case zy => exact Nat.zero_le _
    case zi => intro j hj; rw [hord3]; exact (hord j).mpr (hlv.rlt j hj)
    case zc => intro j hj k hk; rw [hord3] at hj ⊢; rw [hsu3] at hk; exact (hord k).mpr (hsuo.1 j ((hord j).mp hj) k hk)
    case zo => intro j hj; rw [hnp3]; exact outs _ r' j hj
    case za => rw [hsu3]; exact hlv.apart hsuo
    case zb => rw [hsu3]; exact hb
    case zd => ktr_room
    case zu => ktr_units
    intro nw7 h10 tk10 F19 N19 P7
    have hstep := live_step hlv hsuo
    rw [← hKn, ← hnp3, ← hpo3, ← hnf3, ← hsu3] at hstep
    have keep7 : ∀ p ∈ nw5, ¬ Own Sx g3 p.1 → p ∈ nw7 ∧ ¬ Own Sx _ p.1 := fun p hp ho => P7.keep p (.tail _ (hsub6 p hp)) ho
    (try kd_p)
    refine e0_2 (keep7 _ hI5 hIo5) ?_
    intro hI7 hIo7
    k_steps
    all_goals (try kd_p)
    refine i4_6 _ _ _ _ rfl F19 N19 P7.nd hI7 (i2_10 _ _ (P7.sin.of (fun p hp ho => mem_drp.mpr ⟨hp, fun e => hIo7 (e ▸ ho)⟩)) rfl hsu3 hord3 hstep ?_ e4 rfl e5 e6)
    intro p hp
    (try kd_p)
    refine e0_2 (keep7 p (hX5 p hp).1 (hX5 p hp).2) ?_
    intro a1 a2
    exact ⟨mem_drp.mpr ⟨a1, hI p (hX p hp).1⟩, a2⟩
 ·intro m₁ nw h tk hn1 hJ F1 N1
  (try kd_p)
  refine e2_10 hJ ?_
  (try clear hJ); intro g' r' hS1 hr1 hsu1 hord1 hlv hX1 hm1 hm2 hm3 hm4
  rw [List.size_toArray, hrl, List.take_length] at hlv
  have F9 := fr_map F1 (fun y => congrFun (put4 hm1 hm2 hm3 hm4) y)
  (try kd_p)
  k_steps
  all_goals (try kd_p)
  refine ws_out ?_
  (try kd_p)
  (try dsimp only)
  with_reducible exact @hnext g' r' m₁ nw _ _ F9 N1 hn1 hX1 hS1 hr1 hlv
end
section
local macro_rules | `(tactic| walk_at "call ref") => `(tactic| k_extra "W100")
noncomputable def LPH (w : World) (b : List Stmt) (cs : Scope) : Prop := ∀ {dp un : Nat} {gd : Option (List Code)} {cn : Str} {a : Addr} {ccd : Value} {A₀ : Around} {base h₀ : Heap} {L : Addr} {m : Str → Option Value} {news : List (Addr × Obj)} {s : Shared} {mean : ExcName → Option Value} {mg mb : Str → Option Value} {Q : Flow → Shared → Prop} {E : Value → Shared → Prop} (B : Below A₀ base [] h₀) (KX : Frag.In (Mine.hd.heap_39 w.params) h₀) (N : News h₀ L s.heap news) (T : Top Mine.hd.view_39 (looseW Mine.hd.view_39 [Str.ofString "_NodeInfo"]) mean mg mb h₀) (hk : cs.kind = .function) (XB : Frag.In (Mine.hd.heap_39 w.params) base) (TB : Top Mine.hd.view_39 (looseW Mine.hd.view_39 [Str.ofString "_NodeInfo"]) mean mg mb base) (KD : KtsDicts (([] : List Env).filterMap (·.frame)) h₀) (hnd : ND news) {C Rw Sx Rn R : Addr} {rv : List Value} {kr : Nat} {rows : List (List Nat)} {g : G} {rb : Bool} (hRn : (Rn, W.listOf rv.toArray kr) ∈ news) (hRv : ListsAre news rv rows) (hsz : rows.flatten.length ≤ 100)
  (hS : SIn w Sx news g) (hrdy : g.rdy = some (R, [])) (hpn : g.nf = g.po) (hrb : rb = decide (rows.flatten.length < 5))
  (F : Fr h₀ L s.heap (fun y => if y = Str.ofString "rows" then some (.ref Rw) else if y = Str.ofString "sorter" then some (.ref Sx) else if y = Str.ofString "rounds" then some (.ref Rn) else if y = Str.ofString "ring" then some (.bool rb) else m y))
  (hnext : ∀ (m' : Str → Option Value) (nw' : List (Addr × Obj)) (h' : Heap) (tk' : Nat), Fr h₀ L h' m' → News h₀ L h' nw' → (∀ p ∈ news, p ∈ nw') → Q (.ret (.bool true)) { s with heap := h', toks := tk' })
  (hd : dp + 100 < recursionLimit) (hu : un + 900 < cLine) (hE : PassesOwn (model PySem.Challenge.rw_ik0081_01.prog w) (ktrTop dp un gd cn cs L a ccd [(Str.ofString "files", C)] []) (envX cn cs L a ccd [(Str.ofString "files", C)]) E),
  wpAny (model PySem.Challenge.rw_ik0081_01.prog w) (ktrTop dp un gd cn cs L a ccd [(Str.ofString "files", C)] []) (execs (b.drop 12) (envX cn cs L a ccd [(Str.ofString "files", C)])) Q E s
theorem law_H (w : World) : ∃ b cs, LawFn w b cs ∧ LPH w b cs := by
 refine ⟨_, _, ⟨_, _, _, _, _, _, _, _, _, _, _, _, _, by k_is⟩, ?_⟩
 intro dp un gd cn a ccd A₀ base h₀ L m news s mean mg mb Q E B KX N T hk XB TB KD hnd C Rw Sx Rn R rv kr rows g rb hRn hRv hsz hS hrdy hpn hrb F hnext hd hu hE
 clear XB TB KD
 simp only [List.drop_succ_cons, List.drop_zero]
 have hself := hS.self
 have hrv : g.rdyV = .ref R := by unfold G.rdyV; rw [hrdy]
 (try kd_p)
 refine e6_1 hS.dict ?_
 intro t1 t2 t3 t4 tp tn hdict
 rw [hrv] at hdict
 (try kd_p)
 k_steps
 all_goals (try kd_p)
 refine ws_out ?_
 (try kd_p)
 show wpAny _ _ (call (.ref 113) [.ref Sx]) _ _ _
 k_dflt (refine' active_spec ?zB F ?zX N ?zT ?zk hS hnd hrdy (Nat.zero_le _) ?zd ?zu ?_)
 case zB => k_asm
 case zX => k_asm
 case zT => k_asm
 case zk => exact rfl
 case zd => ktr_room
 case zu => ktr_units
 intro h2 tk2 F4 N4
 have hact : (decide (g.nf < g.po) || !([] : List Nat).isEmpty) = false := by
  rw [hpn]; simp
 rw [hact]
 clear F N
 have hrl := hRv.length
 (try kd_p)
 k_steps
 all_goals (try kd_p)
 refine k_list (o := W.listOf rv.toArray kr) (its := rv.toArray) (fun i ys _ => ys.length = ((rows.take i).flatten).length) rfl rfl rfl F4 N4 hnd hRn rfl ⟨_, rfl⟩ rfl ?_ ?_ ?_
 ·intro i ys nw hi hJ
  have h1 : ((rows.take i).flatten).length ≤ rows.flatten.length := by
   have : rows = rows.take i ++ rows.drop i := (List.take_append_drop i rows).symm
   conv => rhs; rw [this, List.flatten_append, List.length_append]
   exact Nat.le_add_right _ _
  rw [hJ, sizeLine_eq]
  exact Nat.le_trans h1 (Nat.le_trans hsz (by decide))
 ·intro gg C2 i ys new₀ nw oC2 m₂ h tk E' hi hB hoC2 hJ sub0 sub1 hC ndw F5 N5
  (try kd_p)
  refine e1_2 hB ?_
  (try clear hB); intro v hv hm
  rw [List.getElem?_toArray] at hv
  (try kd_p)
  refine e4_4 (hRv.at hv) ?_
  intro due du dv dk hdue hz1 hdu hdv
  subst hz1
  have hdul := hdv.length
  rw [List.length_map] at hdul
  have hdu2 := sub0 _ hdu
  try dsimp only
  refine t2_wrap ?_
  (try kd_p)
  k_steps
  all_goals (try kd_p)
  have hnx : ((rows.take (i + 1)).flatten).length = ((rows.take i).flatten).length + due.length := by
   rw [List.take_add_one, hdue, Option.toList_some, List.flatten_append, List.length_append]
   simp
  have h1 : ((rows.take (i + 1)).flatten).length ≤ rows.flatten.length := by
   have : rows = rows.take (i + 1) ++ rows.drop (i + 1) := (List.take_append_drop (i + 1) rows).symm
   conv => rhs; rw [this, List.flatten_append, List.length_append]
   exact Nat.le_add_right _ _
  refine ⟨_, dv, dk, rfl, _, _, [], rfl, F5, N5, (fun p hp => nomatch hp), List.nodup_nil, List.mem_append_right _ hdu, ?_, ?_⟩
  ·rw [sizeLine_eq]; exact o28 hJ hdul hnx h1 (Nat.le_trans hsz (by decide))
  ·rw [List.length_append]; exact o29 hJ hdul hnx
 ·intro gg D h3 tk3 ys new F6 N6 hn6 hJ
  rw [List.size_toArray, hrl, List.take_length] at hJ
  have hysz : ys.length ≤ 1048576 := by exact ub1 hJ (Nat.le_trans hsz (by decide))
  (try kd_p)
  k_steps
  all_goals (try kd_p)
  have hb : (rb == decide ((ys.length : Int) < 5)) = true := by
   have e : decide ((ys.length : Int) < 5) = decide (rows.flatten.length < 5) := decide_eq_decide.mpr (by exact o47 hJ)
   rw [hrb, e, beq_self_eq_true]
  rw [hb]
  (try dsimp only)
  exact @hnext _ _ _ _ F6 N6 fun p hp => .tail _ (List.mem_append_right _ hp)
end
end
end
end
section
theorem RowsIn.monoL {nw nw' : List (Addr × Obj)} {Rw : Addr} {sz : Nat → Int} {need need' : Nat → List Nat} (h : RowsIn nw Rw sz need) (k : ∀ a its k, (a, W.listOf its k) ∈ nw → (a, W.listOf its k) ∈ nw') (hn : ∀ i < 5, need' i = need i) : RowsIn nw' Rw sz need' := by
 refine e2_3 h.rows ?_
 intro rs kR a b c
 refine ⟨rs, kR, k _ _ _ a, b, fun i r e => ?_⟩
 have hi := (List.getElem?_eq_some_iff.mp e).1
 refine e5_3 (c i r e) ?_
 intro Wn ts kk vs kv d1 d2 d3
 exact i5_3 Wn ts kk vs kv (k _ _ _ d1) (k _ _ _ d2) (by rw [hn i (by exact ul2 hi b)]; exact d3)
theorem ListsAre.monoL {nw nw' : List (Addr × Obj)} {vs : List Value} {rs : List (List Nat)} (h : ListsAre nw vs rs) (k : ∀ a its k, (a, W.listOf its k) ∈ nw → (a, W.listOf its k) ∈ nw') : ListsAre nw' vs rs := by
 induction h with
 | nil => exact .nil
 | cons h1 h2 _ ih => exact .cons (k _ _ _ h1) h2 ih
noncomputable def needF (ns : List Int) (k : Nat) : List Nat := if k < 5 then needOf ns k else []
theorem needF_lt (ns : List Int) : ∀ k < 5, needF ns k = needOf ns k := fun k hk => if_pos hk
theorem needF_len (ns : List Int) (k : Nat) : (needF ns k).length ≤ 6 := by
 unfold needF
 split
 ·have := waits_len k (bitsOf ns k)
  rw [needOf]; exact Nat.le_trans ‹_› (ub15 ‹_› (by decide))
 ·exact Nat.zero_le _
theorem needF_5 (ns : List Int) : ∀ k < 5, ∀ j ∈ needF ns k, j < 5 := fun k hk j hj => by
 rw [needF_lt ns k hk] at hj
 exact waits_lt hk _ j hj
theorem own_none {Sx : Addr} {g : G} {a : Addr} (ho : g.ord = []) (hr : g.rdy = none) : Own Sx g a ↔ a ∈ [Sx, g.dS, g.D] := by
 constructor
 ·rintro (e | e | e | ⟨j, hj, _⟩ | ⟨R, js, e, _⟩)
  ·simp [e]
  ·simp [e]
  ·simp [e]
  ·rw [ho] at hj; cases hj
  ·rw [hr] at e; cases e
 ·intro h
  have h' : a = Sx ∨ a = g.dS ∨ a = g.D := by simpa using h
  rcases h' with e | e | e
  ·exact .inl e
  ·exact .inr (.inl e)
  ·exact .inr (.inr (.inl e))
theorem list_free {w : World} {Sx : Addr} {nw : List (Addr × Obj)} {g : G} {a : Addr} {its : Array Value} {k : Nat} (H : SIn w Sx nw g) (hnd : ND nw) (ho : g.ord = []) (hr : g.rdy = none) (hm : (a, W.listOf its k) ∈ nw) : ¬ Own Sx g a := by
 rintro (rfl | rfl | rfl | ⟨j, hj, _⟩ | ⟨R, js, e, _⟩)
 ·exact hnd.neC hm H.self (by simp [W.listOf, instObj]) rfl
 ·refine e6_1 H.dict ?_
  intro _ _ _ _ _ _ q
  exact hnd.neC hm q (by simp [W.listOf, dictOf]) rfl
 ·refine e1_2 H.tab ?_
  intro oD q _
  exact hnd.neC hm q (by rw [tab_cls H hnd q]; simp [W.listOf]) rfl
 ·rw [ho] at hj; cases hj
 ·rw [hr] at e; cases e
theorem Gr.then {A₀ : Around} {base g₀ g₁ g₂ : Heap} {outer : List Env} {KF : Frag} {p : Program} {loose : List Str} {mean : ExcName → Option Value} {mg mb : Str → Option Value} (h : Gr A₀ base outer KF p loose mean mg mb g₀ g₁) (k : Gr A₀ base outer KF p loose mean mg mb g₁ g₂) : Gr A₀ base outer KF p loose mean mg mb g₀ g₂ :=
 ⟨h.turn.trans k.turn, k.below, k.kin, k.top, k.dicts⟩
theorem fr_back {A₀ : Around} {base g₀ g₁ h : Heap} {KF : Frag} {p : Program} {loose : List Str} {mean : ExcName → Option Value} {mg mb : Str → Option Value} {L : Addr} {m : Str → Option Value} (G : Gr A₀ base [] KF p loose mean mg mb g₀ g₁) (F : Fr g₁ L h m) : Fr g₀ L h m :=
 ⟨F.ns, fun b o e => F.keep b o (G.turn.other b o e fun q => by cases q), by rw [← G.turn.size]; exact F.above⟩
theorem law_all (w : World) : ∃ b cs, LawFn w b cs ∧ ∀ {dp un : Nat} {gd : Option (List Code)} {cn : Str} {a : Addr} {ccd : Value} {A₀ : Around} {base h₀ : Heap} {L : Addr} {m : Str → Option Value} {news : List (Addr × Obj)} {s : Shared} {mean : ExcName → Option Value} {mg mb : Str → Option Value} {Q : Flow → Shared → Prop} {E : Value → Shared → Prop} (B : Below A₀ base [] h₀) (KX : Frag.In (Mine.hd.heap_39 w.params) h₀) (N : News h₀ L s.heap news) (T : Top Mine.hd.view_39 (looseW Mine.hd.view_39 [Str.ofString "_NodeInfo"]) mean mg mb h₀) (hk : cs.kind = .function) (XB : Frag.In (Mine.hd.heap_39 w.params) base) (TB : Top Mine.hd.view_39 (looseW Mine.hd.view_39 [Str.ofString "_NodeInfo"]) mean mg mb base) (KD : KtsDicts (([] : List Env).filterMap (·.frame)) h₀) (hnd : ND news) {Sc C : Addr} {oC : Obj} {cm : Option Value} {sv : List Value} {ns : List Int} (hSc : h₀.IsList Sc sv.toArray) (hsv : IntsAre sv ns) (hlen : ns.length ≤ 63) (hcell : (C, oC) ∈ news) (hoC : oC.data = .cell cm)
  (F : Fr h₀ L s.heap (fun y => if y = Str.ofString "script" then some (.ref Sc) else m y))
  (hA : (ktrTop dp un gd cn cs L a ccd [(Str.ofString "files", C)] []) = A₀.deeper (envX cn cs L a ccd [(Str.ofString "files", C)])) (hEm : ∀ e : Addr, PassesOwnAt (model PySem.Challenge.rw_ik0081_01.prog w) ((ktrTop dp un gd cn cs L a ccd [(Str.ofString "files", C)] []).mark (some (.ref e))) (ktrTop dp un gd cn cs L a ccd [(Str.ofString "files", C)] []) (envX cn cs L a ccd [(Str.ofString "files", C)]) E)
  (hret : ∀ (h₀' : Heap) (m' : Str → Option Value) (nw' : List (Addr × Obj)) (h' : Heap) (tk' : Nat), Gr A₀ base [] (Mine.hd.heap_39 w.params) Mine.hd.view_39 (looseW Mine.hd.view_39 [Str.ofString "_NodeInfo"]) mean mg mb h₀ h₀' → Fr h₀' L h' m' → News h₀' L h' nw' → Q (.ret (.bool true)) { s with heap := h', toks := tk' })
  (hd : dp + 100 < recursionLimit) (hu : un + 900 < cLine) (hE : PassesOwn (model PySem.Challenge.rw_ik0081_01.prog w) (ktrTop dp un gd cn cs L a ccd [(Str.ofString "files", C)] []) (envX cn cs L a ccd [(Str.ofString "files", C)]) E),
  wpAny (model PySem.Challenge.rw_ik0081_01.prog w) (ktrTop dp un gd cn cs L a ccd [(Str.ofString "files", C)] []) (execs b (envX cn cs L a ccd [(Str.ofString "files", C)])) Q E s := by
 refine e2_2 (law_A w) ?_
 intro b cs hb PA
 refine e2_2 (law_B w) ?_
 intro b2 cs2 hb2 PB
 refine e0_2 (hb.uniq hb2) ?_
 intro e1 e2
 subst e1 e2
 refine e2_2 (law_C w) ?_
 intro b2 cs2 hb3 PC
 refine e0_2 (hb.uniq hb3) ?_
 intro e1 e2
 subst e1 e2
 refine e2_2 (law_D w) ?_
 intro b2 cs2 hb4 PD
 refine e0_2 (hb.uniq hb4) ?_
 intro e1 e2
 subst e1 e2
 refine e2_2 (law_E w) ?_
 intro b2 cs2 hb5 PE
 refine e0_2 (hb.uniq hb5) ?_
 intro e1 e2
 subst e1 e2
 refine e2_2 (law_F w) ?_
 intro b2 cs2 hb6 PF
 refine e0_2 (hb.uniq hb6) ?_
 intro e1 e2
 subst e1 e2
 refine e2_2 (law_G w) ?_
 intro b2 cs2 hb7 PG
 refine e0_2 (hb.uniq hb7) ?_
 intro e1 e2
 subst e1 e2
 refine e2_2 (law_H w) ?_
 intro b2 cs2 hb8 PH
 refine e0_2 (hb.uniq hb8) ?_
 intro e1 e2
 subst e1 e2
 refine i2_2 b cs hb ?_
 intro dp un gd cn a ccd A₀ base h₀ L m news s mean mg mb Q E B KX N T hk XB TB KD hnd Sc C oC cm sv ns hSc hsv hlen hcell hoC F hA hEm hret hd hu hE
 refine @PA dp un gd cn a ccd A₀ base h₀ L m news s mean mg mb Q E B KX N T hk XB TB KD Sc C oC cm sv ns hnd hSc hsv hlen hcell hoC F ?_ (by exact rm1 hd (by decide)) (by exact rm1 hu (by decide)) hE
 intro h₁ Rw Pk Rd pv rv kp kr m1 nw1 h1 tk1 G1 F1 N1 hn1 sub1 hR1 hP1 hpv hRd1 hrv
 have hSc1 : h₁.IsList Sc sv.toArray := hSc.at fun o e => G1.turn.other _ o e (fun h => by cases h)
 refine @PB dp un gd cn a ccd A₀ base h₁ L m1 nw1 _ mean mg mb Q E G1.below G1.kin N1 G1.top hk XB TB G1.dicts hn1 Sc C Rw Pk Rd sv ns hSc1 hsv hlen F1 ?_ hd hu hE
 intro Pr m2 nw2 h2 tk2 F2 N2 hn2 sub2 hPr
 refine @PC dp un gd cn a ccd A₀ base h₁ L m2 nw2 _ mean mg mb Q E G1.below G1.kin N2 G1.top hk XB TB G1.dicts hn2 C Rw Pk Rd Pr oC cm pv rv kp kr (pkN ns 5) (sub2 _ (sub1 _ hcell)) hoC (sub2 _ hP1) hpv (sub2 _ hRd1) hrv (Nat.le_trans (pkN_len ns 5 (Nat.le_refl _)) (by decide)) hPr F2 ?_ hd hu hE
 intro Fl fv kf oC3 m3 nw3 h3 tk3 F3 N3 hn3 sub3 hc3 hoC3 hFl hfv
 have hR3 : RowsIn nw3 Rw (szOf ns) (needF ns) := hR1.monoL (fun a its k h => sub3 a its k (sub2 _ h)) (needF_lt ns)
 refine @PD dp un gd cn a ccd A₀ base h₁ L m3 nw3 _ mean mg mb Q E G1.below G1.kin N3 G1.top hk XB TB G1.dicts hn3 C Rw Fl oC3 fv kf (szOf ns) (needF ns) hc3 hoC3 hR3 (fun k => Nat.le_trans (needF_len ns k) (by decide)) hFl hfv F3 ?_ hd hu hE
 intro Sx Rn rv4 kr4 g m4 nw4 h4 tk4 F4 N4 hn4 sub4 hno4 hS4 ho4 hr4 hpo4 hnf4 hsu4 hnp4 hRn4 hRv4
 refine gen1 (off [Sx, g.dS, g.D] nw4) ?_
 intro X eX
 have hX4 : ∀ p ∈ X, p ∈ nw4 ∧ ¬ Own Sx g p.1 := fun p hp => by
  rw [eX] at hp
  refine e0_2 (mem_off.mp hp) ?_
  intro x1 x2
  exact ⟨x1, fun h => x2 ((own_none ho4 hr4).mp h)⟩
 have inX : ∀ p ∈ nw4, ¬ Own Sx g p.1 → p ∈ X := fun p hp h => by
  rw [eX]
  exact mem_off.mpr ⟨hp, fun q => h ((own_none ho4 hr4).mpr q)⟩
 have inXL : ∀ a its k, (a, W.listOf its k) ∈ nw4 → (a, W.listOf its k) ∈ X := fun a its k h => inX _ h (list_free hS4 hn4 ho4 hr4 h)
 have hcX := inX _ (sub4 _ hc3) (hno4 _ hc3)
 have hFlX := inXL _ _ _ (sub4 _ hFl)
 have hRX : RowsIn X Rw (szOf ns) (needF ns) := hR3.monoL (fun a its k h => inXL _ _ _ (sub4 _ h)) fun _ _ => rfl
 have hRnX := inXL _ _ _ hRn4
 have hRvX := hRv4.monoL inXL
 refine @PE dp un gd cn a ccd A₀ base h₁ L m4 nw4 _ mean mg mb Q E G1.below G1.kin N4 G1.top hk XB TB G1.dicts hn4 C Rw Fl Sx Rn oC3 fv rv4 kf kr4 (szOf ns) (needF ns) X g hX4 hcX hoC3 hRX (needF_len ns) (needF_5 ns) hFlX hfv hS4 ho4 hr4 (fun j => by rw [hsu4 j]; rfl) F4 ?_ hd hu hE
 intro g5 m5 nw5 h5 tk5 F5 N5 hn5 hX5 hS5 hab5 hsame5
 obtain ⟨go1, go2, go3⟩ := graph_ok (needF_5 ns) (a := g.ab) ho4 hsu4 hnp4
 rw [← hab5] at go1 go2 go3
 have hb5 : ∀ j, (g5.su j).length ≤ 1000 := fun j => by
  have h1 := graph_su_len (needF ns) (needF_len ns) g.ab (fun j => by rw [show g.ab.su j = [] from hsu4 j]; rfl) j 5
  rw [← hab5] at h1
  have h2 : (g5.su j).length ≤ 8 * 5 := h1
  exact Nat.le_trans h2 (by decide)
 have hcl5 : ∀ j ∈ g5.ord, ∀ k ∈ g5.su j, k ∈ g5.ord := fun j hj k hk => (go1 k).mpr (go2.1 j ((go1 j).mp hj) k hk)
 refine @PF dp un gd cn a ccd A₀ base h₁ L m5 nw5 _ mean mg mb Q E G1.below G1.kin N5 G1.top hk XB TB G1.dicts hn5 C Rw Sx Rn X g5 hX5 hS5 (hsame5.rdy.trans hr4) hcl5 hb5 hA hEm F5 ?_ hd hu hE
 intro h₂ R rb m6 nw6 h6 tk6 G2 F6 N6 hn6 hX6 hS6 htopo hring
 have hlive : Live (needF ns) [] g5.np (g5.ord.filter fun j => decide (g5.np j = 0)) g5.po g5.nf := live_start go1 go3 hS5.nodup (hsame5.po.trans hpo4) (hsame5.nf.trans hnf4)
 refine @PG dp un gd cn a ccd A₀ base h₂ L m6 nw6 _ mean mg mb Q E G2.below G2.kin N6 G2.top hk XB TB G2.dicts hn6 C Rw Fl Sx Rn R oC3 fv rv4 kf kr4 (needF ns) X _ _ rb hX6 hcX hoC3 hFlX hfv hRnX hRvX hS6 rfl go1 go2 hb5 hlive F6 ?_ hd hu hE
 intro g7 r7 m7 nw7 h7 tk7 F7 N7 hn7 hX7 hS7 hr7 hlv7
 have hend := rounds_end (needF ns)
 have hr70 : r7 = [] := by
  have := hlv7.perm
  rw [hend] at this
  exact List.perm_nil.mp this
 subst hr70
 have hKl : (rounds (needF ns)).flatten.length ≤ 5 := nodup_len 5 _ hlv7.nd hlv7.lt
 have hrb : rb = decide ((rounds (needF ns)).flatten.length < 5) := by
  cases rb with
  | false =>
   refine e1_3 (htopo rfl) ?_
   intro fin f1 f2 f3
   exact (decide_eq_false (live_topo hlv7 go2 (needF_5 ns) hend f1 f2 fun j => (f3 j).trans (go1 j))).symm
  | true =>
   refine e1_2 (hring rfl) ?_
   intro l l1 l2
   exact (decide_eq_true (live_ring hlv7 go2 (fun j hj => (go1 j).mp (l1 j hj)) l2)).symm
 refine @PH dp un gd cn a ccd A₀ base h₂ L m7 nw7 _ mean mg mb Q E G2.below G2.kin N7 G2.top hk XB TB G2.dicts hn7 C Rw Sx Rn R rv4 kr4 (rounds (needF ns)) g7 rb (hX7 _ hRnX).1 (hRvX.mono fun p hp => (hX7 p hp).1) (by exact Nat.le_trans hKl (by decide)) hS7 hr7 (hlv7.nf.trans hlv7.po.symm) hrb F7 ?_ hd hu hE
 intro m8 nw8 h8 tk8 F8 N8 sub8
 exact hret h₂ m8 nw8 h8 tk8 (G1.then G2) F8 N8
end
end Mine
local macro_rules | `(tactic| k_qdec) => `(tactic| decide +kernel)
theorem PySem.Challenge.cw_ik0081_01_holds : PySem.Challenge.rw_ik0081_01.Holds := by
 refine holds_law Mine.hd.said fun said => ?_
 refine holds_open (q := Mine.hd.view_39) (loose := [Str.ofString "_NodeInfo"]) (Xt := fun s => xlAt Mine.hd.view_39 [] s && recOk (RowW.records Mine.hd.R) s) (XP := XL Mine.hd.view_39 []) (Yf := Hook.obs Mine.hd.H) (Ya := Hook.val Mine.hd.H) (YP := Hook.says Mine.hd.H) (N := 4346) Mine.hd.left (Hook.of Mine.hd.H) (Hook.keeps Mine.hd.H) (fun s e => xl_of s (Bool.and_eq_true_iff.mp e).1) XL.keeps (by rfl) (by rfl) (by rfl) (fun s e => recFacts_of (Bool.and_eq_true_iff.mp e).2) (by rfl) said (by decide +kernel) ⟨rfl, rfl, rfl, rfl, rfl, by decide +kernel⟩ ?hw ?hc
 case hw => w_witness2
 clear said
 k_go0
 (all_goals try k_fold)
 rename World => w
 rename Below callerA _ [] _ => K0
 rename Frag.In _ _ => KX
 rename Top _ _ _ _ _ _ => T
 rename IntsAre _ _ => hsv
 rename Heap.IsList _ _ _ => hSc
 rename News _ _ _ _ => N0
 rename Fr _ _ _ _ => F
 rename Obj.data _ = Data.cell _ => hoC
 rename ¬ (63 : Int) < _ => hlen
 obtain ⟨b, cs, hb, P⟩ := Mine.law_all w
 have hb' : Mine.LawFn w _ _ := ⟨_, _, _, _, _, _, _, _, _, _, _, _, _, by k_is⟩
 obtain ⟨e1, e2⟩ := hb.uniq hb'
 subst e1 e2
 refine @P _ _ _ _ _ _ callerA _ _ _ _ _ _ _ _ _ _ _ K0 KX N0 T rfl KX T ?KD ?hnd _ _ _ _ _ _ hSc hsv ?hlen ?hcell hoC F rfl ?hEm ?hret ?hd ?hu ?hE
 case KD => intro b hb; cases hb
 case hnd => exact List.nodup_cons.mpr ⟨List.not_mem_nil, List.nodup_nil⟩
 case hlen => omega
 case hcell => exact .head _
 case hd => decide
 case hu => decide
 case hE => passes_own
 case hEm => intro e; passes_own
 case hret =>
  intro h₂ m₂ nw₂ h' tk' G₂ F₂ N₂
  have F3 := Mine.fr_back G₂ F₂
  clear F₂ N₂ G₂ F N0 hsv hSc hoC
  k_steps
