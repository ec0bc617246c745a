import Derived.Test.Qxb6617366aClone
import Derived.Laws.StructEq
namespace Go.Proofs.Qxb6617366a
open Go.RowKit

theorem guard25 : Try.prog.eqGuardType Try.prog.depth 25 = false := by kernel_rfl
theorem size5 (w : World) : (sizeOf 5).run Try.prog w = .ok 1 w := by kernel_rfl
theorem isAgg5 (w : World) : (isAgg 5).run Try.prog w = .ok false w := by kernel_rfl

theorem part_at (y : Nat → Int) (i : Nat) (hi : i < 16) (w : World) : (part 5 (guidOf y) (i * 1)).run Try.prog w = .ok (.int .u8 (y i)) w := by
  simp only [part, Sem.run_bind, isAgg5, Result.andThen_ok, Bool.false_eq_true, if_false, Nat.mul_one, guidOf_at y i hi, Sem.run_pure]

theorem equal_list (y : Nat → Int) (e : Nat) (he : ∀ (a : Int) (w : World), (Op.equalIn e 5 (.int .u8 a) (.int .u8 a)).run Try.prog w = .ok true w) (w : World) : ∀ L : List Nat, (∀ i ∈ L, i < 16) →
    Sem.run Try.prog (forIn L ((none, ()) : Option Bool × Unit) fun i __s => do
            let __do_lift ← part 5 (guidOf y) (i * 1)
            let __do_lift_1 ← part 5 (guidOf y) (i * 1)
            let __do_lift ← Op.equalIn e 5 __do_lift __do_lift_1
            if (!__do_lift) = true then pure (ForInStep.done (some false, ())) else pure (ForInStep.yield (none, ()))) w = .ok (none, ()) w
  | [], _ => by simp
  | i :: L, h => by
    have ih := equal_list y e he w L (fun j hj => h j (List.mem_cons_of_mem _ hj))
    simp only [List.forIn_cons, Sem.run_bind, part_at y i (h i List.mem_cons_self), Result.andThen_ok, he, Bool.not_true, Bool.false_eq_true, if_false, Sem.run_pure]
    exact ih

theorem equal_step (y : Nat → Int) (e : Nat) (he : ∀ (a : Int) (w : World), (Op.equalIn e 5 (.int .u8 a) (.int .u8 a)).run Try.prog w = .ok true w) (w : World) : (Op.equalIn (e + 1) 25 (.agg (guidOf y)) (.agg (guidOf y))).run Try.prog w = .ok true w := by
  simp only [Op.equalIn, Sem.run_bind, run_underlying Try.underlying25, Result.andThen_ok, size5]
  first | rw [Std.Legacy.Range.forIn_eq_forIn_range'] | rw [Std.Range.forIn_eq_forIn_range']
  rw [equal_list y e he w _ (fun i hi => by simp [List.mem_range'] at hi; omega)]
  rfl

theorem equal_guid (y : Nat → Int) (w : World) : (Op.equalIn 10000 25 (.agg (guidOf y)) (.agg (guidOf y))).run Try.prog w = .ok true w :=
  equal_step y 9999 (fun a w => by rw [run_equalIn_int w 9998 5 .u8 .u8 a a Try.underlying5]; simp) w

theorem eql_guid (y : Nat → Int) (w : World) : (binOp .eql 25 (.agg (guidOf y)) (.agg (guidOf y))).run Try.prog w = .ok (.bool true) w := by
  rw [run_eql_struct, equal_guid]; rfl
theorem neq_guid (y : Nat → Int) (w : World) : (binOp .neq 25 (.agg (guidOf y)) (.agg (guidOf y))).run Try.prog w = .ok (.bool false) w := by
  rw [run_neq_struct, equal_guid]; rfl
theorem guard_guid (y : Nat → Int) (a b : Operand) (w : World) : (eqGuard .eql 25 a b (.agg (guidOf y)) (.agg (guidOf y))).run Try.prog w = .ok () w := run_eqGuard_agg w .eql 25 a b _ _ guard25
theorem guard_guid' (y : Nat → Int) (a b : Operand) (w : World) : (eqGuard .neq 25 a b (.agg (guidOf y)) (.agg (guidOf y))).run Try.prog w = .ok () w := run_eqGuard_agg w .neq 25 a b _ _ guard25
end Go.Proofs.Qxb6617366a
