/-
  '==' on two object keys (type 31) and on two policy keys (type 25), as the walk meets it.
-/
import Derived.Test.Qxb6616635aRowLaws
import Derived.Laws.StructEq
namespace Go.Proofs.Qxb6616635a.okey
open Go.RowKit

theorem part_ric (r t : ByteArray) (w : World) : (part 9 (keyA r t) 0).run Try.prog w = .ok (.string r) w := by kernel_rfl
theorem part_typ (r t : ByteArray) (w : World) : (part 9 (keyA r t) 1).run Try.prog w = .ok (.string t) w := by kernel_rfl
theorem part_key (r t : ByteArray) (w : World) : (part 25 (keyA r t) 2).run Try.prog w = .ok (.agg zs) w := by kernel_rfl

theorem equal25 (d : Nat) (w : World) : (Op.equalIn (d + 3) 25 (.agg zs) (.agg zs)).run Try.prog w = .ok true w := by kernel_rfl

theorem fields31 : ∃ f0 f1 f2 : Field, (Try.prog.fieldsOf 31).toList = [f0, f1, f2] ∧ ((f0.name ≠ "_" ∧ f0.type = 9 ∧ f0.offset = 0) ∧ (f1.name ≠ "_" ∧ f1.type = 9 ∧ f1.offset = 1) ∧ (f2.name ≠ "_" ∧ f2.type = 25 ∧ f2.offset = 2)) := by
  refine ⟨_, _, _, by simp only [Program.fieldsOf, Try.underlying31]; rfl, ⟨?_, rfl, rfl⟩, ⟨?_, rfl, rfl⟩, ?_, rfl, rfl⟩ <;> decide

theorem equal31 (r1 t1 r2 t2 : ByteArray) (w : World) :
    (Op.equalIn 10000 31 (.agg (keyA r1 t1)) (.agg (keyA r2 t2))).run Try.prog w = .ok ((r1.toList == r2.toList) && (t1.toList == t2.toList)) w := by
  obtain ⟨f0, f1, f2, hf, ⟨n0, y0, o0⟩, ⟨n1, y1, o1⟩, n2, y2, o2⟩ := fields31
  rw [run_equalIn_struct w 9999 31 _ _ (by kernel_rfl) (by kernel_rfl), hf]
  have h3 : ∀ w : World, (Op.eqFields 9999 (keyA r1 t1) (keyA r2 t2) [f2]).run Try.prog w = .ok true w := fun w => by
    simp only [Op.eqFields, if_pos n2, y2, o2, Sem.run_bind, part_key, Result.andThen_ok, equal25 9996]
    rfl
  have h2 : ∀ w : World, (Op.eqFields 9999 (keyA r1 t1) (keyA r2 t2) [f1, f2]).run Try.prog w = .ok (t1.toList == t2.toList) w := fun w => by
    rw [Op.eqFields]
    simp only [if_pos n1, y1, o1, Sem.run_bind, part_typ, Result.andThen_ok, run_equalIn_string w 9998 9 t1 t2 Try.underlying9]
    cases t1.toList == t2.toList
    · rfl
    · exact h3 w
  rw [Op.eqFields]
  simp only [if_pos n0, y0, o0, Sem.run_bind, part_ric, Result.andThen_ok, run_equalIn_string w 9998 9 r1 r2 Try.underlying9]
  cases r1.toList == r2.toList
  · rfl
  · rw [Bool.true_and]
    exact h2 w

theorem eql31 (r1 t1 r2 t2 : ByteArray) (w : World) :
    (binOp .eql 31 (.agg (keyA r1 t1)) (.agg (keyA r2 t2))).run Try.prog w = .ok (.bool ((r1.toList == r2.toList) && (t1.toList == t2.toList))) w := by
  rw [run_eql_struct, equal31]
  rfl

theorem eql25 (w : World) : (binOp .eql 25 (.agg zs) (.agg zs)).run Try.prog w = .ok (.bool true) w := by
  rw [run_eql_struct, equal25 9997]
  rfl

theorem guard31 (x y : Operand) (xs ys : Array Value) (w : World) : (eqGuard .eql 31 x y (.agg xs) (.agg ys)).run Try.prog w = .ok () w := run_eqGuard_agg w .eql 31 x y xs ys (by kernel_rfl)
theorem guard25 (x y : Operand) (xs ys : Array Value) (w : World) : (eqGuard .eql 25 x y (.agg xs) (.agg ys)).run Try.prog w = .ok () w := run_eqGuard_agg w .eql 25 x y xs ys (by kernel_rfl)

/-- '==' between two rows. -/
theorem wpList_eql {P : Program} {ops : Array Oper} {rest : List Oper} {o : Oper} {a : Act} {w : World} {Q : Exit → Act → World → Prop}
    (hw : Region.wanted o (yielded ops a.tmps) = true) (ty : TypeId) (x y : Operand) (yt : TypeId) (ho : o.op = .binOp .eql ty x y yt) (xs ys : Array Value) (hx : a.eval x = .agg xs) (hy : a.eval y = .agg ys)
    (hg : ∀ w : World, (eqGuard .eql ty x y (.agg xs) (.agg ys)).run P w = .ok () w) (v : Value) (hb : ∀ w : World, (binOp .eql ty (.agg xs) (.agg ys)).run P w = .ok v w)
    (k : wpList P ops Q rest (a.put o.dst v) w) : wpList P ops Q (o :: rest) a w :=
  wpList_run hw v (by unfold execOp; simp only [ho, hx, hy, Sem.run_bind, hg w, hb w, Result.andThen_ok, Sem.run_pure]) k

end Go.Proofs.Qxb6616635a.okey
