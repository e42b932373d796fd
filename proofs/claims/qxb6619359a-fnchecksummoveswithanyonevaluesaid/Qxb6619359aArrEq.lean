/-
  '==' ON TWO ARRAYS [6]byte: as their lists of bytes are.
-/
import Derived.Test.Qxb6619359aArrays
import Derived.ChangeKeysEq
import Derived.Laws.StructEq
namespace Go.Proofs.Qxb6619359a
open Go.RowKit

theorem Try.plain5 : Try.prog.plainKey 5 = true := by kernel_rfl
theorem Try.cells5 : Try.prog.cellsOf 5 = 1 := by kernel_rfl

theorem run_items (d : Nat) (zs us : List Nat) (w : World) : ∀ is : List Nat, (∀ i ∈ is, i < zs.length ∧ i < us.length) →
    (Op.eqItems (d + 1) 5 1 (vals zs).toArray (vals us).toArray is).run Try.prog w = .ok (is.all fun i => zs.getD i 0 == us.getD i 0) w
  | [], _ => by simp [Op.eqItems]
  | i :: is, h => by
    obtain ⟨h1, h2⟩ := h i List.mem_cons_self
    have ih := run_items d zs us w is (fun j hj => h j (List.mem_cons_of_mem i hj))
    have p1 : (part 5 (vals zs).toArray (i * 1)).run Try.prog w = .ok (.int .u8 (bt zs i)) w := run_part_plain w Try.plain5 (by simpa using vals_get zs i h1)
    have p2 : (part 5 (vals us).toArray (i * 1)).run Try.prog w = .ok (.int .u8 (bt us i)) w := run_part_plain w Try.plain5 (by simpa using vals_get us i h2)
    have p3 := run_equalIn_int (P := Try.prog) w d 5 .u8 .u8 (bt zs i) (bt us i) Try.underlying5
    have e : (bt zs i == bt us i) = (zs.getD i 0 == us.getD i 0) := by
      unfold bt
      rw [Bool.eq_iff_iff, beq_iff_eq, beq_iff_eq]
      omega
    simp only [Op.eqItems, Sem.run_bind, p1, p2, p3, Result.andThen_ok, List.all_cons]
    rw [e]
    cases zs.getD i 0 == us.getD i 0
    · simp
    · simpa using ih

/-- '==' of two arrays. -/
theorem run_equal_arr (zs us : List Nat) (w : World) (hz : zs.length = 6) (hu : us.length = 6) :
    (Op.equalIn 10000 27 (.agg (vals zs).toArray) (.agg (vals us).toArray)).run Try.prog w = .ok (decide (zs = us)) w := by
  obtain ⟨i0, hi, hz0, hz1, hz2⟩ := info_parts Try.info5
  rw [run_equalIn_array w 9999 _ _ Try.underlying27 hi, Try.cells5, run_items 9998 zs us w (List.range 6) (fun i hi => by have := List.mem_range.1 hi; omega)]
  congr 1
  rw [Bool.eq_iff_iff, decide_eq_true_iff, List.all_eq_true]
  constructor
  · intro h
    apply List.ext_getElem (by omega)
    intro i h1 h2
    have := h i (List.mem_range.2 (by omega))
    rw [beq_iff_eq] at this
    simpa [h1, h2] using this
  · intro h i _
    rw [h]
    simp
end Go.Proofs.Qxb6619359a
