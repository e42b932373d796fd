/-
  THE FRONT OF EVERY LAW OF THIS SEAT: the argument's bytes as a list of numbers; 'copy' into a fresh row; 'append' of one byte where there is room.
-/
import Derived.Test.Qxb6619359aBase
import Derived.OpenShut
import Derived.ArgAppend
namespace Go.Proofs.Qxb6619359a
open Go.RowKit

/-- WHAT A WALK ASKS OF A BYTE SLICE THAT CAME IN AND IS NOT NIL: its bytes as a list of numbers. -/
theorem open_arg {w : World} {x : Addr} {len cap : Nat} {zs : List Int} (hl : len ≤ cap) (hz : zs.length = cap)
    (hc : ∀ i, i < zs.length → w.cell? (x.add i) = some (.int .u8 (zs.getD i 0))) (hw : ∀ n ∈ zs, (Lit.int .u8 n).wf = true) :
    ∃ ns : List Nat, ns.length = len ∧ (∀ z ∈ ns, z < 256) ∧ ∀ i, i < len → w.cell? (x.add i) = some (.int .u8 (bt ns i)) := by
  refine ⟨(zs.take len).map Int.toNat, by simp; omega, ?_, ?_⟩
  · intro z hz'
    obtain ⟨y, hy, rfl⟩ := List.mem_map.1 hz'
    have := bounds_u8 (hw y (List.mem_of_mem_take hy))
    omega
  · intro i hi
    rw [hc i (by omega)]
    have hi2 : i < zs.length := by omega
    have hb := bounds_u8 (hw zs[i] (List.getElem_mem hi2))
    have e : bt ((zs.take len).map Int.toNat) i = zs.getD i 0 := by
      unfold bt
      simp [hi, hi2]
      omega
    rw [e]

theorem vals_one (ns : List Nat) : ∀ v ∈ vals ns, v.oneCell' = true := by
  intro v hv
  obtain ⟨z, _, rfl⟩ := List.mem_map.1 hv
  rfl

theorem vals_src {w : World} {x : Addr} {ns : List Nat} (h : ∀ i, i < ns.length → w.cell? (x.add i) = some (.int .u8 (bt ns i))) : ∀ j v, (vals ns)[j]? = some v → w.cell? (x.add j) = some v := by
  intro j v hj
  have hlt : j < ns.length := by
    have := (List.getElem?_eq_some_iff.1 hj).1
    rwa [vals_length] at this
  rw [vals_get ns j hlt] at hj
  rw [h j hlt]
  exact hj

/-- What came in reads as it did in every world that is one with the first below its heap's end. -/
theorem src_later {w w1 : World} {x : Addr} {n : Nat} {ns : List Nat} (hb : Below w.heap.size w w1) (h : ∀ i, i < n → w.cell? (x.add i) = some (.int .u8 (bt ns i))) : ∀ i, i < n → w1.cell? (x.add i) = some (.int .u8 (bt ns i)) := by
  intro i hi
  exact (hb.cell (World.block_lt_of_cell? w _ (h i hi))).trans (h i hi)

theorem Try.size5 : (Try.prog.info? 5).map (·.size) = some 1 := by kernel_rfl

/-- 'copy(zzc, data)', zzc a fresh row as long as data. -/
theorem wpList_copy_row {w : World} {ops : Array Oper} {rest : List Oper} {o : Oper} {a : Act} {Q : Exit → Act → World → Prop} (hgd : o.guard = none) (d s : Operand)
    (ho : o.op = .call { callee := .builtin .copy, args := #[d, s], argTypes := #[22, 22] }) (G n m c : Nat) (x : Addr) (hd : a.eval d = .slice (some ⟨G, 0, none⟩) n m) (hs : a.eval s = .slice (some x) n c)
    (zs ns : List Nat) (hrow : Row w G zs) (hzs : zs.length = n) (hns : ns.length = n) (hsrc : ∀ i, i < n → w.cell? (x.add i) = some (.int .u8 (bt ns i))) (B : Nat) (w0 : World) (hb : Below B w0 w) (hBG : B ≤ G)
    (h : ∀ w', Row w' G ns → Below B w0 w' → wpList Try.prog ops Q rest (a.put o.dst (.int .i64 n)) w') :
    wpList Try.prog ops Q (o :: rest) a w := by
  subst hns
  refine wpList_copy_splice hgd d s 22 22 ho 5 Try.underlying22 Try.size5 (some ⟨G, 0, none⟩) (some x) ns.length m ns.length c hd hs G 0 (vals zs) 5 hrow (vals ns) (by rw [vals_length]; exact (Nat.min_self _).symm)
    (fun _ => ⟨rfl, x, rfl, vals_src hsrc⟩) (by rw [vals_length, vals_length]; omega) (vals_one ns) B w0 hb hBG ?_
  intro w' hg' hb'
  have e : splice (vals zs) 0 (vals ns) = vals ns := by
    unfold splice
    rw [List.take_zero, List.nil_append, List.drop_of_length_le (by rw [vals_length, vals_length]; omega), List.append_nil]
  have hg2 : w'.heap[G]? = some (.cells (vals ns).toArray 5 (0, 0)) := by rw [← e]; exact hg'.out
  have e2 : goInt (vals ns).length = .int .i64 (ns.length : Int) := by rw [vals_length]; rfl
  rw [e2]
  exact h w' hg2 hb'

/-- 'out = append(out, b)' where there is room, outside a region that draws. -/
theorem wpList_append_byte {w : World} {ops : Array Oper} {rest : List Oper} {o : Oper} {a : Act} {Q : Exit → Act → World → Prop}
    (hg : o.guard = none) (s x : Operand) (hop : o.op = Op.call { callee := Callee.builtin Builtin.append, args := #[s, x], argTypes := #[22, 22] })
    (G m cap : Nat) (hs : a.eval s = .slice (some ⟨G, 0, none⟩) m cap) (ad : Addr) (hx : a.eval x = .slice (some ad) 1 1) (V : Int) (v : Nat) (hV : V = (v : Int)) (hcell : w.cell? ad = some (.int .u8 V))
    (zs : List Nat) (hrow : Row w G zs) (hlen : m < zs.length) (hroom : m + 1 ≤ cap) (B : Nat) (w0 : World) (hb : Below B w0 w) (hBG : B ≤ G)
    (hK : ∀ w', Row w' G (zs.set m v) → Below B w0 w' → wpList Try.prog ops Q rest (a.put o.dst (.slice (some ⟨G, 0, none⟩) (m + 1) cap)) w') :
    wpList Try.prog ops Q (o :: rest) a w := by
  refine wpList_plain hg fun K hK' => ?_
  obtain ⟨i0, hi, hz0, hz1, hz2⟩ := info_parts Try.info5
  subst hV
  have hrun := run_append_room_cells (P := Try.prog) w 22 o.type 5 i0 Try.underlying22 hi G 0 m cap ad 1 1 [.int .u8 (v : Int)] (by rw [hz1]; rfl) (by
    intro j u hj
    match j, hj with
    | 0, hj =>
      simp at hj
      subst hj
      simpa [Addr.add] using hcell) (by
    intro u hu
    simp at hu
    subst hu
    rfl) hroom (by
    intro j hj
    simp at hj
    subst hj
    rw [hz1]
    simp only [Nat.zero_add, Nat.mul_one, Nat.add_zero]
    rw [hrow.cell m hlen]; rfl) (by
    intro j hj
    simp at hj
    subst hj
    rw [hz1]
    simp only [Nat.zero_add, Nat.mul_one, Nat.add_zero]
    exact hrow.frozen m)
  unfold Oper.wp
  simp [execOp, hop, resolve, invoke, builtin, hs, hx, hrun, Result.andThen]
  refine hK' _ _ ?_
  rw [hz1]
  simp only [Nat.mul_one, World.setCells]
  exact hK _ (hrow.set m v) (hb.setCell hBG _)
end Go.Proofs.Qxb6619359a
