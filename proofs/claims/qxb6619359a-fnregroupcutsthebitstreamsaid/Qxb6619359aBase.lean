/-
  THE GROUND OF THIS SEAT's WALKS: a row of bytes that the call itself made ('Row'), what a load, a store, a new block and a draw do to it; 'make' and 'copy' as laws for the walk at this program's '[]byte' (type 22, element type 5).
-/
import Derived.Test.Qxb6619359aRows
import Derived.Test.Qxb6619359aPlainR
import Derived.Deep.RegionLaw
import Derived.WalkKit
import Derived.WalkSpells
import Derived.Laws.CopyOwn
import Derived.Below
import Derived.OwnWalk
namespace Go.Proofs.Qxb6619359a
open Go.RowKit

theorem hidden {p : Prop} (h : p) : Hid p := h

/-- The values that a row of bytes holds. -/
def vals (zs : List Nat) : List Value := zs.map fun (z : Nat) => Value.int .u8 (z : Int)

theorem vals_length (zs : List Nat) : (vals zs).length = zs.length := by simp [vals]

theorem vals_get (zs : List Nat) (k : Nat) (h : k < zs.length) : (vals zs)[k]? = some (.int .u8 (bt zs k)) := by
  simp [vals, bt, h]

/-- Block g is a row of bytes, just zs, no cell of it frozen. -/
def Row (w : World) (g : Nat) (zs : List Nat) : Prop := w.heap[g]? = some (.cells (vals zs).toArray 5 (0, 0))

theorem Row.lt {w : World} {g : Nat} {zs : List Nat} (h : Row w g zs) : g < w.heap.size := (Array.getElem?_eq_some_iff.1 h).1

theorem Row.cell {w : World} {g : Nat} {zs : List Nat} (h : Row w g zs) (k : Nat) (hk : k < zs.length) : w.cell? ⟨g, k, none⟩ = some (.int .u8 (bt zs k)) := by
  have h' : w.heap[g]? = some (.cells (vals zs).toArray 5 (0, 0)) := h
  simp [World.cell?, h', vals_get zs k hk]

theorem Row.frozen {w : World} {g : Nat} {zs : List Nat} (h : Row w g zs) (k : Nat) : w.frozen? ⟨g, k, none⟩ = false := by
  have h' : w.heap[g]? = some (.cells (vals zs).toArray 5 (0, 0)) := h
  simp [World.frozen?, h']

theorem Row.of_block {w w' : World} {g : Nat} {zs : List Nat} (h : Row w g zs) (e : w'.heap[g]? = w.heap[g]?) : Row w' g zs := by
  unfold Row; rw [e]; exact h

theorem Row.below {w w' : World} {g B : Nat} {zs : List Nat} (h : Row w g zs) (hb : Below B w w') (hg : g < B) : Row w' g zs := h.of_block (hb.block g hg)

theorem Row.alloc {w : World} {g : Nat} {zs : List Nat} (h : Row w g zs) (o : Obj) : Row (w.alloc o) g zs := h.of_block (Below.heap_alloc w o g h.lt)

theorem Row.drew {w : World} {g : Nat} {zs : List Nat} (h : Row w g zs) : Row w.drew g zs := h

theorem Row.other {w : World} {g : Nat} {zs : List Nat} (h : Row w g zs) (a : Addr) (v : Value) (hne : g ≠ a.block) : Row (w.setCell a v) g zs := h.of_block (heap_setCell_other w a g v hne)

theorem vals_set (zs : List Nat) (k v : Nat) : (vals zs).set k (.int .u8 (v : Int)) = vals (zs.set k v) := by simp [vals, List.map_set]

theorem Row.set {w : World} {g : Nat} {zs : List Nat} (h : Row w g zs) (k v : Nat) : Row (w.setCell ⟨g, k, none⟩ (.int .u8 (v : Int))) g (zs.set k v) := by
  have h' : w.heap[g]? = some (.cells (vals zs).toArray 5 (0, 0)) := h
  have e := heap_setCell_same w g k _ 5 (.int .u8 (v : Int)) h'
  unfold Row
  rw [e, ← vals_set]
  simp

theorem Row.setV {w : World} {g : Nat} {zs : List Nat} (h : Row w g zs) (k v : Nat) (V : Int) (hV : V = (v : Int)) : Row (w.setCell ⟨g, k, none⟩ (.int .u8 V)) g (zs.set k v) := by
  rw [hV]; exact h.set k v

/-- Block g is an array variable of type [6]byte (type 27), just zs, no cell of it frozen. -/
def Arr (w : World) (g : Nat) (zs : List Nat) : Prop := w.heap[g]? = some (.cells (vals zs).toArray 27 (0, 0))

theorem Arr.lt {w : World} {g : Nat} {zs : List Nat} (h : Arr w g zs) : g < w.heap.size := (Array.getElem?_eq_some_iff.1 h).1

theorem Arr.cell {w : World} {g : Nat} {zs : List Nat} (h : Arr w g zs) (k : Nat) (hk : k < zs.length) : w.cell? ⟨g, k, none⟩ = some (.int .u8 (bt zs k)) := by
  have h' : w.heap[g]? = some (.cells (vals zs).toArray 27 (0, 0)) := h
  simp [World.cell?, h', vals_get zs k hk]

theorem Arr.frozen {w : World} {g : Nat} {zs : List Nat} (h : Arr w g zs) (k : Nat) : w.frozen? ⟨g, k, none⟩ = false := by
  have h' : w.heap[g]? = some (.cells (vals zs).toArray 27 (0, 0)) := h
  simp [World.frozen?, h']

theorem Arr.of_block {w w' : World} {g : Nat} {zs : List Nat} (h : Arr w g zs) (e : w'.heap[g]? = w.heap[g]?) : Arr w' g zs := by
  unfold Arr; rw [e]; exact h

theorem Arr.below {w w' : World} {g B : Nat} {zs : List Nat} (h : Arr w g zs) (hb : Below B w w') (hg : g < B) : Arr w' g zs := h.of_block (hb.block g hg)

theorem Arr.alloc {w : World} {g : Nat} {zs : List Nat} (h : Arr w g zs) (o : Obj) : Arr (w.alloc o) g zs := h.of_block (Below.heap_alloc w o g h.lt)

theorem Arr.drew {w : World} {g : Nat} {zs : List Nat} (h : Arr w g zs) : Arr w.drew g zs := h

theorem Arr.other {w : World} {g : Nat} {zs : List Nat} (h : Arr w g zs) (a : Addr) (v : Value) (hne : g ≠ a.block) : Arr (w.setCell a v) g zs := h.of_block (heap_setCell_other w a g v hne)

theorem Arr.setV {w : World} {g : Nat} {zs : List Nat} (h : Arr w g zs) (k v : Nat) (V : Int) (hV : V = (v : Int)) : Arr (w.setCell ⟨g, k, none⟩ (.int .u8 V)) g (zs.set k v) := by
  subst hV
  have h' : w.heap[g]? = some (.cells (vals zs).toArray 27 (0, 0)) := h
  have e := heap_setCell_same w g k _ 27 (.int .u8 (v : Int)) h'
  unfold Arr
  rw [e, ← vals_set]
  simp

theorem Arr.made (w : World) (p0 p1 p2 p3 p4 p5 : Nat) : Arr (w.alloc (.cells #[.int .u8 (p0 : Int), .int .u8 (p1 : Int), .int .u8 (p2 : Int), .int .u8 (p3 : Int), .int .u8 (p4 : Int), .int .u8 (p5 : Int)] 27)) w.heap.size [p0, p1, p2, p3, p4, p5] :=
  heap_alloc_new w _

/-- The element type's row of the table. -/
theorem Try.info5 : (Try.prog.info? 5).map (fun i => (i.zero, i.size, i.bytes)) = some (some (.int .u8 0), 1, 1) := by kernel_rfl

theorem made_vals (n : Nat) : madeCells (Value.cells (.int .u8 0)) n = (vals (List.replicate n 0)).toArray := by
  apply Array.ext'
  simp [madeCells, vals, Value.cells]
  apply List.ext_getElem
  · simp
  · intro i h1 h2
    simp [Nat.mod_one]

/-- 'make([]byte, n, c)', n ≤ c: a row of c zeros in a new block. -/
theorem wpList_make_row {w : World} {ops : Array Oper} {rest : List Oper} {o : Oper} {a : Act} {Q : Exit → Act → World → Prop}
    (hg : o.guard = none) (l c : Operand) (hop : o.op = Op.makeSlice 22 l c) (L C : Int) (n m : Nat) (hl : a.eval l = .int .i64 L) (hc : a.eval c = .int .i64 C) (hL : L = (n : Int)) (hC : C = (m : Int)) (hnm : n ≤ m) (hm : m ≤ 281474976710656)
    (hK : ∀ w', Row w' w.heap.size (List.replicate m 0) → Below w.heap.size w w' → wpList Try.prog ops Q rest (a.put o.dst (.slice (some ⟨w.heap.size, 0, none⟩) n m)) w') :
    wpList Try.prog ops Q (o :: rest) a w := by
  refine wpList_plain hg fun K hK' => ?_
  obtain ⟨i0, hi, hz0, hz1, hz2⟩ := info_parts Try.info5
  have hrun := run_make (P := Try.prog) w 22 5 i0 (.int .u8 0) Try.underlying22 hi hz0 .i64 .i64 L C (by omega) (by omega) (by rw [hz2]; omega) (by omega)
  subst hL
  subst hC
  rw [hz1] at hrun
  simp only [Int.toNat_natCast, Nat.mul_one] at hrun
  unfold Oper.wp
  simp [execOp, hop, hl, hc, hrun, Result.andThen]
  refine hK' _ _ (hK _ ?_ ?_)
  · unfold Row; rw [made_vals, heap_alloc_new]
  · exact (Below.refl _ _).alloc (Nat.le_refl _) _

/-- 'out = append(out, b)' WHERE THERE IS ROOM, as one step of a region that draws: the row takes the byte at its place m. -/
theorem step_append_byte {ops : Array Oper} {o : Oper} {a : Act} {w : World} {K : Act → World → Prop} {Q : Exit → Act → World → Prop} {E : Prop}
    (hg : o.guard = none) (s x : Operand) (hop : o.op = Op.call { callee := Callee.builtin Builtin.append, args := #[s, x], argTypes := #[22, 22] })
    (G m cap : Nat) (hs : a.eval s = .slice (some ⟨G, 0, none⟩) m cap) (ad : Addr) (hx : a.eval x = .slice (some ad) 1 1) (V : Int) (v : Nat) (hV : V = (v : Int)) (hcell : w.cell? ad = some (.int .u8 V))
    (zs : List Nat) (hrow : Row w G zs) (hlen : m < zs.length) (hroom : m + 1 ≤ cap) (B : Nat) (w0 : World) (hb : Below B w0 w) (hBG : B ≤ G)
    (hK : ∀ w', Row w' G (zs.set m v) → Below B w0 w' → K (a.put o.dst (.slice (some ⟨G, 0, none⟩) (m + 1) cap)) w') :
    if Region.wanted o (yielded ops a.tmps) = true then Oper.wp Try.prog o a w K Q else E := by
  obtain ⟨i0, hi, hz0, hz1, hz2⟩ := info_parts Try.info5
  subst hV
  refine step_append_room hg s x 22 hop 5 i0 1 Try.underlying22 hi hz1 G 0 m cap hs ad 1 1 [.int .u8 (v : Int)] hx rfl ?_ ?_ hroom ?_ ?_
  · intro j u hj
    match j, hj with
    | 0, hj =>
      simp at hj
      subst hj
      simpa [Addr.add] using hcell
  · intro u hu
    simp at hu
    subst hu
    rfl
  · intro j hj
    simp at hj
    subst hj
    simp only [Nat.zero_add, Nat.mul_one, Nat.add_zero]
    exact ⟨by rw [hrow.cell m hlen]; rfl, hrow.frozen m⟩
  · simp only [Nat.zero_add, Nat.mul_one, World.setCells]
    exact hK _ (hrow.set m v) (hb.setCell hBG _)

end Go.Proofs.Qxb6619359a
