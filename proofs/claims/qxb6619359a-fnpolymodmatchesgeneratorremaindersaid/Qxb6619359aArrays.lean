/-
  ARRAY VARIABLES [6]byte (type 27) AS LAWS FOR THE WALK: a whole array read, a whole array stored; a source of bytes that is a row of the call's own or nil.
-/
import Derived.Test.Qxb6619359aPolyWalk
import Derived.Laws.Tables
import Derived.Laws.Rows
namespace Go.Proofs.Qxb6619359a
open Go.RowKit

theorem Try.size27 : (Try.prog.info? 27).map (·.size) = some 6 := by kernel_rfl

theorem vals_all (zs : List Nat) : (vals zs).toArray.all (·.oneCell') = true := by
  rw [Array.all_eq_true_iff_forall_mem]
  intro v hv
  have hv' : v ∈ vals zs := by simpa using hv
  obtain ⟨z, _, rfl⟩ := List.mem_map.1 hv'
  rfl

theorem vals_size (zs : List Nat) : (vals zs).toArray.size = zs.length := by simp [vals]

theorem Arr.zero (w : World) : Arr (w.alloc (.cells #[.int .u8 0, .int .u8 0, .int .u8 0, .int .u8 0, .int .u8 0, .int .u8 0] 27)) w.heap.size (List.replicate 6 0) := heap_alloc_new w _

theorem Arr.boxed (w : World) (zs : List Nat) : Arr (w.alloc (.cells (vals zs).toArray 27)) w.heap.size zs := heap_alloc_new w _

/-- 'x' read whole, x an array variable. -/
theorem wpList_load_arr {ops : Array Oper} {rest : List Oper} {o : Oper} {a : Act} {w : World} {Q : Exit → Act → World → Prop} (hgd : o.guard = none) (x : Operand) (ho : o.op = .load 27 x)
    (g : Nat) (hx : a.eval x = .pointer (some ⟨g, 0, none⟩)) (zs : List Nat) (hA : Arr w g zs) (hl : zs.length = 6)
    (h : wpList Try.prog ops Q rest (a.put o.dst (.agg (vals zs).toArray)) w) : wpList Try.prog ops Q (o :: rest) a w :=
  wpList_load_row hgd 27 x ho g hx 27 (vals zs).toArray (0, 0) _ hA Try.underlying27 rfl (by rw [vals_size, hl]; exact Try.size27) h

/-- 'x = y', x an array variable. -/
theorem wpList_store_arr {ops : Array Oper} {rest : List Oper} {o : Oper} {a : Act} {w : World} {Q : Exit → Act → World → Prop} (hgd : o.guard = none) (x y : Operand) (ho : o.op = .store 27 x y)
    (g : Nat) (zs old : List Nat) (hx : a.eval x = .pointer (some ⟨g, 0, none⟩)) (hy : a.eval y = .agg (vals zs).toArray) (hA : Arr w g old) (hl : old.length = 6) (hz : zs.length = 6)
    (h : ∀ w', Arr w' g zs → (∀ k, k ≠ g → w'.heap[k]? = w.heap[k]?) → (∀ B w0, B ≤ g → Below B w0 w → Below B w0 w') → wpList Try.prog ops Q rest (a.put o.dst undef) w') : wpList Try.prog ops Q (o :: rest) a w :=
  wpList_store_row hgd 27 x y ho g (vals zs).toArray hx hy 27 (vals old).toArray hA (by rw [vals_size, hz]; exact Try.size27) (by rw [vals_size, vals_size, hl, hz]) (vals_all zs)
    (h _ (setRow_heap w g _ _ 27 _ hA) (fun k hk => setRow_other w g k _ hk) (fun B w0 hB hb => below_setRow hb hB _))

/-- The end of a function whose one result is an array variable. -/
theorem results_arr {fn : Func} {p : Tmp} (h : fn.results = #[.cell p 27]) (tmps : Array Value) (w : World) (g : Nat) (zs : List Nat) (hp : tmps.getD p undef = .pointer (some ⟨g, 0, none⟩)) (hA : Arr w g zs) (hl : zs.length = 6) :
    (results fn tmps).run Try.prog w = .ok (.agg (vals zs).toArray) w :=
  results_cell_row h tmps w g 27 (vals zs).toArray (0, 0) _ hp hA Try.underlying27 rfl (by rw [vals_size, hl]; exact Try.size27)

/-- A source of bytes: a row of the call's own, or nil. -/
def Src (w : World) (p : Option Addr) (n : Nat) (ns : List Nat) : Prop := ns.length = n ∧ (∀ z ∈ ns, z < 256) ∧ ((∃ g, p = some ⟨g, 0, none⟩ ∧ Row w g ns) ∨ (p = none ∧ n = 0))

theorem Src.of_blocks {w w' : World} {p : Option Addr} {n : Nat} {ns : List Nat} (h : Src w p n ns) (hb : ∀ k, k < w.heap.size → w'.heap[k]? = w.heap[k]?) : Src w' p n ns := by
  obtain ⟨h1, h2, h3⟩ := h
  refine ⟨h1, h2, ?_⟩
  rcases h3 with ⟨g, hp, hr⟩ | h3
  · exact .inl ⟨g, hp, hr.of_block (hb g hr.lt)⟩
  · exact .inr h3

theorem Src.alloc {w : World} {p : Option Addr} {n : Nat} {ns : List Nat} (h : Src w p n ns) (o : Obj) : Src (w.alloc o) p n ns := h.of_blocks (fun k hk => Below.heap_alloc w o k hk)

theorem Src.row {w : World} {g n : Nat} {ns : List Nat} (hn : ns.length = n) (h : ∀ z ∈ ns, z < 256) (hr : Row w g ns) : Src w (some ⟨g, 0, none⟩) n ns := ⟨hn, h, .inl ⟨g, rfl, hr⟩⟩

theorem Src.nil {w : World} {n : Nat} (hn : n = 0) : Src w none n [] := ⟨hn.symm, by simp, .inr ⟨rfl, hn⟩⟩

/-- 'polymod' at such a source. -/
theorem polymod_src (p : Option Addr) (s : ByteArray) (n c : Nat) (ns : List Nat) (w : World) (hs : s.size ≤ 1048576) (hn : n ≤ 2097152) (h : Src w p n ns) :
    Calls Try.prog 20 #[.string s, .slice p n c] w fun e w' => e = .returned (.int .u32 ((pm (strBytes s) ns : Nat) : Int)) ∧ w = w' := by
  obtain ⟨h1, h2, h3⟩ := h
  rcases h3 with ⟨g, rfl, hr⟩ | ⟨rfl, rfl⟩
  · exact polymod_some s g n c ns w hs hn h1 h2 (fun k hk => hr.cell k (by omega))
  · obtain rfl : ns = [] := List.eq_nil_of_length_eq_zero h1
    exact polymod_nil s c w hs

theorem zzpolymod_src (p : Option Addr) (s : ByteArray) (n c : Nat) (ns : List Nat) (w : World) (hs : s.size ≤ 1048576) (hn : n ≤ 2097152) (h : Src w p n ns) :
    Calls Try.prog 10 #[.string s, .slice p n c] w fun e w' => e = .returned (.int .u32 ((pm (strBytes s) ns : Nat) : Int)) ∧ w = w' := by
  have Hk := hidden (polymod_src p s n c ns w hs hn h)
  clear hs hn h
  go_enter Try.func10, Try.ntmps10
  go_wp2_with (go_at_call 20; refine (Hk.out).mono ?_; rintro e w1 ⟨rfl, rfl⟩)
  go_ret
  exact ⟨rfl, rfl⟩
end Go.Proofs.Qxb6619359a
