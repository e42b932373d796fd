/-
  THE WALKS OF 'timesX' (22) AND 'addScaled' (23).
-/
import Derived.Test.Qxb6619359aGfWalk
import Derived.Test.Qxb6619359aArrays
import Derived.Test.Qxb6619359aPlainD
import Derived.Deep.RegionWith
namespace Go.Proofs.Qxb6619359a
open Go.RowKit

/-- The six coefficients, x^0 first. -/
def coefs (c : Nat) : List Nat := [cf c 0, cf c 1, cf c 2, cf c 3, cf c 4, cf c 5]

theorem coefs_length (c : Nat) : (coefs c).length = 6 := rfl

theorem coefs_getD (c k : Nat) (hk : k < 6) : (coefs c).getD k 0 = cf c k := by
  match k, hk with
  | 0, _ | 1, _ | 2, _ | 3, _ | 4, _ | 5, _ => rfl

theorem coefs_bt (c k : Nat) (hk : k < 6) : bt (coefs c) k = ((cf c k : Nat) : Int) := by unfold bt; rw [coefs_getD c k hk]

theorem genC_lt (j : Nat) : genC j < 32 := by unfold genC; (repeat' split) <;> decide

/-- The walk's spelling of one new coefficient. -/
theorem lin_val (c i : Nat) (hc : c < 2 ^ 30) (hi : i < 5) : bits BinOp.xor IntKind.u8 ((cf c i : Nat) : Int) ((gfm (cf c 5) (genC (i + 1)) : Nat) : Int) = ((cf (lin c) (i + 1) : Nat) : Int) := by
  have h1 := cf_lt c i
  have h2 := gfm_lt (cf c 5) (genC (i + 1)) (cf_lt c 5)
  rw [u8_xor_nat _ _ (by omega) (by omega), cf_lin_succ c i hc hi]

/-- The array that holds them. -/
abbrev coefA (c : Nat) : Array Value := #[.int .u8 ((cf c 0 : Nat) : Int), .int .u8 ((cf c 1 : Nat) : Int), .int .u8 ((cf c 2 : Nat) : Int), .int .u8 ((cf c 3 : Nat) : Int), .int .u8 ((cf c 4 : Nat) : Int), .int .u8 ((cf c 5 : Nat) : Int)]

abbrev zeroA : Array Value := #[.int .u8 0, .int .u8 0, .int .u8 0, .int .u8 0, .int .u8 0, .int .u8 0]

set_option maxRecDepth 100000 in
set_option maxHeartbeats 1000000 in
theorem timesX_any (c : Nat) (w : World) (hc : c < 2 ^ 30) :
    Calls Try.prog 22 #[.agg (coefA c)] w fun e w' => e = .returned (.agg (coefA (lin c))) ∧ Below w.heap.size w w' := by
  have Hc := hidden hc
  have b5 := cf_lt c 5
  clear hc
  go_enter Try.func22, Try.ntmps22
  go_wp2_with fail
  refine (genCoef_any _ 0 _ rfl (by decide)).mono ?_
  rintro e w1 ⟨rfl, rfl⟩
  go_wp2_with fail
  refine (gf_any _ _ (cf c 5) (genC 0) _ rfl rfl b5 (by decide)).mono ?_
  rintro e w1 ⟨rfl, rfl⟩
  go_wp2_with fail
  have A0 : Arr (((w.alloc (.cells (coefA c) 27)).alloc (.cells zeroA 27)).alloc (.cells #[.int .u8 ((gfm (cf c 5) (genC 0) : Nat) : Int), .int .u8 0, .int .u8 0, .int .u8 0, .int .u8 0, .int .u8 0] 27)) w.heap.size (coefs c) :=
    Arr.alloc (Arr.alloc (show Arr (w.alloc (.cells (coefA c) 27)) w.heap.size (coefs c) from heap_alloc_new w _) _) _
  have A1 : Arr (((w.alloc (.cells (coefA c) 27)).alloc (.cells zeroA 27)).alloc (.cells #[.int .u8 ((gfm (cf c 5) (genC 0) : Nat) : Int), .int .u8 0, .int .u8 0, .int .u8 0, .int .u8 0, .int .u8 0] 27)) (w.heap.size + 1) (List.replicate 6 0) := by
    have h := Arr.zero (w.alloc (.cells (coefA c) 27))
    rw [World.size_alloc] at h
    exact h.alloc _
  have A2 : Arr (((w.alloc (.cells (coefA c) 27)).alloc (.cells zeroA 27)).alloc (.cells #[.int .u8 ((gfm (cf c 5) (genC 0) : Nat) : Int), .int .u8 0, .int .u8 0, .int .u8 0, .int .u8 0, .int .u8 0] 27)) (w.heap.size + 1 + 1) (cpK (coefs (lin c)) 6 1) := by
    have h := heap_alloc_new ((w.alloc (.cells (coefA c) 27)).alloc (.cells zeroA 27)) (.cells #[.int .u8 ((gfm (cf c 5) (genC 0) : Nat) : Int), .int .u8 0, .int .u8 0, .int .u8 0, .int .u8 0, .int .u8 0] 27)
    rw [World.size_alloc, World.size_alloc] at h
    have e : cpK (coefs (lin c)) 6 1 = [cf (lin c) 0, 0, 0, 0, 0, 0] := rfl
    rw [e, cf_lin_zero c Hc.out]
    exact h
  have B0 : Below w.heap.size w (((w.alloc (.cells (coefA c) 27)).alloc (.cells zeroA 27)).alloc (.cells #[.int .u8 ((gfm (cf c 5) (genC 0) : Nat) : Int), .int .u8 0, .int .u8 0, .int .u8 0, .int .u8 0, .int .u8 0] 27)) :=
    (((Below.refl _ _).alloc (Nat.le_refl _) _).alloc (by simp) _).alloc (by simp; omega) _
  go_loopw [5] (fun i ws => ∃ j : Nat, 1 ≤ j ∧ j ≤ 6 ∧ i = .int .i64 j ∧ Arr ws w.heap.size (coefs c) ∧ Arr ws (w.heap.size + 1) (List.replicate 6 0) ∧ Arr ws (w.heap.size + 1 + 1) (cpK (coefs (lin c)) 6 j) ∧ Below w.heap.size w ws) (fun i _ => 6 - (intOf i).toNat)
  case atStart => exact ⟨1, by omega, by omega, rfl, A0, A1, A2, B0⟩
  case round =>
    clear A0 A1 A2 B0
    obtain ⟨j, hj1, hj6, rfl, A0, A1, A2, B0⟩ := hrel
    by_cases hlt : j < 6
    · obtain ⟨i, rfl⟩ : ∃ i, j = i + 1 := ⟨j - 1, by omega⟩
      have Hv := hidden (lin_val c i Hc.out (by omega))
      have Hgl : Hid (genC (i + 1) < 32) := genC_lt _
      have Hset := hidden (cpK_set (coefs (lin c)) 6 (i + 1))
      have Hget := hidden (coefs_getD (lin c) (i + 1) hlt)
      have hc0 : wr.cell? ⟨w.heap.size, i, none⟩ = some (.int .u8 ((cf c i : Nat) : Int)) := by rw [← coefs_bt c i (by omega)]; exact A0.cell i (by rw [coefs_length]; omega)
      have hc2 := A2.cell (i + 1) (by rw [cpK_length]; exact hlt)
      have hfr := A2.frozen (i + 1)
      have x1 : ((i : Int) + 1 - 1) = (i : Int) := by omega
      have x2 : ((i : Int) + 1).toNat = i + 1 := by omega
      have x3 : (i : Int) < 6 := by omega
      have x4 : (i : Int) + 1 < 6 := by omega
      have x5 : (0 : Int) ≤ (i : Int) := by omega
      have x6 : (0 : Int) ≤ (i : Int) + 1 := by omega
      have x7 : IntKind.i64.wrap (i : Int) = (i : Int) := by rw [IntKind.wrap_i64]; omega
      go_wp2_with fail
      go_region_with (first | (go_at_call 28; refine (genCoef_any _ (i + 1) _ (by simp) hlt).mono ?_; rintro e w1 ⟨rfl, rfl⟩) | (go_at_call 27; refine (gf_any _ _ (cf c 5) (genC (i + 1)) _ rfl rfl b5 Hgl.out).mono ?_; rintro e w1 ⟨rfl, rfl⟩))
      all_goals
        go_wp2_with fail
        go_roundw
        case rel => exact ⟨i + 1 + 1, by omega, by omega, by go_num, A0.drew.other _ _ (by show _ ≠ w.heap.size + 1 + 1; omega), A1.drew.other _ _ (by show _ ≠ w.heap.size + 1 + 1; omega), by rw [← Hset.out, Hget.out]; exact A2.drew.setV _ _ _ Hv.out, B0.drew.setCell (by show _ ≤ w.heap.size + 1 + 1; omega) _⟩
        case measure => simp [intOf]; omega
    · have A3 : Arr wr (w.heap.size + 1 + 1) (coefs (lin c)) := by
        have ej : j = 6 := by omega
        have h := A2
        have e := cpK_end (coefs (lin c))
        rw [coefs_length] at e
        rw [ej, e] at h
        exact h
      clear A2
      go_wp2_with (first
        | (refine wpList_load_arr rfl (.tmp 4) rfl (w.heap.size + 1 + 1) rfl (coefs (lin c)) A3 rfl ?_; clear A3)
        | (refine wpList_store_arr rfl (.tmp 2) (.tmp 27) rfl (w.heap.size + 1) (coefs (lin c)) (List.replicate 6 0) rfl rfl A1 (by simp) rfl ?_; intro w4 A4 _ hB4; have B4 := hB4 _ _ (Nat.le_succ _) B0; clear A1 hB4 B0))
      refine bodyPost_ret (results_arr rfl _ _ (w.heap.size + 1) (coefs (lin c)) rfl A4 rfl) rfl ⟨rfl, B4⟩

/-! ### 'addScaled' -/
/-- A row while it is turned from 'old' to 'new': k places done. -/
def mixK (new old : List Nat) (k : Nat) : List Nat := (List.range 6).map fun i => if i < k then new.getD i 0 else old.getD i 0

theorem mixK_length (new old : List Nat) (k : Nat) : (mixK new old k).length = 6 := by simp [mixK]

theorem mixK_zero (new old : List Nat) (h : old.length = 6) : mixK new old 0 = old := by
  apply List.ext_getElem
  · simp [mixK, h]
  · intro i h1 h2
    simp [mixK, h2]

theorem mixK_end (new old : List Nat) (h : new.length = 6) : mixK new old 6 = new := by
  apply List.ext_getElem
  · simp [mixK, h]
  · intro i h1 h2
    have h3 : i < 6 := by omega
    simp [mixK, h2, h3]

theorem mixK_set (new old : List Nat) (k : Nat) : (mixK new old k).set k (new.getD k 0) = mixK new old (k + 1) := by
  apply List.ext_getElem
  · simp [mixK]
  · intro i h1 h2
    simp only [mixK, List.getElem_set, List.getElem_map, List.getElem_range]
    by_cases e : k = i
    · subst e; rw [if_pos rfl, if_pos (by omega)]
    · rw [if_neg e]
      by_cases c : i < k
      · rw [if_pos c, if_pos (by omega)]
      · rw [if_neg c, if_neg (by omega)]

theorem mixK_bt (new old : List Nat) (k : Nat) (h : k < 6) : bt (mixK new old k) k = bt old k := by
  unfold bt
  congr 1
  have hl : k < (mixK new old k).length := by rw [mixK_length]; exact h
  have e : (mixK new old k).getD k 0 = (mixK new old k)[k] := by simp [hl]
  rw [e]
  simp [mixK]

/-- The walk's spelling of one coefficient of acc + a*r. -/
theorem add_val (A a c j : Nat) (ha : a < 32) (hj : j < 6) : bits BinOp.xor IntKind.u8 ((cf A j : Nat) : Int) ((gfm a (cf c j) : Nat) : Int) = (((coefs (A ^^^ scal a c)).getD j 0 : Nat) : Int) := by
  have h1 := cf_lt A j
  have h2 := gfm_lt a (cf c j) ha
  rw [u8_xor_nat _ _ (by omega) (by omega), coefs_getD _ j hj, cf_xor, cf_scal a c j ha hj]

set_option maxRecDepth 100000 in
set_option maxHeartbeats 2000000 in
theorem addScaled_any (A c a : Nat) (V : Int) (w : World) (hV : V = (a : Int)) (ha : a < 32) :
    Calls Try.prog 23 #[.agg (coefA A), .int .u8 V, .agg (coefA c)] w fun e w' => e = .returned (.agg (coefA (A ^^^ scal a c))) ∧ Below w.heap.size w w' := by
  subst hV
  have HD : Hid ((coefs (A ^^^ scal a c)).length = 6) := rfl
  have Hval := hidden (fun j (hj : j < 6) => add_val A a c j ha hj)
  have HR : Hid (Value.agg (coefA (A ^^^ scal a c)) = Value.agg (vals (coefs (A ^^^ scal a c))).toArray) := rfl
  rw [HR.out]
  clear HR
  generalize coefs (A ^^^ scal a c) = D at *
  go_enter Try.func23, Try.ntmps23
  go_wp2_with fail
  have A0 : Arr (((w.alloc (.cells (coefA A) 27)).alloc (.cells (coefA c) 27)).alloc (.cells zeroA 27)) w.heap.size (mixK D (coefs A) 0) := by
    rw [mixK_zero D (coefs A) rfl]
    exact Arr.alloc (Arr.alloc (show Arr (w.alloc (.cells (coefA A) 27)) w.heap.size (coefs A) from heap_alloc_new w _) _) _
  have A1 : Arr (((w.alloc (.cells (coefA A) 27)).alloc (.cells (coefA c) 27)).alloc (.cells zeroA 27)) (w.heap.size + 1) (coefs c) := by
    have h : Arr ((w.alloc (.cells (coefA A) 27)).alloc (.cells (coefA c) 27)) (w.alloc (.cells (coefA A) 27)).heap.size (coefs c) := heap_alloc_new _ _
    rw [World.size_alloc] at h
    exact h.alloc _
  have A2 : Arr (((w.alloc (.cells (coefA A) 27)).alloc (.cells (coefA c) 27)).alloc (.cells zeroA 27)) (w.heap.size + 1 + 1) (List.replicate 6 0) := by
    have h := Arr.zero ((w.alloc (.cells (coefA A) 27)).alloc (.cells (coefA c) 27))
    rw [World.size_alloc, World.size_alloc] at h
    exact h
  have B0 : Below w.heap.size w (((w.alloc (.cells (coefA A) 27)).alloc (.cells (coefA c) 27)).alloc (.cells zeroA 27)) :=
    (((Below.refl _ _).alloc (Nat.le_refl _) _).alloc (by simp) _).alloc (by simp; omega) _
  go_loopw [7] (fun i ws => ∃ j : Nat, j ≤ 6 ∧ i = .int .i64 j ∧ Arr ws w.heap.size (mixK D (coefs A) j) ∧ Arr ws (w.heap.size + 1) (coefs c) ∧ Arr ws (w.heap.size + 1 + 1) (List.replicate 6 0) ∧ Below w.heap.size w ws) (fun i _ => 6 - (intOf i).toNat)
  case atStart => exact ⟨0, by omega, rfl, A0, A1, A2, B0⟩
  case round =>
    clear A0 A1 A2 B0
    obtain ⟨j, hj6, rfl, A0, A1, A2, B0⟩ := hrel
    by_cases hlt : j < 6
    · have hc0 : wr.cell? ⟨w.heap.size, j, none⟩ = some (.int .u8 ((cf A j : Nat) : Int)) := by rw [← coefs_bt A j hlt, ← mixK_bt D (coefs A) j hlt]; exact A0.cell j (by rw [mixK_length]; exact hlt)
      have hfr := A0.frozen j
      have hc1 : wr.cell? ⟨w.heap.size + 1, j, none⟩ = some (.int .u8 ((cf c j : Nat) : Int)) := by rw [← coefs_bt c j hlt]; exact A1.cell j (by rw [coefs_length]; exact hlt)
      have Hset := hidden (mixK_set D (coefs A) j)
      have Hv := hidden (Hval.out j hlt)
      have Hcl := hidden (cf_lt c j)
      have x3 : (j : Int) < 6 := by omega
      have x5 : (0 : Int) ≤ (j : Int) := by omega
      go_wp2_with fail
      go_region_with (go_at_call 27; refine (gf_any _ _ a (cf c j) _ rfl rfl ha Hcl.out).mono ?_; rintro e w1 ⟨rfl, rfl⟩)
      all_goals
        go_wp2_with fail
        go_roundw
        case rel => exact ⟨j + 1, by omega, by go_num, by rw [← Hset.out]; exact A0.drew.setV _ _ _ Hv.out, A1.drew.other _ _ (by show _ ≠ w.heap.size; omega), A2.drew.other _ _ (by show _ ≠ w.heap.size; omega), B0.drew.setCell (by show _ ≤ w.heap.size; omega) _⟩
        case measure => simp [intOf]; omega
    · have A3 : Arr wr w.heap.size D := by
        have ej : j = 6 := by omega
        have h := A0
        rw [ej, mixK_end D (coefs A) HD.out] at h
        exact h
      clear A0
      go_wp2_with (first
        | (refine wpList_load_arr rfl (.tmp 3) rfl w.heap.size rfl D A3 HD.out ?_; clear A3)
        | (refine wpList_store_arr rfl (.tmp 6) (.tmp 22) rfl (w.heap.size + 1 + 1) D (List.replicate 6 0) rfl rfl A2 (by simp) HD.out ?_; intro w4 A4 _ hB4; have B4 := hB4 _ _ (by omega) B0; clear A2 hB4 B0))
      refine bodyPost_ret (results_arr rfl _ _ (w.heap.size + 1 + 1) D rfl A4 HD.out) rfl ⟨rfl, B4⟩
end Go.Proofs.Qxb6619359a
