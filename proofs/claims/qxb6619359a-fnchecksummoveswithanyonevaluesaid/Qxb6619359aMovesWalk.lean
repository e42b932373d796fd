/-
  THE WALK OF 'FnChecksumMovesWithAnyOneValue' (function 5).
-/
import Derived.Test.Qxb6619359aSumWalk
import Derived.Test.Qxb6619359aFront
import Derived.Test.Qxb6619359aArrEq
import Derived.BigRegion
namespace Go.Proofs.Qxb6619359a
open Go.RowKit

theorem ret_bool {a : Bool} (h : a = true) : Ending.returned (.bool a) = .returned (.bool true) := by rw [h]

/-- Whether two closing words give the same six values. -/
def sameSums (M1 M2 : Nat) : Bool := decide (sums M1 = sums M2)

/-- THE PLAIN LAW: the six values stay exactly when the byte stays. -/
theorem moves_law (hl ns : List Nat) (i v K : Nat) (hh : ∀ z ∈ hl, z < 256) (hn : ∀ z ∈ ns, z < 256) (hv : v < 256) (hi : i < ns.length) :
    (sameSums (shut6 (pm hl ns) ^^^ K) (shut6 (pm hl (ns.set i v)) ^^^ K) == ((v : Int) == bt ns i)) = true := by
  have hset : ∀ z ∈ ns.set i v, z < 256 := by
    intro z hz
    rcases List.mem_or_eq_of_mem_set hz with h | h
    · exact hn z h
    · omega
  rw [beq_iff_eq, Bool.eq_iff_iff]
  unfold sameSums bt
  rw [decide_eq_true_iff, close_inj _ _ K (pm_lt hl ns hh hn) (pm_lt hl _ hh hset), one_value hl ns i v hh hn hv hi, beq_iff_eq]
  omega

/-- 'ZZchecksum', its six values written out. -/
theorem zzchecksum_lit (p : Option Addr) (s : ByteArray) (n c : Nat) (ns : List Nat) (K M : Nat) (w : World) (hs : s.size ≤ 1048576) (hn : n ≤ 2097152) (hK : K < 4294967296) (hM : shut6 (pm (strBytes s) ns) ^^^ K = M) (h : Src w p n ns) :
    Calls Try.prog 13 #[.string s, .slice p n c, .int .u32 (K : Int)] w fun e w' => e = .returned (.agg #[.int .u8 ((sumI M 0 : Nat) : Int), .int .u8 ((sumI M 1 : Nat) : Int), .int .u8 ((sumI M 2 : Nat) : Int), .int .u8 ((sumI M 3 : Nat) : Int), .int .u8 ((sumI M 4 : Nat) : Int), .int .u8 ((sumI M 5 : Nat) : Int)]) ∧ Below w.heap.size w w' := by
  subst hM
  exact zzchecksum_any p s n c ns K w hs hn hK h

set_option maxHeartbeats 1000000 in
theorem bytes14_yes (s : ByteArray) (p : Option Addr) (n c : Nat) (K i v : Int) (w : World) (h : s.size + n ≤ 1048576) :
    Calls Try.prog 14 #[.string s, .slice p n c, .int .u32 K, .int .i64 i, .int .u8 v] w fun e w' => e = .returned (.bool true) ∧ w = w' := by
  go_enter Try.func14, Try.ntmps14
  go_wp2
  go_ret
  exact ⟨rfl, rfl⟩

set_option maxHeartbeats 1000000 in
theorem bytes14_no (s : ByteArray) (p : Option Addr) (n c : Nat) (K i v : Int) (w : World) (h : 1048576 < s.size + n) (hs : s.size ≤ maxLen) (hn : n ≤ maxLen) :
    Calls Try.prog 14 #[.string s, .slice p n c, .int .u32 K, .int .i64 i, .int .u8 v] w fun e w' => e = .returned (.bool false) ∧ w = w' := by
  unfold maxLen at hs hn
  go_enter Try.func14, Try.ntmps14
  go_wp2
  all_goals
    go_ret
    exact ⟨rfl, rfl⟩

/-- Six cells of a block written out. -/
theorem six_cells {w w' : World} {B : Nat} {v0 v1 v2 v3 v4 v5 : Value} (hb : Below B (w.alloc (.cells #[v0, v1, v2, v3, v4, v5] 27)) w') (hB : w.heap.size < B) :
    w'.cell? ⟨w.heap.size, 0, none⟩ = some v0 ∧ w'.cell? ⟨w.heap.size, 1, none⟩ = some v1 ∧ w'.cell? ⟨w.heap.size, 2, none⟩ = some v2 ∧ w'.cell? ⟨w.heap.size, 3, none⟩ = some v3 ∧ w'.cell? ⟨w.heap.size, 4, none⟩ = some v4 ∧ w'.cell? ⟨w.heap.size, 5, none⟩ = some v5 := by
  have h : w'.heap[w.heap.size]? = some (.cells #[v0, v1, v2, v3, v4, v5] 27 (0, 0)) := (hb.block _ hB).trans (heap_alloc_new w _)
  refine ⟨?_, ?_, ?_, ?_, ?_, ?_⟩ <;> rw [cell_of_row _ _ _ _ _ _ h] <;> rfl

set_option maxRecDepth 100000 in
set_option maxHeartbeats 2000000 in
theorem moves_some (s : ByteArray) (x : Addr) (n c i : Nat) (ns : List Nat) (K v : Nat) (w : World) (hsn : s.size + n ≤ 1048576) (hz : ns.length = n) (hb : ∀ z ∈ ns, z < 256) (hK : K < 4294967296) (hv : v < 256) (hi : i < n)
    (hsrc : ∀ k, k < n → w.cell? (x.add k) = some (.int .u8 (bt ns k))) :
    Calls Try.prog 5 #[.string s, .slice (some x) n c, .int .u32 (K : Int), .int .i64 (i : Int), .int .u8 (v : Int)] w fun e w' => e = .returned (.bool true) ∧ Below w.heap.size w w' := by
  have hne := fun wx => run_neq_slice_nil_any (P := Try.prog) wx 22 5 (some x) n c 0 0 Try.underlying22
  have Hz := hidden hz
  have Hb := hidden hb
  have Hsrc := hidden hsrc
  have d1 : decide ((1048576 : Int) < (s.size : Int)) = false := by simp; omega
  have d2 : decide ((1048576 : Int) < (n : Int)) = false := by simp; omega
  have d3 : decide ((1048576 : Int) < (s.size : Int) + (n : Int)) = false := by simp; omega
  have d4 : decide ((i : Int) < 0) = false := by simp
  have d5 : decide ((n : Int) ≤ (i : Int)) = false := by rw [decide_eq_false_iff_not]; omega
  clear hz hb hsrc
  go_enter Try.func5, Try.ntmps5
  go_wp2_with (first
    | (go_at_call 14; refine (bytes14_yes _ _ _ _ _ _ _ _ hsn).mono ?_; rintro e w' ⟨rfl, rfl⟩)
    | (at_make; refine wpList_make_row rfl (.tmp 48) (.tmp 48) rfl _ _ n n rfl rfl rfl rfl (Nat.le_refl _) (by omega) ?_; intro w1 hr1 hb1)
    | (have _t := hr1; refine wpList_copy_row rfl (.tmp 50) (.tmp 51) rfl w.heap.size n n c x rfl rfl (List.replicate n 0) ns hr1 (by simp) Hz.out (src_later hb1 Hsrc.out) w.heap.size w hb1 (Nat.le_refl _) ?_; intro w2 hr2 hb2; clear hr1 hb1)
    | (at_make; have _t := hr2; refine wpList_make_row rfl (.tmp 55) (.tmp 55) rfl _ _ n n rfl rfl rfl rfl (Nat.le_refl _) (by omega) ?_; intro w3 hr3 hb3))
  have G2 := hr2.lt
  have R3 : Row w3 w.heap.size ns := hr2.below hb3 G2
  have B3 : Below w.heap.size w w3 := hb2.trans (hb3.mono hb2.size)
  have C3 : Row w3 w2.heap.size (cpK ns n 0) := by rw [cpK_zero]; exact hr3
  clear hr2 hb2 hr3 hb3
  go_loopw [13] (fun k ws => ∃ j : Nat, j ≤ n ∧ k = .int .i64 j ∧ Row ws w.heap.size ns ∧ Row ws w2.heap.size (cpK ns n j) ∧ Below w.heap.size w ws) (fun k _ => n - (intOf k).toNat)
  case atStart => exact ⟨0, Nat.zero_le _, rfl, R3, C3, B3⟩
  case round =>
    clear R3 C3 B3
    obtain ⟨k, hk, rfl, R3, C3, B3⟩ := hrel
    by_cases hlt : k < n
    · have hc1 := R3.cell k (by rw [Hz.out]; exact hlt)
      have hc2 := C3.cell k (by rw [cpK_length]; exact hlt)
      have hfr := C3.frozen k
      go_wp2_with fail
      go_roundw
      case rel => exact ⟨k + 1, by omega, by go_num, R3.other _ _ (by show _ ≠ w2.heap.size; omega), by rw [← cpK_set]; exact C3.setV k _ _ rfl, B3.setCell (by show _ ≤ w2.heap.size; omega) _⟩
      case measure => simp [intOf]; omega
    · have C4 : Row wr w2.heap.size ns := by
        have ek : k = ns.length := by rw [Hz.out]; omega
        have h := C3
        rw [ek, ← Hz.out, cpK_end] at h
        exact h
      clear C3
      have hc := C4.cell i (by rw [Hz.out]; exact hi)
      have hf := C4.frozen i
      have C5 := hidden (C4.setV i v (v : Int) rfl)
      have R5 := hidden (R3.other ⟨w2.heap.size, i, none⟩ (.int .u8 (v : Int)) (by show _ ≠ w2.heap.size; omega))
      have B5 := hidden (B3.setCell (p := ⟨w2.heap.size, i, none⟩) (by show _ ≤ w2.heap.size; omega) (.int .u8 (v : Int)))
      have Hset : Hid (∀ z ∈ ns.set i v, z < 256) := by
        intro z hz
        rcases List.mem_or_eq_of_mem_set hz with h | h
        · exact Hb.out z h
        · omega
      have Hlen : Hid ((ns.set i v).length = n) := by show _ = _; rw [List.length_set]; exact Hz.out
      obtain ⟨M1, hM1⟩ : ∃ M1, shut6 (pm (strBytes s) ns) ^^^ K = M1 := ⟨_, rfl⟩
      obtain ⟨M2, hM2⟩ : ∃ M2, shut6 (pm (strBytes s) (ns.set i v)) ^^^ K = M2 := ⟨_, rfl⟩
      have HM1 := hidden hM1
      have HM2 := hidden hM2
      clear hM1 hM2 C4 R3 B3
      go_wp2_with fail
      refine (zzchecksum_lit _ s n n ns K M1 _ (by omega) (by omega) hK HM1.out (Src.row Hz.out Hb.out R5.out)).mono ?_
      rintro e w5 ⟨rfl, hb5⟩
      have C6 : Row w5 w2.heap.size (ns.set i v) := C5.out.below hb5 C5.out.lt
      have R6 : Row w5 w.heap.size ns := R5.out.below hb5 R5.out.lt
      have B6 : Below w.heap.size w w5 := B5.out.trans (hb5.mono B5.out.size)
      clear hc hf C5 R5 B5 hb5
      go_wp2_with fail
      refine (zzchecksum_lit _ s n n (ns.set i v) K M2 _ (by omega) (by omega) hK HM2.out (Src.row Hlen.out Hset.out (C6.alloc _))).mono ?_
      rintro e w6 ⟨rfl, hb6⟩
      obtain ⟨q0, q1, q2, q3, q4, q5⟩ := six_cells hb6 (by simp)
      have R7 : Row w6 w.heap.size ns := (R6.alloc _).below hb6 (by have := R6.lt; simp; omega)
      have B7 : Below w.heap.size w w6 := (B6.alloc B6.size _).trans (hb6.mono (by have := B6.size; simp; omega))
      have s56 : w5.heap.size < w6.heap.size := by have := hb6.size; simp at this; omega
      have s06 : w.heap.size < w6.heap.size := R7.lt
      have hc := R7.cell i (by rw [Hz.out]; exact hi)
      clear C6 R6 B6 hb6
      have heq : ∀ wx : World, (Op.equalIn 10000 27 (.agg #[.int .u8 ((sumI M1 0 : Nat) : Int), .int .u8 ((sumI M1 1 : Nat) : Int), .int .u8 ((sumI M1 2 : Nat) : Int), .int .u8 ((sumI M1 3 : Nat) : Int), .int .u8 ((sumI M1 4 : Nat) : Int), .int .u8 ((sumI M1 5 : Nat) : Int)])
          (.agg #[.int .u8 ((sumI M2 0 : Nat) : Int), .int .u8 ((sumI M2 1 : Nat) : Int), .int .u8 ((sumI M2 2 : Nat) : Int), .int .u8 ((sumI M2 3 : Nat) : Int), .int .u8 ((sumI M2 4 : Nat) : Int), .int .u8 ((sumI M2 5 : Nat) : Int)])).run Try.prog wx = .ok (sameSums M1 M2) wx :=
        fun wx => run_equal_arr (sums M1) (sums M2) wx rfl rfl
      have Hfin : Hid ((sameSums M1 M2 == ((v : Int) == bt ns i)) = true) := by
        show _ = _
        rw [← HM1.out, ← HM2.out]
        exact moves_law (strBytes s) ns i v K (strBytes_lt s) Hb.out hv (by rw [Hz.out]; exact hi)
      go_wp2_with fail
      go_region
      all_goals
        go_wp2_with fail
        go_ret
        exact ⟨ret_bool Hfin.out, (B7.alloc B7.size _).drew⟩

set_option maxRecDepth 100000 in
set_option maxHeartbeats 1000000 in
theorem moves_long (s : ByteArray) (p : Option Addr) (n c : Nat) (K i v : Int) (w : World) (h : 1048576 < s.size + n) (hs : s.size ≤ maxLen) (hn : n ≤ maxLen) :
    Calls Try.prog 5 #[.string s, .slice p n c, .int .u32 K, .int .i64 i, .int .u8 v] w fun e w' => e = .returned (.bool true) ∧ Below w.heap.size w w' := by
  go_enter Try.func5, Try.ntmps5
  go_wp2_with (go_at_call 14; refine (bytes14_no _ _ _ _ _ _ _ _ h hs hn).mono ?_; rintro e w' ⟨rfl, rfl⟩)
  go_ret
  exact ⟨rfl, Below.refl _ _⟩

set_option maxRecDepth 100000 in
set_option maxHeartbeats 1000000 in
theorem moves_out (s : ByteArray) (p : Option Addr) (n c : Nat) (K i v : Int) (w : World) (hsn : s.size + n ≤ 1048576) (h : i < 0 ∨ (n : Int) ≤ i) :
    Calls Try.prog 5 #[.string s, .slice p n c, .int .u32 K, .int .i64 i, .int .u8 v] w fun e w' => e = .returned (.bool true) ∧ Below w.heap.size w w' := by
  have d1 : decide ((1048576 : Int) < (s.size : Int)) = false := by simp; omega
  have d2 : decide ((1048576 : Int) < (n : Int)) = false := by simp; omega
  have d3 : decide ((1048576 : Int) < (s.size : Int) + (n : Int)) = false := by simp; omega
  by_cases h0 : i < 0
  · have d4 : decide (i < 0) = true := by simp [h0]
    go_enter Try.func5, Try.ntmps5
    go_wp2_with (go_at_call 14; refine (bytes14_yes _ _ _ _ _ _ _ _ hsn).mono ?_; rintro e w' ⟨rfl, rfl⟩)
    go_ret
    exact ⟨rfl, Below.refl _ _⟩
  · have d4 : decide (i < 0) = false := by simp; omega
    have d5 : decide ((n : Int) ≤ i) = true := by rw [decide_eq_true_iff]; omega
    go_enter Try.func5, Try.ntmps5
    go_wp2_with (go_at_call 14; refine (bytes14_yes _ _ _ _ _ _ _ _ hsn).mono ?_; rintro e w' ⟨rfl, rfl⟩)
    go_ret
    exact ⟨rfl, Below.refl _ _⟩
end Go.Proofs.Qxb6619359a
