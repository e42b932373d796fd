/-
  THE WALK OF 'FnPolymodDetectsEveryBurstOfSix' (function 7).
-/
import Derived.Test.Qxb6619359aPolyWalk
import Derived.Test.Qxb6619359aFront
import Derived.Test.Qxb6619359aPlainD
import Derived.BigRegion
namespace Go.Proofs.Qxb6619359a
open Go.RowKit

theorem ret_bool {a : Bool} (h : a = true) : Ending.returned (.bool a) = .returned (.bool true) := by rw [h]

theorem eq_same (a b : Nat) (S : Bool) (h : a = b ↔ S = true) : (((a : Int) == (b : Int)) == S) = true := by
  rw [beq_iff_eq, Bool.eq_iff_iff, ← h, beq_iff_eq]
  omega

set_option maxHeartbeats 1000000 in
theorem bytes18_yes (s : ByteArray) (p : Option Addr) (n c : Nat) (pos : Int) (p0 p1 p2 p3 p4 p5 : Value) (w : World) (h : s.size + n ≤ 1048576) :
    Calls Try.prog 18 #[.string s, .slice p n c, .int .i64 pos, .agg #[p0, p1, p2, p3, p4, p5]] w fun e w' => e = .returned (.bool true) ∧ Below w.heap.size w w' := by
  go_enter Try.func18, Try.ntmps18
  go_wp2
  go_ret
  exact ⟨rfl, (Below.refl _ _).alloc (Nat.le_refl _) _⟩

set_option maxHeartbeats 1000000 in
theorem bytes18_no (s : ByteArray) (p : Option Addr) (n c : Nat) (pos : Int) (p0 p1 p2 p3 p4 p5 : Value) (w : World) (h : 1048576 < s.size + n) (hs : s.size ≤ maxLen) (hn : n ≤ maxLen) :
    Calls Try.prog 18 #[.string s, .slice p n c, .int .i64 pos, .agg #[p0, p1, p2, p3, p4, p5]] w fun e w' => e = .returned (.bool false) ∧ Below w.heap.size w w' := by
  unfold maxLen at hs hn
  go_enter Try.func18, Try.ntmps18
  go_wp2
  all_goals
    go_ret
    exact ⟨rfl, (Below.refl _ _).alloc (Nat.le_refl _) _⟩

set_option maxRecDepth 100000 in
set_option maxHeartbeats 2000000 in
theorem burst_some (s : ByteArray) (x : Addr) (n c P : Nat) (ns : List Nat) (p0 p1 p2 p3 p4 p5 : Nat) (w : World) (hsn : s.size + n ≤ 1048576) (hz : ns.length = n) (hb : ∀ z ∈ ns, z < 256) (hP : P + 6 ≤ n)
    (hps : ∀ z ∈ [p0, p1, p2, p3, p4, p5], z < 256) (hsrc : ∀ k, k < n → w.cell? (x.add k) = some (.int .u8 (bt ns k))) :
    Calls Try.prog 7 #[.string s, .slice (some x) n c, .int .i64 P, .agg #[.int .u8 (p0 : Int), .int .u8 (p1 : Int), .int .u8 (p2 : Int), .int .u8 (p3 : Int), .int .u8 (p4 : Int), .int .u8 (p5 : Int)]] w
      fun e w' => e = .returned (.bool true) ∧ Below w.heap.size w w' := by
  have hne := fun wx => run_neq_slice_nil_any (P := Try.prog) wx 22 5 (some x) n c 0 0 Try.underlying22
  have Hz := hidden hz
  have Hb := hidden hb
  have Hps := hidden hps
  have Hsrc := hidden hsrc
  have HA := hidden (Arr.made w p0 p1 p2 p3 p4 p5)
  have HB : Hid (Below w.heap.size w (w.alloc (.cells #[.int .u8 (p0 : Int), .int .u8 (p1 : Int), .int .u8 (p2 : Int), .int .u8 (p3 : Int), .int .u8 (p4 : Int), .int .u8 (p5 : Int)] 27))) := (Below.refl _ _).alloc (Nat.le_refl _) _
  have d1 : decide ((1048576 : Int) < (s.size : Int)) = false := by simp; omega
  have d2 : decide ((1048576 : Int) < (n : Int)) = false := by simp; omega
  have d3 : decide ((1048576 : Int) < (s.size : Int) + (n : Int)) = false := by simp; omega
  have d4 : decide ((P : Int) < 0) = false := by simp
  have d5 : decide ((n : Int) - 6 < (P : Int)) = false := by rw [decide_eq_false_iff_not]; omega
  clear hz hb hps hsrc
  go_enter Try.func7, Try.ntmps7
  go_wp2_with fail
  refine (bytes18_yes s (some x) n c P _ _ _ _ _ _ _ hsn).mono ?_
  rintro e w1 ⟨rfl, hb1⟩
  have A1 : Arr w1 w.heap.size [p0, p1, p2, p3, p4, p5] := HA.out.below hb1 HA.out.lt
  have B1 : Below w.heap.size w w1 := HB.out.trans (hb1.mono HB.out.size)
  have HS1 := hidden (src_later B1 Hsrc.out)
  clear HA HB hb1 Hsrc
  go_wp2_with (first
    | (at_make; go_must (refine wpList_make_row rfl _ _ rfl _ _ n n rfl rfl rfl rfl (Nat.le_refl _) (by omega) ?_; intro w2 hr2 hb2))
    | (have _t := hr2; refine wpList_copy_row rfl (.tmp 49) (.tmp 50) rfl w1.heap.size n n c x rfl rfl (List.replicate n 0) ns hr2 (by simp) Hz.out (src_later hb2 HS1.out) w1.heap.size w1 hb2 (Nat.le_refl _) ?_; intro w3 hr3 hb3; clear hr2 hb2))
  have A3 : Arr w3 w.heap.size [p0, p1, p2, p3, p4, p5] := A1.below hb3 A1.lt
  have B3 : Below w.heap.size w w3 := B1.trans (hb3.mono B1.size)
  have HG1 := A1.lt
  have HV : Hid (Value.agg #[.int .u8 (p0 : Int), .int .u8 (p1 : Int), .int .u8 (p2 : Int), .int .u8 (p3 : Int), .int .u8 (p4 : Int), .int .u8 (p5 : Int)] = Value.agg (vals [p0, p1, p2, p3, p4, p5]).toArray) := rfl
  have Hl6 : Hid ([p0, p1, p2, p3, p4, p5].length = 6) := rfl
  clear A1 B1 hb3 HS1
  rw [HV.out]
  clear HV
  generalize [p0, p1, p2, p3, p4, p5] = ps at *
  go_loop [10] (fun i => ∃ k : Nat, k ≤ 6 ∧ i = .int .i64 k ∧ Hid (∀ j, j < k → ns.getD (P + j) 0 < 32 ∧ ps.getD j 0 < 32)) (fun i => 6 - (intOf i).toNat)
  case atStart => exact ⟨0, Nat.zero_le _, rfl, fun j hj => absurd hj (Nat.not_lt_zero _)⟩
  case round =>
    obtain ⟨k, hk, rfl, Hlow⟩ := hrel
    by_cases hlt : k < 6
    · have hc1 : w3.cell? ⟨w1.heap.size, P + k, none⟩ = some (.int .u8 (bt ns (P + k))) := hr3.cell (P + k) (by rw [Hz.out]; omega)
      have hc2 : w3.cell? ⟨w.heap.size, k, none⟩ = some (.int .u8 (bt ps k)) := A3.cell k (by rw [Hl6.out]; exact hlt)
      by_cases h1 : ns.getD (P + k) 0 < 32
      · have t1 : decide ((31 : Int) < bt ns (P + k)) = false := by rw [decide_eq_false_iff_not]; unfold bt; omega
        by_cases h2 : ps.getD k 0 < 32
        · have t2 : decide ((31 : Int) < bt ps k) = false := by rw [decide_eq_false_iff_not]; unfold bt; omega
          have Hnext : Hid (∀ j, j < k + 1 → ns.getD (P + j) 0 < 32 ∧ ps.getD j 0 < 32) := by
            intro j hj
            rcases Nat.lt_or_ge j k with h | h
            · exact Hlow.out j h
            · obtain rfl : j = k := by omega
              exact ⟨h1, h2⟩
          clear h1 h2
          go_wp2_with fail
          go_round
          case rel => exact ⟨k + 1, by omega, by go_num, Hnext⟩
          case measure => simp [intOf]; omega
        · have t2 : decide ((31 : Int) < bt ps k) = true := by rw [decide_eq_true_iff]; unfold bt; omega
          clear h1 h2
          go_wp2_with fail
          go_ret
          exact ⟨rfl, B3⟩
      · have t1 : decide ((31 : Int) < bt ns (P + k)) = true := by rw [decide_eq_true_iff]; unfold bt; omega
        clear h1
        go_wp2_with fail
        go_ret
        exact ⟨rfl, B3⟩
    · have Hlow6 : Hid (∀ j, j < 6 → ns.getD (P + j) 0 < 32 ∧ ps.getD j 0 < 32) := fun j hj => Hlow.out j (by omega)
      clear Hlow
      go_wp2_with (at_make; go_must (refine wpList_make_row rfl _ _ rfl _ _ n n rfl rfl rfl rfl (Nat.le_refl _) (by omega) ?_; intro w4 hr4 hb4))
      have HG3 := hr3.lt
      have A4 : Arr w4 w.heap.size ps := A3.below hb4 A3.lt
      have R4 : Row w4 w1.heap.size ns := hr3.below hb4 hr3.lt
      have B4 : Below w.heap.size w w4 := B3.trans (hb4.mono B3.size)
      have C4 : Row w4 w3.heap.size (cpK ns n 0) := by rw [cpK_zero]; exact hr4
      clear A3 hr3 B3 hr4 hb4
      go_loopw [12] (fun i ws => ∃ k : Nat, k ≤ n ∧ i = .int .i64 k ∧ Arr ws w.heap.size ps ∧ Row ws w1.heap.size ns ∧ Row ws w3.heap.size (cpK ns n k) ∧ Below w.heap.size w ws) (fun i _ => n - (intOf i).toNat)
      case atStart => exact ⟨0, Nat.zero_le _, rfl, A4, R4, C4, B4⟩
      case round =>
        clear A4 R4 C4 B4
        obtain ⟨k, hk, rfl, A4, R4, C4, B4⟩ := hrel
        by_cases hlt : k < n
        · have hc1 := R4.cell k (by rw [Hz.out]; exact hlt)
          have hc2 := C4.cell k (by rw [cpK_length]; exact hlt)
          have hfr := C4.frozen k
          go_wp2_with fail
          go_roundw
          case rel => exact ⟨k + 1, by omega, by go_num, A4.other _ _ (by show _ ≠ w3.heap.size; omega), R4.other _ _ (by show _ ≠ w3.heap.size; omega), by rw [← cpK_set]; exact C4.setV k _ _ rfl, B4.setCell (by show _ ≤ w3.heap.size; omega) _⟩
          case measure => simp [intOf]; omega
        · have C5 : Row wr w3.heap.size (patchK ns P ps 0) := by
            rw [patchK_zero]
            have ek : k = ns.length := by rw [Hz.out]; omega
            have h := C4
            rw [ek, ← Hz.out, cpK_end] at h
            exact h
          clear C4
          go_wp2_with fail
          have hs0 : Value.bool true = Value.bool (sameK ns P ps 0) := by rw [sameK_zero]
          go_loopw [13, 14] (fun sm i ws => ∃ k : Nat, k ≤ 6 ∧ i = .int .i64 k ∧ sm = .bool (sameK ns P ps k) ∧ Arr ws w.heap.size ps ∧ Row ws w1.heap.size ns ∧ Row ws w3.heap.size (patchK ns P ps k) ∧ Below w.heap.size w ws) (fun _ i _ => 6 - (intOf i).toNat)
          case atStart => exact ⟨0, Nat.zero_le _, rfl, hs0, A4, R4, C5, B4⟩
          case round =>
            clear A4 R4 C5 B4 hs0
            obtain ⟨k, hk, rfl, rfl, A4, R4, C4, B4⟩ := hrel
            by_cases hlt : k < 6
            · have hc1 := R4.cell (P + k) (by rw [Hz.out]; omega)
              have hc2 := C4.cell (P + k) (by rw [patchK_length, Hz.out]; omega)
              have hc3 := A4.cell k (by rw [Hl6.out]; exact hlt)
              have hfr := C4.frozen (P + k)
              by_cases he : ps.getD k 0 = ns.getD (P + k) 0
              · have tv : (bt ps k != bt ns (P + k)) = false := by unfold bt; rw [he]; simp
                have Hsame := hidden (sameK_yes ns P ps k he)
                clear he
                go_wp2_with fail
                go_region
                all_goals
                  go_wp2_with fail
                  go_roundw
                  case rel => exact ⟨k + 1, by omega, by go_num, by rw [Hsame.out], A4.drew.other _ _ (by show _ ≠ w3.heap.size; omega), R4.drew.other _ _ (by show _ ≠ w3.heap.size; omega), by rw [← patchK_set]; exact C4.drew.setV _ _ _ rfl, B4.drew.setCell (by show _ ≤ w3.heap.size; omega) _⟩
                  case measure => simp [intOf]; omega
              · have tv : (bt ps k != bt ns (P + k)) = true := by unfold bt; rw [bne_iff_ne]; omega
                have Hsame := hidden (sameK_no ns P ps k he)
                clear he
                go_wp2_with fail
                go_region
                all_goals
                  go_wp2_with fail
                  go_roundw
                  case rel => exact ⟨k + 1, by omega, by go_num, by rw [Hsame.out], A4.drew.other _ _ (by show _ ≠ w3.heap.size; omega), R4.drew.other _ _ (by show _ ≠ w3.heap.size; omega), by rw [← patchK_set]; exact C4.drew.setV _ _ _ rfl, B4.drew.setCell (by show _ ≤ w3.heap.size; omega) _⟩
                  case measure => simp [intOf]; omega
            · obtain rfl : k = 6 := by omega
              have hps32 : ∀ z ∈ ps, z < 32 := by
                intro z hz
                obtain ⟨j, hj, rfl⟩ := List.getElem_of_mem hz
                have := (Hlow6.out j (by rw [← Hl6.out]; exact hj)).2
                simpa [hj] using this
              have Hfin := hidden (burst (strBytes s) ns P ps (strBytes_lt s) Hb.out Hl6.out (by rw [Hz.out]; exact hP) hps32 (fun i hi => (Hlow6.out i hi).1))
              clear hps32
              go_wp2_with fail
              refine (zzpolymod_any (some ⟨w1.heap.size, 0, none⟩) s w1.heap.size n n ns wr (.inl rfl) (by omega) (by omega) Hz.out Hb.out (fun k hk => R4.cell k (by rw [Hz.out]; exact hk))).mono ?_
              rintro e w5 ⟨rfl, rfl⟩
              go_wp2_with fail
              refine (zzpolymod_any (some ⟨w3.heap.size, 0, none⟩) s w3.heap.size n n (patchK ns P ps 6) wr (.inl rfl) (by omega) (by omega) (by rw [patchK_length]; exact Hz.out) (patchK_lt ns P ps 6 Hb.out Hps.out) (fun k hk => C4.cell k (by rw [patchK_length, Hz.out]; exact hk))).mono ?_
              rintro e w5 ⟨rfl, rfl⟩
              go_wp2_with fail
              go_ret
              exact ⟨ret_bool (eq_same _ _ _ Hfin.out), B4⟩

set_option maxRecDepth 100000 in
set_option maxHeartbeats 1000000 in
theorem burst_long (s : ByteArray) (p : Option Addr) (n c : Nat) (pos : Int) (p0 p1 p2 p3 p4 p5 : Value) (w : World) (h : 1048576 < s.size + n) (hs : s.size ≤ maxLen) (hn : n ≤ maxLen) :
    Calls Try.prog 7 #[.string s, .slice p n c, .int .i64 pos, .agg #[p0, p1, p2, p3, p4, p5]] w fun e w' => e = .returned (.bool true) ∧ Below w.heap.size w w' := by
  have HB : Hid (Below w.heap.size w (w.alloc (.cells #[p0, p1, p2, p3, p4, p5] 27))) := (Below.refl _ _).alloc (Nat.le_refl _) _
  go_enter Try.func7, Try.ntmps7
  go_wp2_with fail
  refine (bytes18_no s p n c pos _ _ _ _ _ _ _ h hs hn).mono ?_
  rintro e w1 ⟨rfl, hb1⟩
  go_wp2_with fail
  go_ret
  exact ⟨rfl, HB.out.trans (hb1.mono HB.out.size)⟩

set_option maxRecDepth 100000 in
set_option maxHeartbeats 1000000 in
theorem burst_out (s : ByteArray) (p : Option Addr) (n c : Nat) (pos : Int) (p0 p1 p2 p3 p4 p5 : Value) (w : World) (hsn : s.size + n ≤ 1048576) (h : pos < 0 ∨ (n : Int) - 6 < pos) :
    Calls Try.prog 7 #[.string s, .slice p n c, .int .i64 pos, .agg #[p0, p1, p2, p3, p4, p5]] w fun e w' => e = .returned (.bool true) ∧ Below w.heap.size w w' := by
  have HB : Hid (Below w.heap.size w (w.alloc (.cells #[p0, p1, p2, p3, p4, p5] 27))) := (Below.refl _ _).alloc (Nat.le_refl _) _
  have d1 : decide ((1048576 : Int) < (s.size : Int)) = false := by simp; omega
  have d2 : decide ((1048576 : Int) < (n : Int)) = false := by simp; omega
  have d3 : decide ((1048576 : Int) < (s.size : Int) + (n : Int)) = false := by simp; omega
  by_cases h0 : pos < 0
  · have d4 : decide (pos < 0) = true := by simp [h0]
    go_enter Try.func7, Try.ntmps7
    go_wp2_with fail
    refine (bytes18_yes s p n c pos _ _ _ _ _ _ _ hsn).mono ?_
    rintro e w1 ⟨rfl, hb1⟩
    go_wp2_with fail
    go_ret
    exact ⟨rfl, HB.out.trans (hb1.mono HB.out.size)⟩
  · have d4 : decide (pos < 0) = false := by simp; omega
    have d5 : decide ((n : Int) - 6 < pos) = true := by rw [decide_eq_true_iff]; omega
    go_enter Try.func7, Try.ntmps7
    go_wp2_with fail
    refine (bytes18_yes s p n c pos _ _ _ _ _ _ _ hsn).mono ?_
    rintro e w1 ⟨rfl, hb1⟩
    go_wp2_with fail
    go_ret
    exact ⟨rfl, HB.out.trans (hb1.mono HB.out.size)⟩
end Go.Proofs.Qxb6619359a
