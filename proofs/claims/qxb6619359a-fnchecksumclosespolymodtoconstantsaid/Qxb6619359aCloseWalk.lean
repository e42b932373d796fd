/-
  THE WALK OF 'FnChecksumClosesPolymodToConstant' (function 4).
-/
import Derived.Test.Qxb6619359aSumWalk
import Derived.Test.Qxb6619359aFront
namespace Go.Proofs.Qxb6619359a
open Go.RowKit

theorem ret_bool {a : Bool} (h : a = true) : Ending.returned (.bool a) = .returned (.bool true) := by rw [h]

/-- THE PLAIN LAW, in the walk's spelling. -/
theorem closes_law (hl ns : List Nat) (K : Nat) (hh : ∀ z ∈ hl, z < 256) (hn : ∀ z ∈ ns, z < 256) (hK : K < 4294967296) :
    (((pm hl (ns ++ sums (shut6 (pm hl ns) ^^^ K)) : Nat) : Int) == bits BinOp.and IntKind.u32 (K : Int) 1073741823) = true := by
  have e1 : bits BinOp.and IntKind.u32 (K : Int) ((1073741823 : Nat) : Int) = ((K &&& 1073741823 : Nat) : Int) := u32_and_nat K 1073741823 hK (by decide)
  have e2 : K &&& 1073741823 = K % 2 ^ 30 := Nat.and_two_pow_sub_one_eq_mod K 30
  have e3 : bits BinOp.and IntKind.u32 (K : Int) 1073741823 = ((K % 2 ^ 30 : Nat) : Int) := by rw [← e2]; exact e1
  rw [e3, beq_iff_eq]
  congr 1
  have e4 : pm hl (ns ++ sums (shut6 (pm hl ns) ^^^ K)) = pmRun (pm hl ns) (sums (shut6 (pm hl ns) ^^^ K)) := by
    unfold pm
    rw [← List.append_assoc, run_append]
  rw [e4]
  exact closes (pm hl ns) K (pm_lt hl ns hh hn)

/-- 'ZZchecksum', its six values written out. -/
theorem zzchecksum_lit (p : Option Addr) (s : ByteArray) (n c : Nat) (ns : List Nat) (K M : Nat) (w : World) (hs : s.size ≤ 1048576) (hn : n ≤ 2097152) (hK : K < 4294967296) (hM : shut6 (pm (strBytes s) ns) ^^^ K = M) (h : Src w p n ns) :
    Calls Try.prog 13 #[.string s, .slice p n c, .int .u32 (K : Int)] w fun e w' => e = .returned (.agg #[.int .u8 ((sumI M 0 : Nat) : Int), .int .u8 ((sumI M 1 : Nat) : Int), .int .u8 ((sumI M 2 : Nat) : Int), .int .u8 ((sumI M 3 : Nat) : Int), .int .u8 ((sumI M 4 : Nat) : Int), .int .u8 ((sumI M 5 : Nat) : Int)]) ∧ Below w.heap.size w w' := by
  subst hM
  exact zzchecksum_any p s n c ns K w hs hn hK h

theorem app_left (ns ss : List Nat) (k : Nat) (h : k < ns.length) : (ns ++ ss).getD k 0 = ns.getD k 0 := by
  rw [List.getD_eq_getElem?_getD, List.getElem?_append_left h, List.getD_eq_getElem?_getD]

theorem app_right (ns ss : List Nat) (n j : Nat) (h : ns.length = n) : (ns ++ ss).getD (n + j) 0 = ss.getD j 0 := by
  rw [List.getD_eq_getElem?_getD, List.getElem?_append_right (by omega), List.getD_eq_getElem?_getD]
  congr 2
  omega

set_option maxHeartbeats 1000000 in
theorem bytes12_yes (s : ByteArray) (p : Option Addr) (n c : Nat) (K : Int) (w : World) (h : s.size + n ≤ 1048576) :
    Calls Try.prog 12 #[.string s, .slice p n c, .int .u32 K] w fun e w' => e = .returned (.bool true) ∧ w = w' := by
  go_enter Try.func12, Try.ntmps12
  go_wp2
  go_ret
  exact ⟨rfl, rfl⟩

set_option maxHeartbeats 1000000 in
theorem bytes12_no (s : ByteArray) (p : Option Addr) (n c : Nat) (K : Int) (w : World) (h : 1048576 < s.size + n) (hs : s.size ≤ maxLen) (hn : n ≤ maxLen) :
    Calls Try.prog 12 #[.string s, .slice p n c, .int .u32 K] w fun e w' => e = .returned (.bool false) ∧ w = w' := by
  unfold maxLen at hs hn
  go_enter Try.func12, Try.ntmps12
  go_wp2
  all_goals
    go_ret
    exact ⟨rfl, rfl⟩

set_option maxRecDepth 100000 in
set_option maxHeartbeats 2000000 in
theorem close_some (s : ByteArray) (x : Addr) (n c : Nat) (ns : List Nat) (K : Nat) (w : World) (hsn : s.size + n ≤ 1048576) (hz : ns.length = n) (hb : ∀ z ∈ ns, z < 256) (hK : K < 4294967296)
    (hsrc : ∀ k, k < n → w.cell? (x.add k) = some (.int .u8 (bt ns k))) :
    Calls Try.prog 4 #[.string s, .slice (some x) n c, .int .u32 (K : Int)] w fun e w' => e = .returned (.bool true) ∧ Below w.heap.size w w' := by
  have hne := fun wx => run_neq_slice_nil_any (P := Try.prog) wx 22 5 (some x) n c 0 0 Try.underlying22
  have Hz := hidden hz
  have Hb := hidden hb
  have Hsrc := hidden hsrc
  have d1 : decide ((1048576 : Int) < (s.size : Int)) = false := by simp; omega
  have d2 : decide ((1048576 : Int) < (n : Int)) = false := by simp; omega
  have d3 : decide ((1048576 : Int) < (s.size : Int) + (n : Int)) = false := by simp; omega
  have Hfin := hidden (closes_law (strBytes s) ns K (strBytes_lt s) hb hK)
  obtain ⟨M, hM⟩ : ∃ M, shut6 (pm (strBytes s) ns) ^^^ K = M := ⟨_, rfl⟩
  rw [hM] at Hfin
  have HM := hidden hM
  clear hz hb hsrc hM
  go_enter Try.func4, Try.ntmps4
  go_wp2_with (first
    | (go_at_call 12; refine (bytes12_yes _ _ _ _ _ _ hsn).mono ?_; rintro e w' ⟨rfl, rfl⟩)
    | (at_make; refine wpList_make_row rfl (.tmp 34) (.tmp 34) rfl _ _ n n rfl rfl rfl rfl (Nat.le_refl _) (by omega) ?_; intro w1 hr1 hb1)
    | (have _t := hr1; refine wpList_copy_row rfl (.tmp 36) (.tmp 37) rfl w.heap.size n n c x rfl rfl (List.replicate n 0) ns hr1 (by simp) Hz.out (src_later hb1 Hsrc.out) w.heap.size w hb1 (Nat.le_refl _) ?_; intro w2 hr2 hb2; clear hr1 hb1)
    | (go_at_call 13; refine (zzchecksum_lit _ s n n ns K M _ (by omega) (by omega) hK HM.out (Src.row Hz.out Hb.out hr2)).mono ?_; rintro e w3 ⟨rfl, hb3⟩)
    | (at_make; have _t := hb3; refine wpList_make_row rfl (.tmp 46) (.tmp 46) rfl _ _ (n + 6) (n + 6) rfl rfl (by simp) (by simp) (Nat.le_refl _) (by omega) ?_; intro w4 hr4 hb4))
  have A3 : Arr (w3.alloc (.cells #[.int .u8 ((sumI M 0 : Nat) : Int), .int .u8 ((sumI M 1 : Nat) : Int), .int .u8 ((sumI M 2 : Nat) : Int), .int .u8 ((sumI M 3 : Nat) : Int), .int .u8 ((sumI M 4 : Nat) : Int), .int .u8 ((sumI M 5 : Nat) : Int)] 27)) w3.heap.size (sums M) := heap_alloc_new _ _
  have R3 : Row w3 w.heap.size ns := hr2.below hb3 hr2.lt
  have B3 : Below w.heap.size w w3 := hb2.trans (hb3.mono hb2.size)
  have G3 := R3.lt
  have R4 : Row w4 w.heap.size ns := (R3.alloc _).below hb4 (by simp; omega)
  have A4 : Arr w4 w3.heap.size (sums M) := A3.below hb4 (by simp)
  have B4 : Below w.heap.size w w4 := (B3.alloc B3.size _).trans (hb4.mono (by simp; omega))
  rw [World.size_alloc] at hr4
  have Hl6 : Hid ((sums M).length = 6) := rfl
  have Hs32 := hidden (sums_lt M)
  have C4 : Row w4 (w3.heap.size + 1) (cpK (ns ++ sums M) (n + 6) 0) := by rw [cpK_zero]; exact hr4
  clear hr2 hb2 hb3 hr4 hb4 A3 R3 B3
  generalize sums M = ss at *
  go_loopw [10] (fun i ws => ∃ k : Nat, k ≤ n ∧ i = .int .i64 k ∧ Row ws w.heap.size ns ∧ Arr ws w3.heap.size ss ∧ Row ws (w3.heap.size + 1) (cpK (ns ++ ss) (n + 6) k) ∧ Below w.heap.size w ws) (fun i _ => n - (intOf i).toNat)
  case atStart => exact ⟨0, Nat.zero_le _, rfl, R4, A4, C4, B4⟩
  case round =>
    clear R4 A4 C4 B4
    obtain ⟨k, hk, rfl, R4, A4, C4, B4⟩ := hrel
    by_cases hlt : k < n
    · have hc1 := R4.cell k (by rw [Hz.out]; exact hlt)
      have hc2 := C4.cell k (by rw [cpK_length]; omega)
      have hfr := C4.frozen k
      have Hv : Hid (bt ns k = (((ns ++ ss).getD k 0 : Nat) : Int)) := by show _ = _; rw [app_left ns ss k (by rw [Hz.out]; exact hlt)]; rfl
      go_wp2_with fail
      go_roundw
      case rel => exact ⟨k + 1, by omega, by go_num, R4.other _ _ (by show _ ≠ w3.heap.size + 1; omega), A4.other _ _ (by show _ ≠ w3.heap.size + 1; omega), by rw [← cpK_set]; exact C4.setV k _ _ Hv.out, B4.setCell (by show _ ≤ w3.heap.size + 1; omega) _⟩
      case measure => simp [intOf]; omega
    · obtain rfl : n = k := by omega
      go_wp2_with fail
      go_loopw [11] (fun i ws => ∃ j : Nat, j ≤ 6 ∧ i = .int .i64 j ∧ Arr ws w3.heap.size ss ∧ Row ws (w3.heap.size + 1) (cpK (ns ++ ss) (n + 6) (n + j)) ∧ Below w.heap.size w ws) (fun i _ => 6 - (intOf i).toNat)
      case atStart => exact ⟨0, Nat.zero_le _, rfl, A4, C4, B4⟩
      case round =>
        clear R4 A4 C4 B4
        obtain ⟨j, hj, rfl, A4, C4, B4⟩ := hrel
        by_cases hj6 : j < 6
        · have hc1 := A4.cell j (by rw [Hl6.out]; exact hj6)
          have hc2 := C4.cell (n + j) (by rw [cpK_length]; omega)
          have hfr := C4.frozen (n + j)
          have tv : decide ((31 : Int) < bt ss j) = false := by
            rw [decide_eq_false_iff_not]
            have := getD_lt ss 32 (by decide) Hs32.out j
            unfold bt
            omega
          have Hv : Hid (bt ss j = (((ns ++ ss).getD (n + j) 0 : Nat) : Int)) := by show _ = _; rw [app_right ns ss n j Hz.out]; rfl
          go_wp2_with fail
          go_roundw
          case rel => exact ⟨j + 1, by omega, by go_num, A4.other _ _ (by show _ ≠ w3.heap.size + 1; omega), by rw [← Nat.add_assoc, ← cpK_set]; exact C4.setV (n + j) _ _ Hv.out, B4.setCell (by show _ ≤ w3.heap.size + 1; omega) _⟩
          case measure => simp [intOf]; omega
        · have C5 : Row wr (w3.heap.size + 1) (ns ++ ss) := by
            have ej : j = 6 := by omega
            have h := C4
            have el : (ns ++ ss).length = n + 6 := by rw [List.length_append, Hz.out, Hl6.out]
            rw [ej, ← el, cpK_end] at h
            exact h
          have Hsrc2 : Hid (Src wr (some ⟨w3.heap.size + 1, 0, none⟩) (n + 6) (ns ++ ss)) := by
            refine Src.row (by rw [List.length_append, Hz.out, Hl6.out]) ?_ C5
            intro z hz
            rcases List.mem_append.1 hz with h | h
            · exact Hb.out z h
            · have := Hs32.out z h; omega
          clear C4 C5
          go_wp2_with (go_at_call 10; refine (zzpolymod_src _ s (n + 6) (n + 6) (ns ++ ss) _ (by omega) (by omega) Hsrc2.out).mono ?_; rintro e w5 ⟨rfl, rfl⟩)
          go_ret
          exact ⟨ret_bool Hfin.out, B4⟩

set_option maxRecDepth 100000 in
set_option maxHeartbeats 2000000 in
theorem close_nil (s : ByteArray) (c : Nat) (K : Nat) (w : World) (hsn : s.size ≤ 1048576) (hK : K < 4294967296) :
    Calls Try.prog 4 #[.string s, .slice none 0 c, .int .u32 (K : Int)] w fun e w' => e = .returned (.bool true) ∧ Below w.heap.size w w' := by
  have hne := fun wx => run_neq_slice_nil_any (P := Try.prog) wx 22 5 none 0 c 0 0 Try.underlying22
  have d1 : decide ((1048576 : Int) < (s.size : Int)) = false := by simp; omega
  have Hfin := hidden (closes_law (strBytes s) [] K (strBytes_lt s) (by simp) hK)
  have hsn' : s.size + 0 ≤ 1048576 := hsn
  obtain ⟨M, hM⟩ : ∃ M, shut6 (pm (strBytes s) []) ^^^ K = M := ⟨_, rfl⟩
  rw [hM, List.nil_append] at Hfin
  have HM := hidden hM
  clear hM
  go_enter Try.func4, Try.ntmps4
  go_wp2_with (first
    | (go_at_call 12; refine (bytes12_yes _ _ _ _ _ _ hsn').mono ?_; rintro e w' ⟨rfl, rfl⟩)
    | (go_at_call 13; refine (zzchecksum_lit none s 0 c [] K M _ hsn (by omega) hK HM.out (Src.nil rfl)).mono ?_; rintro e w3 ⟨rfl, hb3⟩)
    | (at_make; have _t := hb3; refine wpList_make_row rfl (.tmp 46) (.tmp 46) rfl _ _ 6 6 rfl rfl (by simp) (by simp) (Nat.le_refl _) (by omega) ?_; intro w4 hr4 hb4))
  have A3 : Arr (w3.alloc (.cells #[.int .u8 ((sumI M 0 : Nat) : Int), .int .u8 ((sumI M 1 : Nat) : Int), .int .u8 ((sumI M 2 : Nat) : Int), .int .u8 ((sumI M 3 : Nat) : Int), .int .u8 ((sumI M 4 : Nat) : Int), .int .u8 ((sumI M 5 : Nat) : Int)] 27)) w3.heap.size (sums M) := heap_alloc_new _ _
  have G3 := hb3.size
  have A4 : Arr w4 w3.heap.size (sums M) := A3.below hb4 (by simp)
  have B4 : Below w.heap.size w w4 := (hb3.alloc hb3.size _).trans (hb4.mono (by simp; omega))
  rw [World.size_alloc] at hr4
  have Hl6 : Hid ((sums M).length = 6) := rfl
  have Hs32 := hidden (sums_lt M)
  have C4 : Row w4 (w3.heap.size + 1) (cpK (sums M) 6 0) := by rw [cpK_zero]; exact hr4
  clear hb3 hr4 hb4 A3
  generalize sums M = ss at *
  refine wp_loop_rounds 1 ?_
  rw [rounds_succ]
  go_wp2_with fail
  go_loopw [11] (fun i ws => ∃ j : Nat, j ≤ 6 ∧ i = .int .i64 j ∧ Arr ws w3.heap.size ss ∧ Row ws (w3.heap.size + 1) (cpK ss 6 j) ∧ Below w.heap.size w ws) (fun i _ => 6 - (intOf i).toNat)
  case atStart => exact ⟨0, Nat.zero_le _, rfl, A4, C4, B4⟩
  case round =>
    clear A4 C4 B4
    obtain ⟨j, hj, rfl, A4, C4, B4⟩ := hrel
    by_cases hj6 : j < 6
    · have hc1 := A4.cell j (by rw [Hl6.out]; exact hj6)
      have hc2 := C4.cell j (by rw [cpK_length]; omega)
      have hfr := C4.frozen j
      have tv : decide ((31 : Int) < bt ss j) = false := by
        rw [decide_eq_false_iff_not]
        have := getD_lt ss 32 (by decide) Hs32.out j
        unfold bt
        omega
      go_wp2_with fail
      go_roundw
      case rel => exact ⟨j + 1, by omega, by go_num, A4.other _ _ (by show _ ≠ w3.heap.size + 1; omega), by rw [← cpK_set]; exact C4.setV j _ _ rfl, B4.setCell (by show _ ≤ w3.heap.size + 1; omega) _⟩
      case measure => simp [intOf]; omega
    · have C5 : Row wr (w3.heap.size + 1) ss := by
        have ej : j = 6 := by omega
        have h := C4
        rw [ej, ← Hl6.out, cpK_end] at h
        exact h
      have Hsrc2 : Hid (Src wr (some ⟨w3.heap.size + 1, 0, none⟩) 6 ss) := Src.row Hl6.out (fun z hz => by have := Hs32.out z hz; omega) C5
      clear C4 C5
      go_wp2_with (go_at_call 10; refine (zzpolymod_src _ s 6 6 ss _ hsn (by omega) Hsrc2.out).mono ?_; rintro e w5 ⟨rfl, rfl⟩)
      go_ret
      exact ⟨ret_bool Hfin.out, B4⟩

set_option maxRecDepth 100000 in
set_option maxHeartbeats 1000000 in
theorem close_long (s : ByteArray) (p : Option Addr) (n c : Nat) (K : Int) (w : World) (h : 1048576 < s.size + n) (hs : s.size ≤ maxLen) (hn : n ≤ maxLen) :
    Calls Try.prog 4 #[.string s, .slice p n c, .int .u32 K] w fun e w' => e = .returned (.bool true) ∧ Below w.heap.size w w' := by
  go_enter Try.func4, Try.ntmps4
  go_wp2_with (go_at_call 12; refine (bytes12_no _ _ _ _ _ _ h hs hn).mono ?_; rintro e w' ⟨rfl, rfl⟩)
  go_ret
  exact ⟨rfl, Below.refl _ _⟩
end Go.Proofs.Qxb6619359a
