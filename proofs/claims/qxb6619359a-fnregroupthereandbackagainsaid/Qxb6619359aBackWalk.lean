/-
  THE WALK OF 'FnRegroupThereAndBackAgain' (function 8): every way through it.
-/
import Derived.Test.Qxb6619359aRegroup
import Derived.Test.Qxb6619359aFront
import Derived.Test.Qxb6619359aPlainB
namespace Go.Proofs.Qxb6619359a
open Go.RowKit

theorem bytes19_yes (p : Option Addr) (n c : Nat) (f t : Int) (w : World) (h : n ≤ 1048576) : Calls Try.prog 19 #[.slice p n c, .int .i64 f, .int .i64 t] w fun e w' => e = .returned (.bool true) ∧ w = w' := by
  go_enter Try.func19, Try.ntmps19
  go_wp2
  go_ret
  exact ⟨rfl, rfl⟩

theorem bytes19_no (p : Option Addr) (n c : Nat) (f t : Int) (w : World) (h : 1048576 < n) : Calls Try.prog 19 #[.slice p n c, .int .i64 f, .int .i64 t] w fun e w' => e = .returned (.bool false) ∧ w = w' := by
  go_enter Try.func19, Try.ntmps19
  go_wp2
  go_ret
  exact ⟨rfl, rfl⟩

set_option maxRecDepth 100000 in
set_option maxHeartbeats 1000000 in
theorem back_some (x : Addr) (n c : Nat) (zs : List Nat) (f t : Nat) (w : World) (hz : zs.length = n) (hb : ∀ z ∈ zs, z < 256)
    (hn : n ≤ 1048576) (hf1 : 1 ≤ f) (hf8 : f ≤ 8) (ht1 : 1 ≤ t) (ht8 : t ≤ 8) (hsrc : ∀ k, k < n → w.cell? (x.add k) = some (.int .u8 (bt zs k))) :
    Calls Try.prog 8 #[.slice (some x) n c, .int .i64 f, .int .i64 t] w fun e w' => e = .returned (.bool true) ∧ Below w.heap.size w w' := by
  have hne := fun wx => run_neq_slice_nil_any (P := Try.prog) wx 22 5 (some x) n c 0 0 Try.underlying22
  have Hz := hidden hz
  have Hb := hidden hb
  have Hsrc := hidden hsrc
  have d1 : decide ((1048576 : Int) < (n : Int)) = false := by simp; omega
  have d2 : decide ((f : Int) < 1) = false := by simp; omega
  have d3 : decide ((8 : Int) < (f : Int)) = false := by simp; omega
  have d4 : decide ((t : Int) < 1) = false := by simp; omega
  have d5 : decide ((8 : Int) < (t : Int)) = false := by simp; omega
  clear hz hb hsrc
  go_enter Try.func8, Try.ntmps8
  go_wp2_with (first
    | (go_at_call 19; refine (bytes19_yes _ _ _ _ _ _ hn).mono ?_; rintro e w' ⟨rfl, rfl⟩)
    | (at_make; go_must (refine wpList_make_row rfl _ _ rfl _ _ n n rfl rfl rfl rfl (Nat.le_refl _) (by omega) ?_; intro w1 hr1 hb1))
    | (have _t := hr1; go_loud (refine wpList_copy_row rfl (.tmp 45) (.tmp 46) rfl w.heap.size n n c x rfl rfl (List.replicate n 0) zs hr1 (by simp) Hz.out (src_later hb1 Hsrc.out) w.heap.size w hb1 (Nat.le_refl _) ?_; intro w2 hr2 hb2; clear hr1 hb1)))
  go_loop [8] (fun i => ∃ k : Nat, k ≤ n ∧ i = .int .i64 k ∧ Hid (∀ j, j < k → zs.getD j 0 < 2 ^ f)) (fun i => n - (intOf i).toNat)
  case atStart => exact ⟨0, Nat.zero_le _, rfl, fun j hj => absurd hj (Nat.not_lt_zero _)⟩
  case round =>
    obtain ⟨k, hk, rfl, Hlow⟩ := hrel
    by_cases hlt : k < n
    · have hcell : w2.cell? ⟨w.heap.size, k, none⟩ = some (.int .u8 (bt zs k)) := hr2.cell k (by rw [Hz.out]; exact hlt)
      have v0 := bt_nonneg zs k
      have v1 := bt_le zs Hb.out k
      by_cases hv : zs.getD k 0 < 2 ^ f
      · have tv : (bt zs k / 2 ^ f != 0) = false := shift_none _ _ f rfl hv
        have Hnext : Hid (∀ j, j < k + 1 → zs.getD j 0 < 2 ^ f) := by
          intro j hj
          rcases Nat.lt_or_ge j k with h | h
          · exact Hlow.out j h
          · obtain rfl : j = k := by omega
            exact hv
        have Hv := hidden hv
        clear hv
        go_wp2_with fail
        go_round
        case rel => exact ⟨k + 1, by omega, by go_num, Hnext⟩
        case measure => simp [intOf]; omega
      · have tv : (bt zs k / 2 ^ f != 0) = true := shift_some _ _ f rfl hv
        clear hv
        go_wp2_with fail
        go_ret
        exact ⟨rfl, hb2⟩
    · have hbf : ∀ z ∈ zs, z < 2 ^ f := all_low f zs n Hz.out (fun j hj => Hlow.out j (by omega))
      have Hbf := hidden hbf
      clear hbf Hlow
      obtain ⟨q, r, hq, hr⟩ : ∃ q r, q * t + r = n * f ∧ r < t := ⟨n * f / t, n * f % t, by rw [Nat.mul_comm]; exact Nat.div_add_mod _ _, Nat.mod_lt _ (by omega)⟩
      obtain ⟨o1, o2, o3, o4, o5, o6⟩ := out_tests n f t q r (by omega) hf8 ht1 hq
      have g1 : decide ((r : Int) < 0) = false := by simp
      have g2 : decide ((t : Int) ≤ (r : Int)) = false := by rw [decide_eq_false_iff_not]; omega
      have g3 : decide ((n : Int) * 8 < (q : Int)) = false := by simp; omega
      have g4 : (((restR f zs r : Nat) : Int) / 2 ^ r != 0) = false := shift_none _ _ r rfl (restR_lt f zs r)
      have g5 : ((restR f zs r : Nat) : Int) ≤ 255 := by
        have h1 := restR_lt f zs r
        have h2 : 2 ^ r ≤ 2 ^ 8 := Nat.pow_le_pow_right (by decide) (by omega)
        omega
      have Hc1 := hidden (zzregroup_qr (some ⟨w.heap.size, 0, none⟩) w.heap.size n n zs f t q r w2 hq hr (.inl rfl) Hz.out Hb.out Hbf.out (by omega) hf1 hf8 ht1 ht8 (fun _ => hr2.lt) (fun k hk => hr2.cell k (by rw [Hz.out]; exact hk)))
      have Hq := hidden hq
      clear hq
      go_wp2_with (first
        | (go_at_call 16; refine (Hc1.out).mono ?_; rintro e w3 ⟨rfl, hr3, hb3⟩)
        | (at_make; go_must (refine wpList_make_row rfl _ _ rfl _ _ q (q + 1) rfl rfl rfl (by omega) (by omega) (by omega) ?_; intro w4 hr4 hb4)))
      have G01 := hr2.lt
      have G12 := hr3.lt
      have R0 : Row w4 w.heap.size zs := (hr2.below hb3 G01).below hb4 (by omega)
      have R1 : Row w4 w2.heap.size (content f t zs (q + 1) q) := hr3.below hb4 G12
      have R2 : Row w4 w3.heap.size (content f t zs (q + 1) 0) := by rw [content_zero]; exact hr4
      have RB : Below w.heap.size w w4 := (hb2.trans (hb3.mono (by omega))).trans (hb4.mono (by omega))
      clear hr2 hb2 hr3 hb3 hr4 hb4 Hc1
      go_loopw [13] (fun i ws => ∃ k : Nat, k ≤ q ∧ i = .int .i64 k ∧ Row ws w.heap.size zs ∧ Row ws w2.heap.size (content f t zs (q + 1) q) ∧ Row ws w3.heap.size (content f t zs (q + 1) k) ∧ Below w.heap.size w ws) (fun i _ => q - (intOf i).toNat)
      case atStart => exact ⟨0, Nat.zero_le _, rfl, R0, R1, R2, RB⟩
      case round =>
        clear R0 R1 R2 RB
        obtain ⟨k, hk, rfl, R0, R1, R2, RB⟩ := hrel
        by_cases hlt : k < q
        · have hcell : wr.cell? ⟨w2.heap.size, k, none⟩ = some (.int .u8 (bt (content f t zs (q + 1) q) k)) := R1.cell k (by rw [content_length]; omega)
          have hcell2 : wr.cell? ⟨w3.heap.size, k, none⟩ = some (.int .u8 (bt (content f t zs (q + 1) k) k)) := R2.cell k (by rw [content_length]; omega)
          have hfr := R2.frozen k
          have ebt : bt (content f t zs (q + 1) q) k = ((outJ f t zs k : Nat) : Int) := by unfold bt; rw [content_getD f t zs (q + 1) q k hlt (by omega)]
          have v0 := bt_nonneg (content f t zs (q + 1) q) k
          have tv : (bt (content f t zs (q + 1) q) k / 2 ^ t != 0) = false := shift_none _ _ t ebt (outJ_lt f t zs k)
          have v1 : bt (content f t zs (q + 1) q) k ≤ 255 := by
            have h1 := outJ_lt f t zs k
            have h2 : 2 ^ t ≤ 2 ^ 8 := Nat.pow_le_pow_right (by decide) ht8
            omega
          have Hebt := hidden ebt
          clear ebt
          go_wp2_with fail
          go_roundw
          case rel => exact ⟨k + 1, by omega, by go_num, R0.other _ _ (by show _ ≠ w3.heap.size; omega), R1.other _ _ (by show _ ≠ w3.heap.size; omega), by rw [← content_set]; exact R2.setV k _ _ Hebt.out, RB.setCell (by show _ ≤ w3.heap.size; omega) _⟩
          case measure => simp [intOf]; omega
        · obtain rfl : q = k := by omega
          by_cases hr0 : 0 < r
          · have HV := hidden (pad_val f t zs r hr ht8)
            have Hl : Hid ((pads f t zs q r).length = q + 1) := by show _ = _; rw [pads_length, if_pos hr0]
            go_wp2_with (at_builtin; go_must (refine wpList_append_byte rfl (.tmp 129) (.tmp 137) rfl w3.heap.size q (q + 1) rfl ⟨wr.heap.size, 0, none⟩ rfl _ (restR f zs r * 2 ^ (t - r)) HV.out (by simp) (content f t zs (q + 1) q) (R2.alloc _) (by rw [content_length]; omega) (by omega) w3.heap.size wr ((Below.refl _ _).alloc (Nat.le_of_lt R2.lt) _) (Nat.le_refl _) ?_; intro w5 hr5 hb5))
            have S0 : Row w5 w.heap.size zs := R0.below hb5 (by omega)
            have S2 : Row w5 w3.heap.size (pads f t zs q r) := by rw [← pads_content f t zs q r hr0]; exact hr5
            have SC : Hid (∀ j, j < q + 1 → w5.cell? ⟨w3.heap.size, j, none⟩ = some (.int .u8 (bt (pads f t zs q r) j))) := fun j hj => S2.cell j (by rw [Hl.out]; exact hj)
            have SL := S2.lt
            have SB : Below w.heap.size w w5 := RB.trans (hb5.mono (by omega))
            clear R0 R1 R2 RB hr5 hb5 S2 HV
            obtain ⟨q2, r2, hq2, hr2'⟩ : ∃ q2 r2, q2 * f + r2 = (q + 1) * t ∧ r2 < f := ⟨(q + 1) * t / f, (q + 1) * t % f, by rw [Nat.mul_comm]; exact Nat.div_add_mod _ _, Nat.mod_lt _ (by omega)⟩
            obtain ⟨p1, p2, p3, p4, p5, p6⟩ := out_tests (q + 1) t f q2 r2 (by omega) ht8 hf1 hq2
            have hq2' : q2 * f + r2 = (pads f t zs q r).length * t := by rw [Hl.out]; exact hq2
            have hqq : q * t + r = zs.length * f := by rw [Hz.out]; exact Hq.out
            obtain ⟨c1, c2⟩ := back_count f t zs q r q2 r2 hqq hr hq2' hr2'
            rw [Hz.out] at c1
            have e1 : decide (((q : Int) + 1) * 8 < (q2 : Int)) = false := by rw [decide_eq_false_iff_not]; omega
            have e2 : (((restR t (pads f t zs q r) r2 : Nat) : Int) != 0) = false := by unfold restR; rw [back_rest f t zs q r q2 r2 Hbf.out hqq hr hq2' hr2']; rfl
            have e3 : decide ((q2 : Int) < (n : Int)) = false := by rw [decide_eq_false_iff_not]; omega
            have Hval := hidden (fun k hk => back_val f t zs q r k Hbf.out hqq hr hk)
            have Hzero := hidden (fun k hk hk2 => back_zero f t zs q r q2 r2 k Hbf.out hqq hr hq2' hk hk2)
            refine (zzregroup_qr (some ⟨w3.heap.size, 0, none⟩) w3.heap.size (q + 1) (q + 1) (pads f t zs q r) t f q2 r2 _ hq2 hr2' (.inl rfl) Hl.out (pads_256 f t zs q r hr ht8) (pads_lt f t zs q r hr) (by omega) ht1 ht8 hf1 hf8 (fun _ => SL) SC.out).mono ?_
            rintro e w6 ⟨rfl, hr6, hb6⟩
            have T0 : Row w6 w.heap.size zs := S0.below hb6 (by have := S0.lt; omega)
            have TB : Below w.heap.size w w6 := SB.trans (hb6.mono SB.size)
            clear S0 SB hb6 hq2 hq2' hqq SC SL c2
            try simp only [Int.natCast_add, Int.natCast_one] at p4 p5 p6
            go_wp2_with fail
            go_loopw [17] (fun i ws => ∃ k : Nat, k ≤ q2 ∧ i = .int .i64 k ∧ Row ws w.heap.size zs ∧ Row ws w5.heap.size (content t f (pads f t zs q r) (q2 + 1) q2) ∧ Below w.heap.size w ws) (fun i _ => q2 - (intOf i).toNat)
            case atStart => exact ⟨0, Nat.zero_le _, rfl, T0, hr6, TB⟩
            case round =>
              clear T0 hr6 TB
              rename_i wq
              obtain ⟨k, hk, rfl, T0, T3, TB⟩ := hrel
              by_cases hlt : k < q2
              · have hc3 := T3.cell k (by rw [content_length]; omega)
                have ebt : bt (content t f (pads f t zs q r) (q2 + 1) q2) k = ((outJ t f (pads f t zs q r) k : Nat) : Int) := by unfold bt; rw [content_getD _ _ _ (q2 + 1) q2 k hlt (by omega)]
                by_cases hkn : k < n
                · have hc0 := T0.cell k (by rw [Hz.out]; exact hkn)
                  have tv : (bt (content t f (pads f t zs q r) (q2 + 1) q2) k != bt zs k) = false := by
                    rw [ebt, Hval.out k (by rw [Hz.out]; exact hkn)]
                    unfold bt
                    simp
                  clear ebt
                  go_wp2_with fail
                  go_region
                  all_goals
                    go_wp2_with fail
                    go_roundw
                    case rel => exact ⟨k + 1, by omega, by go_num, T0.drew, T3.drew, TB.drew⟩
                    case measure => simp [intOf]; omega
                · have tv : (bt (content t f (pads f t zs q r) (q2 + 1) q2) k != 0) = false := by
                    rw [ebt, Hzero.out k (by rw [Hz.out]; omega) hlt]
                    rfl
                  clear ebt
                  go_wp2_with fail
                  go_roundw
                  case rel => exact ⟨k + 1, by omega, by go_num, T0, T3, TB⟩
                  case measure => simp [intOf]; omega
              · go_wp2_with fail
                go_ret
                exact ⟨rfl, TB⟩
          · have Hl : Hid ((pads f t zs q r).length = q) := by show _ = _; rw [pads_length, if_neg hr0]; omega
            have SC : Hid (∀ j, j < q → wr.cell? ⟨w3.heap.size, j, none⟩ = some (.int .u8 (bt (pads f t zs q r) j))) := fun j hj => by rw [← pads_bt f t zs q r j hj]; exact R2.cell j (by rw [content_length]; omega)
            have S0 := R0
            have SL := R2.lt
            have SB := RB
            clear R0 R1 R2 RB
            go_wp2_with fail
            obtain ⟨q2, r2, hq2, hr2'⟩ : ∃ q2 r2, q2 * f + r2 = q * t ∧ r2 < f := ⟨q * t / f, q * t % f, by rw [Nat.mul_comm]; exact Nat.div_add_mod _ _, Nat.mod_lt _ (by omega)⟩
            obtain ⟨p1, p2, p3, p4, p5, p6⟩ := out_tests q t f q2 r2 (by omega) ht8 hf1 hq2
            have hq2' : q2 * f + r2 = (pads f t zs q r).length * t := by rw [Hl.out]; exact hq2
            have hqq : q * t + r = zs.length * f := by rw [Hz.out]; exact Hq.out
            obtain ⟨c1, c2⟩ := back_count f t zs q r q2 r2 hqq hr hq2' hr2'
            rw [Hz.out] at c1
            have e1 : decide ((q : Int) * 8 < (q2 : Int)) = false := by rw [decide_eq_false_iff_not]; omega
            have e2 : (((restR t (pads f t zs q r) r2 : Nat) : Int) != 0) = false := by unfold restR; rw [back_rest f t zs q r q2 r2 Hbf.out hqq hr hq2' hr2']; rfl
            have e3 : decide ((q2 : Int) < (n : Int)) = false := by rw [decide_eq_false_iff_not]; omega
            have Hval := hidden (fun k hk => back_val f t zs q r k Hbf.out hqq hr hk)
            have Hzero := hidden (fun k hk hk2 => back_zero f t zs q r q2 r2 k Hbf.out hqq hr hq2' hk hk2)
            refine (zzregroup_qr (some ⟨w3.heap.size, 0, none⟩) w3.heap.size q (q + 1) (pads f t zs q r) t f q2 r2 _ hq2 hr2' (.inl rfl) Hl.out (pads_256 f t zs q r hr ht8) (pads_lt f t zs q r hr) (by omega) ht1 ht8 hf1 hf8 (fun _ => SL) SC.out).mono ?_
            rintro e w6 ⟨rfl, hr6, hb6⟩
            have T0 : Row w6 w.heap.size zs := S0.below hb6 (by have := S0.lt; omega)
            have TB : Below w.heap.size w w6 := SB.trans (hb6.mono SB.size)
            clear S0 SB hb6 hq2 hq2' hqq SC SL c2
            try simp only [Int.natCast_add, Int.natCast_one] at p4 p5 p6
            go_wp2_with fail
            go_loopw [17] (fun i ws => ∃ k : Nat, k ≤ q2 ∧ i = .int .i64 k ∧ Row ws w.heap.size zs ∧ Row ws wr.heap.size (content t f (pads f t zs q r) (q2 + 1) q2) ∧ Below w.heap.size w ws) (fun i _ => q2 - (intOf i).toNat)
            case atStart => exact ⟨0, Nat.zero_le _, rfl, T0, hr6, TB⟩
            case round =>
              clear T0 hr6 TB
              rename_i wq
              obtain ⟨k, hk, rfl, T0, T3, TB⟩ := hrel
              by_cases hlt : k < q2
              · have hc3 := T3.cell k (by rw [content_length]; omega)
                have ebt : bt (content t f (pads f t zs q r) (q2 + 1) q2) k = ((outJ t f (pads f t zs q r) k : Nat) : Int) := by unfold bt; rw [content_getD _ _ _ (q2 + 1) q2 k hlt (by omega)]
                by_cases hkn : k < n
                · have hc0 := T0.cell k (by rw [Hz.out]; exact hkn)
                  have tv : (bt (content t f (pads f t zs q r) (q2 + 1) q2) k != bt zs k) = false := by
                    rw [ebt, Hval.out k (by rw [Hz.out]; exact hkn)]
                    unfold bt
                    simp
                  clear ebt
                  go_wp2_with fail
                  go_region
                  all_goals
                    go_wp2_with fail
                    go_roundw
                    case rel => exact ⟨k + 1, by omega, by go_num, T0.drew, T3.drew, TB.drew⟩
                    case measure => simp [intOf]; omega
                · have tv : (bt (content t f (pads f t zs q r) (q2 + 1) q2) k != 0) = false := by
                    rw [ebt, Hzero.out k (by rw [Hz.out]; omega) hlt]
                    rfl
                  clear ebt
                  go_wp2_with fail
                  go_roundw
                  case rel => exact ⟨k + 1, by omega, by go_num, T0, T3, TB⟩
                  case measure => simp [intOf]; omega
              · go_wp2_with fail
                go_ret
                exact ⟨rfl, TB⟩

set_option maxRecDepth 100000 in
set_option maxHeartbeats 1000000 in
theorem back_long (p : Option Addr) (n c : Nat) (f t : Int) (w : World) (hn : 1048576 < n) :
    Calls Try.prog 8 #[.slice p n c, .int .i64 f, .int .i64 t] w fun e w' => e = .returned (.bool true) ∧ Below w.heap.size w w' := by
  go_enter Try.func8, Try.ntmps8
  go_wp2_with (go_at_call 19; refine (bytes19_no _ _ _ _ _ _ hn).mono ?_; rintro e w' ⟨rfl, rfl⟩)
  go_ret
  exact ⟨rfl, Below.refl _ _⟩

set_option maxRecDepth 100000 in
set_option maxHeartbeats 1000000 in
theorem back_out (p : Option Addr) (n c : Nat) (f t : Int) (w : World) (hn : n ≤ 1048576) (h : f < 1 ∨ 8 < f ∨ t < 1 ∨ 8 < t) :
    Calls Try.prog 8 #[.slice p n c, .int .i64 f, .int .i64 t] w fun e w' => e = .returned (.bool true) ∧ Below w.heap.size w w' := by
  have d1 : decide ((1048576 : Int) < (n : Int)) = false := by simp; omega
  by_cases h1 : f < 1
  · go_enter Try.func8, Try.ntmps8
    go_wp2_with (go_at_call 19; refine (bytes19_yes _ _ _ _ _ _ hn).mono ?_; rintro e w' ⟨rfl, rfl⟩)
    go_ret
    exact ⟨rfl, Below.refl _ _⟩
  · by_cases h2 : 8 < f
    · go_enter Try.func8, Try.ntmps8
      go_wp2_with (go_at_call 19; refine (bytes19_yes _ _ _ _ _ _ hn).mono ?_; rintro e w' ⟨rfl, rfl⟩)
      go_ret
      exact ⟨rfl, Below.refl _ _⟩
    · by_cases h3 : t < 1
      · go_enter Try.func8, Try.ntmps8
        go_wp2_with (go_at_call 19; refine (bytes19_yes _ _ _ _ _ _ hn).mono ?_; rintro e w' ⟨rfl, rfl⟩)
        go_ret
        exact ⟨rfl, Below.refl _ _⟩
      · have h4 : 8 < t := by omega
        go_enter Try.func8, Try.ntmps8
        go_wp2_with (go_at_call 19; refine (bytes19_yes _ _ _ _ _ _ hn).mono ?_; rintro e w' ⟨rfl, rfl⟩)
        go_ret
        exact ⟨rfl, Below.refl _ _⟩

set_option maxRecDepth 100000 in
set_option maxHeartbeats 1000000 in
theorem back_nil (c : Nat) (f t : Nat) (w : World) (hf1 : 1 ≤ f) (hf8 : f ≤ 8) (ht1 : 1 ≤ t) (ht8 : t ≤ 8) :
    Calls Try.prog 8 #[.slice none 0 c, .int .i64 f, .int .i64 t] w fun e w' => e = .returned (.bool true) ∧ Below w.heap.size w w' := by
  have hne := fun wx => run_neq_slice_nil_any (P := Try.prog) wx 22 5 none 0 c 0 0 Try.underlying22
  have hn : 0 ≤ 1048576 := by decide
  have Hc2 : Hid (∀ (g : Nat) (wx : World), g < wx.heap.size → Calls Try.prog 16 #[.slice (some ⟨g, 0, none⟩) 0 1, .int .i64 t, .int .i64 f] wx fun e w' => e = .returned (.tuple #[.slice (some ⟨wx.heap.size, 0, none⟩) 0 1, .int .u32 0, .int .i64 0]) ∧ Row w' wx.heap.size (List.replicate 1 0) ∧ Below wx.heap.size wx w') := by
    intro g wx hg
    have h := zzregroup_some g 0 1 [] t f wx rfl (by simp) (by simp) (by omega) ht1 ht8 hf1 hf8 (by simp) (by simp)
    have hR : regroupV wx 0 [] t f = Value.tuple #[.slice (some ⟨wx.heap.size, 0, none⟩) 0 1, .int .u32 0, .int .i64 0] := by simp [regroupV, num]
    have e : content t f [] (0 * t / f + 1) (0 * t / f) = List.replicate 1 0 := by simp [content]
    rw [hR, e] at h
    exact h
  go_enter Try.func8, Try.ntmps8
  go_wp2_with (go_at_call 19; refine (bytes19_yes _ _ _ _ _ _ hn).mono ?_; rintro e w' ⟨rfl, rfl⟩)
  refine wp_loop_rounds 1 ?_
  rw [rounds_succ]
  go_wp2_with (first
    | (go_at_call 16; refine (zzregroup_nil c f t _ ht1 ht8).mono ?_; rintro e w3 ⟨rfl, hr3, hb3⟩)
    | (at_make; go_must (refine wpList_make_row rfl _ _ rfl _ _ 0 1 rfl rfl rfl (by simp) (by omega) (by omega) ?_; intro w4 hr4 hb4)))
  refine wp_loop_rounds 1 ?_
  rw [rounds_succ]
  go_wp2_with fail
  refine (Hc2.out _ _ hr4.lt).mono ?_
  rintro e w5 ⟨rfl, hr5, hb5⟩
  go_wp2_with fail
  refine wp_loop_rounds 1 ?_
  rw [rounds_succ]
  go_wp2_with fail
  go_ret
  exact ⟨rfl, (hb3.trans (hb4.mono hb3.size)).trans (hb5.mono (Nat.le_trans hb3.size hb4.size))⟩
end Go.Proofs.Qxb6619359a
