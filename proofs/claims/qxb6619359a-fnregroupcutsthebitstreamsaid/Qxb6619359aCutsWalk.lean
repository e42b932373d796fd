/-
  THE WALK OF 'FnRegroupCutsTheBitStream' (function 6) AND OF 'streamBit' (function 17).
-/
import Derived.Test.Qxb6619359aRegroup
import Derived.Test.Qxb6619359aFront
import Derived.Test.Qxb6619359aPlainC
import Derived.BigRegion
namespace Go.Proofs.Qxb6619359a
open Go.RowKit

theorem ret_int {k : IntKind} {a b : Int} (h : a = b) : Ending.returned (.int k a) = .returned (.int k b) := by rw [h]

set_option maxHeartbeats 1000000 in
theorem stream_ab (g n c : Nat) (zs : List Nat) (f a b : Nat) (K : Int) (w : World) (hK0 : 0 ≤ K) (hK1 : K ≤ 8388608) (ha : K / (f : Int) = (a : Int)) (hb' : K % (f : Int) = (b : Int)) (han : a < n) (hbf : b < f) (hf8 : f ≤ 8)
    (hz : zs.length = n) (hb : ∀ z ∈ zs, z < 256) (hz2 : ∀ z ∈ zs, z < 2 ^ f) (hrow : Row w g zs) :
    Calls Try.prog 17 #[.slice (some ⟨g, 0, none⟩) n c, .int .i64 f, .int .i64 K] w fun e w' => e = .returned (.int .u8 ((bitK f zs (a * f + b) : Nat) : Int)) ∧ w' = w.drew := by
  have hc := hrow.cell a (by omega)
  have v0 := bt_nonneg zs a
  have v1 := bt_le zs hb a
  have Hv := hidden (bit_val f zs a b hz2 hb (by omega) hbf)
  clear hz hb hz2 hrow
  go_enter Try.func17, Try.ntmps17
  go_wp2_with fail
  go_region
  all_goals
    go_wp2_with fail
    go_ret
    exact ⟨ret_int Hv.out, rfl⟩

theorem stream_bit (g n c : Nat) (zs : List Nat) (f k : Nat) (K : Int) (w : World) (hK : K = (k : Int)) (hk : k < n * f) (hf1 : 1 ≤ f) (hf8 : f ≤ 8) (hn : n ≤ 1048576)
    (hz : zs.length = n) (hb : ∀ z ∈ zs, z < 256) (hz2 : ∀ z ∈ zs, z < 2 ^ f) (hrow : Row w g zs) :
    Calls Try.prog 17 #[.slice (some ⟨g, 0, none⟩) n c, .int .i64 f, .int .i64 K] w fun e w' => e = .returned (.int .u8 ((bitK f zs k : Nat) : Int)) ∧ w' = w.drew := by
  have h1 : n * f ≤ n * 8 := Nat.mul_le_mul_left n hf8
  have h := stream_ab g n c zs f (k / f) (k % f) K w (by omega) (by omega) (by rw [hK]; rfl) (by rw [hK]; rfl) (Nat.div_lt_of_lt_mul (by rw [Nat.mul_comm]; exact hk)) (Nat.mod_lt _ (by omega)) hf8 hz hb hz2 hrow
  have e : k / f * f + k % f = k := by rw [Nat.mul_comm]; exact Nat.div_add_mod k f
  rw [e] at h
  exact h

theorem bytes15_yes (p : Option Addr) (n c : Nat) (f t : Int) (w : World) (h : n ≤ 1048576) : Calls Try.prog 15 #[.slice p n c, .int .i64 f, .int .i64 t] w fun e w' => e = .returned (.bool true) ∧ w = w' := by
  go_enter Try.func15, Try.ntmps15
  go_wp2
  go_ret
  exact ⟨rfl, rfl⟩

theorem bytes15_no (p : Option Addr) (n c : Nat) (f t : Int) (w : World) (h : 1048576 < n) : Calls Try.prog 15 #[.slice p n c, .int .i64 f, .int .i64 t] w fun e w' => e = .returned (.bool false) ∧ w = w' := by
  go_enter Try.func15, Try.ntmps15
  go_wp2
  go_ret
  exact ⟨rfl, rfl⟩

set_option maxRecDepth 100000 in
set_option maxHeartbeats 2000000 in
theorem cuts_some (x : Addr) (n c : Nat) (zs : List Nat) (f t : Nat) (w : World) (hz : zs.length = n) (hb : ∀ z ∈ zs, z < 256)
    (hn : n ≤ 1048576) (hf1 : 1 ≤ f) (hf8 : f ≤ 8) (ht1 : 1 ≤ t) (ht8 : t ≤ 8) (hsrc : ∀ k, k < n → w.cell? (x.add k) = some (.int .u8 (bt zs k))) :
    Calls Try.prog 6 #[.slice (some x) n c, .int .i64 f, .int .i64 t] w fun e w' => e = .returned (.bool true) ∧ Below w.heap.size w w' := by
  have hne := fun wx => run_neq_slice_nil_any (P := Try.prog) wx 22 5 (some x) n c 0 0 Try.underlying22
  have Hz := hidden hz
  have Hb := hidden hb
  have Hsrc := hidden hsrc
  have d1 : decide ((1048576 : Int) < (n : Int)) = false := by simp; omega
  have d2 : decide ((f : Int) < 1) = false := by simp; omega
  have d3 : decide ((8 : Int) < (f : Int)) = false := by simp; omega
  have d4 : decide ((t : Int) < 1) = false := by simp; omega
  have d5 : decide ((8 : Int) < (t : Int)) = false := by simp; omega
  clear hz hb hsrc
  go_enter Try.func6, Try.ntmps6
  go_wp2_with (first
    | (go_at_call 15; refine (bytes15_yes _ _ _ _ _ _ hn).mono ?_; rintro e w' ⟨rfl, rfl⟩)
    | (at_make; go_must (refine wpList_make_row rfl _ _ rfl _ _ n n rfl rfl rfl rfl (Nat.le_refl _) (by omega) ?_; intro w1 hr1 hb1))
    | (have _t := hr1; refine wpList_copy_row rfl (.tmp 46) (.tmp 47) rfl w.heap.size n n c x rfl rfl (List.replicate n 0) zs hr1 (by simp) Hz.out (src_later hb1 Hsrc.out) w.heap.size w hb1 (Nat.le_refl _) ?_; intro w2 hr2 hb2; clear hr1 hb1))
  go_loop [8] (fun i => ∃ k : Nat, k ≤ n ∧ i = .int .i64 k ∧ Hid (∀ j, j < k → zs.getD j 0 < 2 ^ f)) (fun i => n - (intOf i).toNat)
  case atStart => exact ⟨0, Nat.zero_le _, rfl, fun j hj => absurd hj (Nat.not_lt_zero _)⟩
  case round =>
    obtain ⟨k, hk, rfl, Hlow⟩ := hrel
    by_cases hlt : k < n
    · have hcell : w2.cell? ⟨w.heap.size, k, none⟩ = some (.int .u8 (bt zs k)) := hr2.cell k (by rw [Hz.out]; exact hlt)
      have v0 := bt_nonneg zs k
      have v1 := bt_le zs Hb.out k
      by_cases hv : zs.getD k 0 < 2 ^ f
      · have tv : (bt zs k / 2 ^ f != 0) = false := shift_none _ _ f rfl hv
        have Hnext : Hid (∀ j, j < k + 1 → zs.getD j 0 < 2 ^ f) := by
          intro j hj
          rcases Nat.lt_or_ge j k with h | h
          · exact Hlow.out j h
          · obtain rfl : j = k := by omega
            exact hv
        have Hv := hidden hv
        clear hv
        go_wp2_with fail
        go_round
        case rel => exact ⟨k + 1, by omega, by go_num, Hnext⟩
        case measure => simp [intOf]; omega
      · have tv : (bt zs k / 2 ^ f != 0) = true := shift_some _ _ f rfl hv
        clear hv
        go_wp2_with fail
        go_ret
        exact ⟨rfl, hb2⟩
    · have hbf : ∀ z ∈ zs, z < 2 ^ f := all_low f zs n Hz.out (fun j hj => Hlow.out j (by omega))
      have Hbf := hidden hbf
      clear hbf Hlow
      obtain ⟨q, r, hq, hr⟩ : ∃ q r, q * t + r = n * f ∧ r < t := ⟨n * f / t, n * f % t, by rw [Nat.mul_comm]; exact Nat.div_add_mod _ _, Nat.mod_lt _ (by omega)⟩
      obtain ⟨o1, o2, o3, o4, o5, o6⟩ := out_tests n f t q r (by omega) hf8 ht1 hq
      have hqv := quo_val n f t q r hq hr
      have Hqi : Hid ((q : Int) * t + r = (n : Int) * f) := by
        have := bne_eq_false_iff_eq.1 o6
        exact this
      have i1 : (q : Int) * t + r ≤ (n : Int) * f := Int.le_of_eq Hqi.out
      have i2 : (n : Int) * f ≤ (q : Int) * t + r := Int.le_of_eq Hqi.out.symm
      have t1 : ((q : Int) != (q : Int)) = false := by simp
      have t2 : ((r : Int) != (n : Int) * f - (q : Int) * t) = false := by rw [bne_eq_false_iff_eq]; omega
      have Hc1 := hidden (zzregroup_qr (some ⟨w.heap.size, 0, none⟩) w.heap.size n n zs f t q r w2 hq hr (.inl rfl) Hz.out Hb.out Hbf.out (by omega) hf1 hf8 ht1 ht8 (fun _ => hr2.lt) (fun k hk => hr2.cell k (by rw [Hz.out]; exact hk)))
      have Hq := hidden hq
      clear hq o6
      go_wp2_with (go_at_call 16; refine (Hc1.out).mono ?_; rintro e w3 ⟨rfl, hr3, hb3⟩)
      rw [hqv]
      clear hqv
      have R0 : Row w3 w.heap.size zs := hr2.below hb3 hr2.lt
      have RB : Below w.heap.size w w3 := hb2.trans (hb3.mono hb2.size)
      have R1 := hr3
      clear hr2 hb2 hr3 hb3 Hc1
      go_loopw [14] (fun i ws => ∃ j : Nat, j ≤ q ∧ i = .int .i64 j ∧ Row ws w.heap.size zs ∧ Row ws w2.heap.size (content f t zs (q + 1) q) ∧ Below w.heap.size w ws) (fun i _ => q - (intOf i).toNat)
      case atStart => exact ⟨0, Nat.zero_le _, rfl, R0, R1, RB⟩
      case round =>
        clear R0 R1 RB
        obtain ⟨j, hj, rfl, R0, R1, RB⟩ := hrel
        by_cases hjq : j < q
        · have hjt : (j + 1) * t ≤ q * t := Nat.mul_le_mul_right t (by omega)
          have Hjt : Hid (j * t + t ≤ n * f) := by
            have := Hq.out
            show _ ≤ _
            rw [Nat.succ_mul] at hjt
            omega
          clear hjt
          have j0 : (0 : Int) ≤ (j : Int) * t := by rw [← Int.natCast_mul]; exact Int.natCast_nonneg _
          have j1 : (j : Int) * t ≤ 67108872 := by
            have h1 := Hjt.out
            have e1 : (j : Int) * t = ((j * t : Nat) : Int) := by simp
            have e2 : (n : Int) * f = ((n * f : Nat) : Int) := by simp
            omega
          go_wp2_with fail
          go_loopw [15, 16] (fun wv bv ws => ∃ b : Nat, b ≤ t ∧ bv = .int .i64 b ∧ wv = .int .u8 ((win f zs (j * t) b : Nat) : Int) ∧ Row ws w.heap.size zs ∧ Row ws w2.heap.size (content f t zs (q + 1) q) ∧ Below w.heap.size w ws) (fun _ bv _ => t - (intOf bv).toNat)
          case atStart => exact ⟨0, Nat.zero_le _, rfl, by rw [win_zero]; rfl, R0, R1, RB⟩
          case round =>
            clear R0 R1 RB
            obtain ⟨b, hb, rfl, rfl, R0, R1, RB⟩ := hrel
            by_cases hbt : b < t
            · have hpos : j * t + b < n * f := by have := Hjt.out; omega
              have Hw := hidden (win_u8 f zs (j * t) b (by rw [Hz.out]; exact hpos) (by omega))
              have Hcall := hidden (stream_bit w.heap.size n n zs f (j * t + b) ((j : Int) * t + b) _ (by simp) hpos hf1 hf8 hn Hz.out Hb.out Hbf.out R0)
              have w0 := win_lt f zs (j * t) b
              clear hpos
              go_wp2_with (go_at_call 17; refine (Hcall.out).mono ?_; rintro e w' ⟨rfl, rfl⟩)
              go_roundw
              case rel => exact ⟨b + 1, by omega, by go_num, congrArg (Value.int IntKind.u8) Hw.out, R0.drew, R1.drew, RB.drew⟩
              case measure => simp [intOf]; omega
            · obtain rfl : t = b := by omega
              have hc := R1.cell j (by rw [content_length]; omega)
              have tv : (bt (content f t zs (q + 1) q) j != ((win f zs (j * t) t : Nat) : Int)) = false := by
                unfold bt
                rw [win_out, content_getD f t zs (q + 1) q j hjq (by omega)]
                simp
              go_wp2_with fail
              go_roundw
              case rel => exact ⟨j + 1, by omega, by go_num, R0, R1, RB⟩
              case measure => simp [intOf]; omega
        · obtain rfl : q = j := by omega
          have Hend : Hid (∀ b : Nat, ¬ b < r → b ≤ r → (((restR f zs r : Nat) : Int) == ((win f zs (q * t) b : Nat) : Int)) = true) := by
            intro b h1 h2
            obtain rfl : r = b := by omega
            rw [win_rest f zs (q * t) r (by rw [Hz.out]; exact Hq.out)]
            simp
          go_wp2_with fail
          go_loopw [17, 18] (fun tv kv ws => ∃ b : Nat, b ≤ r ∧ kv = .int .i64 ((q : Int) * t + b) ∧ tv = .int .u32 ((win f zs (q * t) b : Nat) : Int) ∧ Row ws w.heap.size zs ∧ Below w.heap.size w ws) (fun _ kv _ => ((n : Int) * f - intOf kv).toNat)
          case atStart => exact ⟨0, Nat.zero_le _, by simp, by rw [win_zero]; rfl, R0, RB⟩
          case round =>
            clear R0 R1 RB
            obtain ⟨b, hb, rfl, rfl, R0, RB⟩ := hrel
            by_cases hbr : b < r
            · have hpos : q * t + b < n * f := by have := Hq.out; omega
              have Hw := hidden (win_u32 f zs (q * t) b (by rw [Hz.out]; exact hpos) (by omega))
              have Hcall := hidden (stream_bit w.heap.size n n zs f (q * t + b) ((q : Int) * t + b) _ (by simp) hpos hf1 hf8 hn Hz.out Hb.out Hbf.out R0)
              have h3 := bitK_lt f zs (q * t + b)
              clear hpos
              go_wp2_with (go_at_call 17; refine (Hcall.out).mono ?_; rintro e w' ⟨rfl, rfl⟩)
              go_roundw
              case rel => exact ⟨b + 1, by omega, by simp; omega, congrArg (Value.int IntKind.u32) Hw.out, R0.drew, RB.drew⟩
              case measure => simp [intOf]; omega
            · have tv := Hend.out b hbr hb
              go_wp2_with fail
              go_ret
              exact ⟨rfl, RB⟩

set_option maxRecDepth 100000 in
set_option maxHeartbeats 1000000 in
theorem cuts_long (p : Option Addr) (n c : Nat) (f t : Int) (w : World) (hn : 1048576 < n) :
    Calls Try.prog 6 #[.slice p n c, .int .i64 f, .int .i64 t] w fun e w' => e = .returned (.bool true) ∧ Below w.heap.size w w' := by
  go_enter Try.func6, Try.ntmps6
  go_wp2_with (go_at_call 15; refine (bytes15_no _ _ _ _ _ _ hn).mono ?_; rintro e w' ⟨rfl, rfl⟩)
  go_ret
  exact ⟨rfl, Below.refl _ _⟩

set_option maxRecDepth 100000 in
set_option maxHeartbeats 1000000 in
theorem cuts_out (p : Option Addr) (n c : Nat) (f t : Int) (w : World) (hn : n ≤ 1048576) (h : f < 1 ∨ 8 < f ∨ t < 1 ∨ 8 < t) :
    Calls Try.prog 6 #[.slice p n c, .int .i64 f, .int .i64 t] w fun e w' => e = .returned (.bool true) ∧ Below w.heap.size w w' := by
  have d1 : decide ((1048576 : Int) < (n : Int)) = false := by simp; omega
  by_cases h1 : f < 1
  · go_enter Try.func6, Try.ntmps6
    go_wp2_with (go_at_call 15; refine (bytes15_yes _ _ _ _ _ _ hn).mono ?_; rintro e w' ⟨rfl, rfl⟩)
    go_ret
    exact ⟨rfl, Below.refl _ _⟩
  · by_cases h2 : 8 < f
    · go_enter Try.func6, Try.ntmps6
      go_wp2_with (go_at_call 15; refine (bytes15_yes _ _ _ _ _ _ hn).mono ?_; rintro e w' ⟨rfl, rfl⟩)
      go_ret
      exact ⟨rfl, Below.refl _ _⟩
    · by_cases h3 : t < 1
      · go_enter Try.func6, Try.ntmps6
        go_wp2_with (go_at_call 15; refine (bytes15_yes _ _ _ _ _ _ hn).mono ?_; rintro e w' ⟨rfl, rfl⟩)
        go_ret
        exact ⟨rfl, Below.refl _ _⟩
      · have h4 : 8 < t := by omega
        go_enter Try.func6, Try.ntmps6
        go_wp2_with (go_at_call 15; refine (bytes15_yes _ _ _ _ _ _ hn).mono ?_; rintro e w' ⟨rfl, rfl⟩)
        go_ret
        exact ⟨rfl, Below.refl _ _⟩

set_option maxRecDepth 100000 in
set_option maxHeartbeats 1000000 in
theorem cuts_nil (c : Nat) (f t : Nat) (w : World) (hf1 : 1 ≤ f) (hf8 : f ≤ 8) (ht1 : 1 ≤ t) (ht8 : t ≤ 8) :
    Calls Try.prog 6 #[.slice none 0 c, .int .i64 f, .int .i64 t] w fun e w' => e = .returned (.bool true) ∧ Below w.heap.size w w' := by
  have hne := fun wx => run_neq_slice_nil_any (P := Try.prog) wx 22 5 none 0 c 0 0 Try.underlying22
  have hn : 0 ≤ 1048576 := by decide
  go_enter Try.func6, Try.ntmps6
  go_wp2_with (go_at_call 15; refine (bytes15_yes _ _ _ _ _ _ hn).mono ?_; rintro e w' ⟨rfl, rfl⟩)
  refine wp_loop_rounds 1 ?_
  rw [rounds_succ]
  go_wp2_with (go_at_call 16; refine (zzregroup_nil c f t _ ht1 ht8).mono ?_; rintro e w3 ⟨rfl, hr3, hb3⟩)
  refine wp_loop_rounds 1 ?_
  rw [rounds_succ]
  go_wp2_with fail
  refine wp_loop_rounds 1 ?_
  rw [rounds_succ]
  go_wp2_with fail
  go_ret
  exact ⟨rfl, hb3⟩
end Go.Proofs.Qxb6619359a
