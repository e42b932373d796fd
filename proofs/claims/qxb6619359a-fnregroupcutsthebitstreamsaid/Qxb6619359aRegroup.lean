/-
  THE WALK OF 'regroup' (function 25) AND OF 'ZZregroup' (function 16): one contract each, at every source (nil too).
-/
import Derived.Test.Qxb6619359aBase
import Derived.Deep.RegionLaw
import Derived.BigRegion
namespace Go.Proofs.Qxb6619359a
open Go.RowKit

theorem nf_bounds (n f t : Nat) (hn : n ≤ 8388609) (hf8 : f ≤ 8) : (0 : Int) ≤ (n : Int) * f ∧ (n : Int) * f ≤ 67108872 ∧ (0 : Int) ≤ (n : Int) * f / t ∧ (n : Int) * f / t ≤ 67108872 := by
  have h1 : n * f ≤ 8388609 * 8 := Nat.mul_le_mul hn hf8
  have h2 : n * f / t ≤ n * f := Nat.div_le_self _ _
  have e1 : (n : Int) * f = ((n * f : Nat) : Int) := by simp
  have e2 : (n : Int) * f / t = ((n * f / t : Nat) : Int) := by simp
  rw [e2, e1]
  exact ⟨Int.natCast_nonneg _, Int.ofNat_le.2 h1, Int.natCast_nonneg _, Int.ofNat_le.2 (Nat.le_trans h2 h1)⟩

theorem cap_bound (n f t : Nat) (hn : n ≤ 8388609) (hf8 : f ≤ 8) : n * f / t + 1 ≤ 281474976710656 := by
  have h1 : n * f ≤ 8388609 * 8 := Nat.mul_le_mul hn hf8
  have h2 : n * f / t ≤ n * f := Nat.div_le_self _ _
  omega

/-- What 'regroup' hands back. -/
def regroupV (w : World) (n : Nat) (zs : List Nat) (f t : Nat) : Value :=
  .tuple #[.slice (some ⟨w.heap.size, 0, none⟩) (n * f / t) (n * f / t + 1), .int .u32 ((num f zs % 2 ^ (n * f % t) : Nat) : Int), .int .i64 ((n * f % t : Nat) : Int)]

theorem end_val (w : World) (n : Nat) (zs : List Nat) (f t m r : Nat) (hz : zs.length = n) (hm : m * t + r = n * f) (hr : r < t) (ht : t ≤ 8) :
    Value.tuple #[.slice (some ⟨w.heap.size, 0, none⟩) m (n * f / t + 1), .int .u32 (bits BinOp.and IntKind.u32 ((accK f zs n : Nat) : Int) ((2 ^ r - 1) % 4294967296)), .int .i64 (r : Int)] = regroupV w n zs f t := by
  obtain ⟨e1, e2⟩ := count_end n f t m r hm hr
  rw [rest_step' f zs n r hz (by omega)]
  unfold regroupV
  rw [← e1, ← e2]

theorem end_row (w : World) (n : Nat) (zs : List Nat) (f t m r : Nat) (G : Nat) (hm : m * t + r = n * f) (hr : r < t) (h : Row w G (content f t zs (n * f / t + 1) m)) :
    Row w G (content f t zs (n * f / t + 1) (n * f / t)) := by
  rw [← (count_end n f t m r hm hr).1] at h ⊢
  exact h

set_option maxHeartbeats 2000000 in
theorem regroup_some (g n c : Nat) (zs : List Nat) (f t : Nat) (w : World) (hz : zs.length = n) (hb : ∀ z ∈ zs, z < 256) (hbf : ∀ z ∈ zs, z < 2 ^ f)
    (hn : n ≤ 8388609) (hf1 : 1 ≤ f) (hf8 : f ≤ 8) (ht1 : 1 ≤ t) (ht8 : t ≤ 8) (hg : 0 < n → g < w.heap.size) (hrow : ∀ k, k < n → w.cell? ⟨g, k, none⟩ = some (.int .u8 (bt zs k))) :
    Calls Try.prog 25 #[.slice (some ⟨g, 0, none⟩) n c, .int .i64 f, .int .i64 t] w fun e w' => e = .returned (regroupV w n zs f t) ∧ Row w' w.heap.size (content f t zs (n * f / t + 1) (n * f / t)) ∧ Below w.heap.size w w' := by
  obtain ⟨b1, b2, b3, b4⟩ := nf_bounds n f t hn hf8
  have Hz : Hid (zs.length = n) := hz
  have Hb : Hid (∀ z ∈ zs, z < 256) := hb
  have Hbf : Hid (∀ z ∈ zs, z < 2 ^ f) := hbf
  have Hrow : Hid (∀ k, k < n → w.cell? ⟨g, k, none⟩ = some (.int .u8 (bt zs k))) := hrow
  have Hg : Hid (0 < n → g < w.heap.size) := hg
  have Hfin := (show Hid (∀ m r : Nat, m * t + r = n * f → r < t → Value.tuple #[.slice (some ⟨w.heap.size, 0, none⟩) m (n * f / t + 1), .int .u32 (bits BinOp.and IntKind.u32 ((accK f zs n : Nat) : Int) ((2 ^ r - 1) % 4294967296)), .int .i64 (r : Int)] = regroupV w n zs f t) from fun m r h1 h2 => end_val w n zs f t m r hz h1 h2 ht8)
  generalize hR : regroupV w n zs f t = R at *
  clear hz hb hbf hrow hg hR
  · go_enter Try.func25, Try.ntmps25
    go_wp2_with (at_make; go_must (refine wpList_make_row rfl _ _ rfl _ _ 0 (n * f / t + 1) rfl rfl rfl (by simp) (Nat.zero_le _) (cap_bound n f t hn hf8) ?_; intro w1 hr1 hb1))
    go_loopw [6, 8, 9, 22] (fun out rb acc i wr => ∃ k m r : Nat, k ≤ n ∧ Hid (m * t + r = k * f) ∧ r < t ∧ i = .int .i64 k ∧ rb = .int .i64 r ∧ acc = .int .u32 (accK f zs k) ∧ out = .slice (some ⟨w.heap.size, 0, none⟩) m (n * f / t + 1) ∧ Row wr w.heap.size (content f t zs (n * f / t + 1) m) ∧ Below w.heap.size w wr)
      (fun _ _ _ i _ => n - (intOf i).toNat)
    case atStart => exact ⟨0, 0, 0, Nat.zero_le _, (show _ = _ by simp), by omega, rfl, rfl, by rw [accK_zero]; rfl, rfl, by rw [content_zero]; exact hr1, hb1⟩
    case round =>
      clear hr1 hb1
      obtain ⟨k, m, r, hk, Hmr, hrt, rfl, rfl, rfl, rfl, hrw, hbw⟩ := hrel
      by_cases hlt : k < n
      · have hcell : wr.cell? ⟨g, k, none⟩ = some (.int .u8 (bt zs k)) := (hbw.cell (by exact Hg.out (by omega))).trans (Hrow.out k hlt)
        have v0 := bt_nonneg zs k
        have v1 := bt_le zs Hb.out k
        have Hacc := hidden (acc_step f zs k (by rw [Hz.out]; exact hlt) hf8 Hbf.out)
        go_wp2_with fail
        rw [Hacc.out]
        clear Hacc hcell v0 v1
        have H0 : Hid (m * t + (r + f) = (k + 1) * f) := by
          have := Hmr.out
          show _ = _
          rw [Nat.succ_mul]; omega
        go_loopw [6, 8] (fun out rb ws => ∃ m r : Nat, Hid (m * t + r = (k + 1) * f) ∧ r ≤ 15 ∧ rb = .int .i64 r ∧ out = .slice (some ⟨w.heap.size, 0, none⟩) m (n * f / t + 1) ∧ Row ws w.heap.size (content f t zs (n * f / t + 1) m) ∧ Below w.heap.size w ws)
          (fun _ rb _ => (intOf rb).toNat)
        case atStart => exact ⟨m, r + f, H0, by omega, by go_num, rfl, hrw, hbw⟩
        case round =>
          clear hrw hbw H0
          obtain ⟨m, r, Hm, hr, rfl, rfl, hrw, hbw⟩ := hrel
          by_cases hge : t ≤ r
          · have Hroom := (show Hid (m < n * f / t) from room_step n f t k m r hlt Hm.out hge ht1)
            have Hv := hidden (out_step f t zs k m r (by rw [Hz.out]; exact hlt) Hbf.out Hm.out hge hr ht8)
            have Hnext : Hid ((m + 1) * t + (r - t) = (k + 1) * f) := by
              have := Hm.out
              show _ = _
              rw [Nat.succ_mul]; omega
            go_wp2_with fail
            go_region_law (refine step_append_byte rfl (.tmp 41) (.tmp 50) rfl w.heap.size m (n * f / t + 1) rfl ⟨_, 0, none⟩ rfl _ (outJ f t zs m) Hv.out (by simp) (content f t zs (n * f / t + 1) m) ((hrw.alloc _).drew) (by rw [content_length]; exact Nat.lt_succ_of_lt Hroom.out) (Nat.succ_le_succ (Nat.le_of_lt Hroom.out)) w.heap.size w ((hbw.alloc hbw.size _).drew) (Nat.le_refl _) ?_; intro w4 hrw4 hbw4)
            go_wp2_with fail
            go_roundw
            case rel => exact ⟨_, _, _, _, _, _, _, _, _, _, _, _, _, _, _, _, _, _, _, ⟨m + 1, r - t, Hnext, by omega, by go_num, rfl, by rw [← content_set]; exact hrw4, hbw4⟩, rfl⟩
            case measure =>
              show (intOf (Value.int IntKind.i64 ((r : Int) - (t : Int)))).toNat < (intOf (Value.int IntKind.i64 (r : Int))).toNat
              simp [intOf]; omega
          · go_wp2_with fail
            go_roundw
            case rel => exact ⟨k + 1, m, r, by omega, Hm, by omega, by go_num, rfl, rfl, rfl, hrw, hbw⟩
            case measure => simp [intOf]; omega
      · have ek : k = n := by omega
        have Hf2 := hidden (Hfin.out m r (by rw [← ek]; exact Hmr.out) hrt)
        have Hrw2 := hidden (end_row wr n zs f t m r w.heap.size (by rw [← ek]; exact Hmr.out) hrt hrw)
        subst ek
        go_wp2_with fail
        go_region
        all_goals
          go_wp2_with fail
          go_ret3
          exact ⟨congrArg Ending.returned Hf2.out, Hrw2.out.drew, hbw.drew⟩
set_option maxHeartbeats 1000000 in
theorem regroup_nil (c f t : Nat) (w : World) (ht1 : 1 ≤ t) (ht8 : t ≤ 8) :
    Calls Try.prog 25 #[.slice none 0 c, .int .i64 f, .int .i64 t] w fun e w' => e = .returned (.tuple #[.slice (some ⟨w.heap.size, 0, none⟩) 0 1, .int .u32 0, .int .i64 0]) ∧ Row w' w.heap.size (List.replicate 1 0) ∧ Below w.heap.size w w' := by
  go_enter Try.func25, Try.ntmps25
  go_wp2_with (at_make; go_must (refine wpList_make_row rfl _ _ rfl _ _ 0 1 rfl rfl rfl (by simp) (by omega) (by omega) ?_; intro w1 hr1 hb1))
  refine wp_loop_rounds 1 ?_
  rw [rounds_succ]
  go_wp2_with fail
  go_region
  all_goals
    go_wp2_with fail
    go_ret3
    exact ⟨rfl, hr1.drew, hb1.drew⟩

/-- 'ZZregroup', at a row that lies in a block of the call's own. -/
theorem zzregroup_some (g n c : Nat) (zs : List Nat) (f t : Nat) (w : World) (hz : zs.length = n) (hb : ∀ z ∈ zs, z < 256) (hbf : ∀ z ∈ zs, z < 2 ^ f)
    (hn : n ≤ 8388609) (hf1 : 1 ≤ f) (hf8 : f ≤ 8) (ht1 : 1 ≤ t) (ht8 : t ≤ 8) (hg : 0 < n → g < w.heap.size) (hrow : ∀ k, k < n → w.cell? ⟨g, k, none⟩ = some (.int .u8 (bt zs k))) :
    Calls Try.prog 16 #[.slice (some ⟨g, 0, none⟩) n c, .int .i64 f, .int .i64 t] w fun e w' => e = .returned (regroupV w n zs f t) ∧ Row w' w.heap.size (content f t zs (n * f / t + 1) (n * f / t)) ∧ Below w.heap.size w w' := by
  have Hk := hidden (regroup_some g n c zs f t w hz hb hbf hn hf1 hf8 ht1 ht8 hg hrow)
  clear hz hb hbf hn hf1 hf8 ht1 ht8 hg hrow
  unfold regroupV at *
  go_enter Try.func16, Try.ntmps16
  go_wp2_with (go_at_call 25; refine (Hk.out).mono ?_; rintro e w1 ⟨rfl, hr1, hb1⟩)
  go_ret3
  exact ⟨rfl, hr1, hb1⟩

theorem zzregroup_nil (c f t : Nat) (w : World) (ht1 : 1 ≤ t) (ht8 : t ≤ 8) :
    Calls Try.prog 16 #[.slice none 0 c, .int .i64 f, .int .i64 t] w fun e w' => e = .returned (.tuple #[.slice (some ⟨w.heap.size, 0, none⟩) 0 1, .int .u32 0, .int .i64 0]) ∧ Row w' w.heap.size (List.replicate 1 0) ∧ Below w.heap.size w w' := by
  have Hk := hidden (regroup_nil c f t w ht1 ht8)
  clear ht1 ht8
  go_enter Try.func16, Try.ntmps16
  go_wp2_with (go_at_call 25; refine (Hk.out).mono ?_; rintro e w1 ⟨rfl, hr1, hb1⟩)
  go_ret3
  exact ⟨rfl, hr1, hb1⟩

/-- BOTH IN ONE: the source is a row of the call's own, or nil. -/
theorem zzregroup_any (p : Option Addr) (g n c : Nat) (zs : List Nat) (f t : Nat) (w : World) (hp : p = some ⟨g, 0, none⟩ ∨ p = none ∧ n = 0) (hz : zs.length = n) (hb : ∀ z ∈ zs, z < 256) (hbf : ∀ z ∈ zs, z < 2 ^ f)
    (hn : n ≤ 8388609) (hf1 : 1 ≤ f) (hf8 : f ≤ 8) (ht1 : 1 ≤ t) (ht8 : t ≤ 8) (hg : 0 < n → g < w.heap.size) (hrow : ∀ k, k < n → w.cell? ⟨g, k, none⟩ = some (.int .u8 (bt zs k))) :
    Calls Try.prog 16 #[.slice p n c, .int .i64 f, .int .i64 t] w fun e w' => e = .returned (regroupV w n zs f t) ∧ Row w' w.heap.size (content f t zs (n * f / t + 1) (n * f / t)) ∧ Below w.heap.size w w' := by
  rcases hp with rfl | ⟨rfl, rfl⟩
  · exact zzregroup_some g n c zs f t w hz hb hbf hn hf1 hf8 ht1 ht8 hg hrow
  · obtain rfl : zs = [] := List.eq_nil_of_length_eq_zero hz
    have hR : regroupV w 0 [] f t = Value.tuple #[.slice (some ⟨w.heap.size, 0, none⟩) 0 1, .int .u32 0, .int .i64 0] := by simp [regroupV, num]
    have e : content f t [] (0 * f / t + 1) (0 * f / t) = List.replicate 1 0 := by simp [content]
    rw [hR, e]
    exact zzregroup_nil c f t w ht1 ht8

/-- THE FORM THAT A CALLER USES: the count of whole digits and of the bits left over as plain numbers q and r. -/
theorem zzregroup_qr (p : Option Addr) (g n c : Nat) (zs : List Nat) (f t q r : Nat) (w : World) (hq : q * t + r = n * f) (hr : r < t) (hp : p = some ⟨g, 0, none⟩ ∨ p = none ∧ n = 0) (hz : zs.length = n) (hb : ∀ z ∈ zs, z < 256) (hbf : ∀ z ∈ zs, z < 2 ^ f)
    (hn : n ≤ 8388609) (hf1 : 1 ≤ f) (hf8 : f ≤ 8) (ht1 : 1 ≤ t) (ht8 : t ≤ 8) (hg : 0 < n → g < w.heap.size) (hrow : ∀ k, k < n → w.cell? ⟨g, k, none⟩ = some (.int .u8 (bt zs k))) :
    Calls Try.prog 16 #[.slice p n c, .int .i64 f, .int .i64 t] w fun e w' => e = .returned (.tuple #[.slice (some ⟨w.heap.size, 0, none⟩) q (q + 1), .int .u32 ((restR f zs r : Nat) : Int), .int .i64 (r : Int)]) ∧ Row w' w.heap.size (content f t zs (q + 1) q) ∧ Below w.heap.size w w' := by
  obtain ⟨e1, e2⟩ := count_end n f t q r hq hr
  have h := zzregroup_any p g n c zs f t w hp hz hb hbf hn hf1 hf8 ht1 ht8 hg hrow
  unfold regroupV at h
  unfold restR
  rw [← e1, ← e2] at h
  exact h

end Go.Proofs.Qxb6619359a
