/-
  THE WALKS OF 'coveredValue' (21) AND 'bchRemainder' (11).
-/
import Derived.Test.Qxb6619359aTimesWalk
import Derived.BigRegion
namespace Go.Proofs.Qxb6619359a
open Go.RowKit

theorem ret_u8 {a b : Int} (h : a = b) : Ending.returned (.int .u8 a) = .returned (.int .u8 b) := by rw [h]

theorem covers_length (hl : List Nat) : (covers hl).length = 2 * hl.length + 1 := by
  unfold covers; simp; omega

theorem cov_hi (hl ns : List Nat) (i : Nat) (h : i < hl.length) : (covers hl ++ ns).getD i 0 = hl.getD i 0 / 32 := by
  unfold covers
  rw [List.getD_eq_getElem?_getD, List.append_assoc, List.append_assoc, List.getElem?_append_left (by simpa using h)]
  simp [h]

theorem cov_mid (hl ns : List Nat) : (covers hl ++ ns).getD hl.length 0 = 0 := by
  unfold covers
  rw [List.getD_eq_getElem?_getD, List.append_assoc, List.append_assoc, List.getElem?_append_right (by simp)]
  simp

theorem cov_lo (hl ns : List Nat) (m : Nat) (h : m < hl.length) : (covers hl ++ ns).getD (hl.length + 1 + m) 0 = hl.getD m 0 % 32 := by
  unfold covers
  have e : hl.length + 1 + m = (hl.map (· / 32) ++ [0]).length + m := by simp
  rw [List.getD_eq_getElem?_getD, List.append_assoc, List.getElem?_append_right (by simp), e, Nat.add_sub_cancel_left, List.getElem?_append_left (by simpa using h)]
  simp [h]

theorem cov_dat (hl ns : List Nat) (m : Nat) : (covers hl ++ ns).getD (2 * hl.length + 1 + m) 0 = ns.getD m 0 := by
  rw [List.getD_eq_getElem?_getD, List.getElem?_append_right (by rw [covers_length]; omega), covers_length, Nat.add_sub_cancel_left, List.getD_eq_getElem?_getD]

set_option maxHeartbeats 1000000 in
theorem covered_hi (p : Option Addr) (s : ByteArray) (n c i : Nat) (ns : List Nat) (w : World) (hi : i < s.size) :
    Calls Try.prog 21 #[.string s, .slice p n c, .int .i64 (i : Int)] w fun e w' => e = .returned (.int .u8 (((covers (strBytes s) ++ ns).getD i 0 : Nat) : Int)) ∧ w = w' := by
  have Hv := hidden (cov_hi (strBytes s) ns i (by rw [strBytes_length]; exact hi))
  have Hg := hidden (strBytes_get s i hi)
  go_enter Try.func21, Try.ntmps21
  go_wp2_with fail
  go_ret
  exact ⟨ret_u8 (by rw [Hv.out, Hg.out]; omega), rfl⟩

set_option maxHeartbeats 1000000 in
theorem covered_mid (p : Option Addr) (s : ByteArray) (n c : Nat) (ns : List Nat) (w : World) :
    Calls Try.prog 21 #[.string s, .slice p n c, .int .i64 (s.size : Int)] w fun e w' => e = .returned (.int .u8 (((covers (strBytes s) ++ ns).getD s.size 0 : Nat) : Int)) ∧ w = w' := by
  have Hv := hidden (cov_mid (strBytes s) ns)
  have Hl := hidden (strBytes_length s)
  have t : ((s.size : Int) == (s.size : Int)) = true := by simp
  go_enter Try.func21, Try.ntmps21
  go_wp2_with fail
  go_ret
  exact ⟨ret_u8 (by rw [← Hl.out, Hv.out]; rfl), rfl⟩

set_option maxHeartbeats 1000000 in
theorem covered_lo (p : Option Addr) (s : ByteArray) (n c m : Nat) (ns : List Nat) (w : World) (hs : s.size ≤ 1048576) (hm : m < s.size) :
    Calls Try.prog 21 #[.string s, .slice p n c, .int .i64 ((s.size + 1 + m : Nat) : Int)] w fun e w' => e = .returned (.int .u8 (((covers (strBytes s) ++ ns).getD (s.size + 1 + m) 0 : Nat) : Int)) ∧ w = w' := by
  have Hv := hidden (cov_lo (strBytes s) ns m (by rw [strBytes_length]; exact hm))
  have Hl := hidden (strBytes_length s)
  have Hg := hidden (strBytes_get s (s.size + 1 + m - s.size - 1) (by omega))
  have He : Hid (s.size + 1 + m - s.size - 1 = m) := (by omega : s.size + 1 + m - s.size - 1 = m)
  have Hb0 := hidden (UInt8.toNat_lt (s[s.size + 1 + m - s.size - 1]'(by omega)))
  go_enter Try.func21, Try.ntmps21
  go_wp2_with fail
  go_ret
  refine ⟨ret_u8 ?_, rfl⟩
  have h1 := Hv.out
  rw [Hl.out] at h1
  rw [h1]
  have h2 := (congrArg (fun k => (strBytes s).getD k 0) He.out.symm).trans Hg.out
  have h2' : (strBytes s).getD m 0 = _ := h2
  rw [h2']
  have h := u8_and31 (x := (((s[s.size + 1 + m - s.size - 1]'(by omega)).toNat : Nat) : Int)) (by omega) (by have := Hb0.out; omega)
  refine h.trans ?_
  omega

set_option maxHeartbeats 1000000 in
theorem covered_dat (s : ByteArray) (g n c m : Nat) (ns : List Nat) (w : World) (hs : s.size ≤ 1048576) (hn : n ≤ 1048576) (hm : m < n) (hz : ns.length = n) (hr : Row w g ns) :
    Calls Try.prog 21 #[.string s, .slice (some ⟨g, 0, none⟩) n c, .int .i64 ((2 * s.size + 1 + m : Nat) : Int)] w fun e w' => e = .returned (.int .u8 (((covers (strBytes s) ++ ns).getD (2 * s.size + 1 + m) 0 : Nat) : Int)) ∧ w = w' := by
  have Hv := hidden (cov_dat (strBytes s) ns m)
  have Hl := hidden (strBytes_length s)
  have hc : w.cell? ⟨g, 2 * s.size + 1 + m - 2 * s.size - 1, none⟩ = some (.int .u8 (bt ns m)) := by
    rw [show 2 * s.size + 1 + m - 2 * s.size - 1 = m by omega]
    exact hr.cell m (by omega)
  clear hz hr
  go_enter Try.func21, Try.ntmps21
  go_wp2_with fail
  go_ret
  refine ⟨ret_u8 ?_, rfl⟩
  have h1 := Hv.out
  rw [Hl.out] at h1
  rw [h1]
  rfl

/-- 'coveredValue', at each place of the covered values. -/
theorem covered_any (p : Option Addr) (s : ByteArray) (n c i : Nat) (I : Int) (ns : List Nat) (w : World) (hI : I = (i : Int)) (hs : s.size ≤ 1048576) (hn : n ≤ 1048576) (hi : i < 2 * s.size + 1 + n) (h : Src w p n ns) :
    Calls Try.prog 21 #[.string s, .slice p n c, .int .i64 I] w fun e w' => e = .returned (.int .u8 (((covers (strBytes s) ++ ns).getD i 0 : Nat) : Int)) ∧ w = w' := by
  subst hI
  rcases Nat.lt_or_ge i s.size with h1 | h1
  · exact covered_hi p s n c i ns w h1
  · rcases Nat.lt_or_ge s.size i with h2 | h2
    · rcases Nat.lt_or_ge i (2 * s.size + 1) with h3 | h3
      · obtain ⟨m, rfl⟩ : ∃ m, i = s.size + 1 + m := ⟨i - s.size - 1, by omega⟩
        exact covered_lo p s n c m ns w hs (by omega)
      · obtain ⟨m, rfl⟩ : ∃ m, i = 2 * s.size + 1 + m := ⟨i - 2 * s.size - 1, by omega⟩
        obtain ⟨k1, k2, k3⟩ := h
        rcases k3 with ⟨g, rfl, hr⟩ | ⟨_, rfl⟩
        · exact covered_dat s g n c m ns w hs hn (by omega) k1 hr
        · omega
    · obtain rfl : s.size = i := by omega
      exact covered_mid p s n c ns w

/-! ### 'bchRemainder' -/
theorem timesX_v (c : Nat) (w : World) (hc : c < 2 ^ 30) :
    Calls Try.prog 22 #[.agg (vals (coefs c)).toArray] w fun e w' => e = .returned (.agg (vals (coefs (lin c))).toArray) ∧ Below w.heap.size w w' := timesX_any c w hc

theorem addScaled_v (A c a : Nat) (V : Int) (w : World) (hV : V = (a : Int)) (ha : a < 32) :
    Calls Try.prog 23 #[.agg (vals (coefs A)).toArray, .int .u8 V, .agg (vals (coefs c)).toArray] w fun e w' => e = .returned (.agg (vals (coefs (A ^^^ scal a c))).toArray) ∧ Below w.heap.size w w' := addScaled_any A c a V w hV ha

theorem xor_val (A Q j : Nat) (hj : j < 6) : bits BinOp.xor IntKind.u8 ((cf A j : Nat) : Int) ((cf Q j : Nat) : Int) = (((coefs (A ^^^ Q)).getD j 0 : Nat) : Int) := by
  have h1 := cf_lt A j
  have h2 := cf_lt Q j
  rw [u8_xor_nat _ _ (by omega) (by omega), coefs_getD _ j hj, cf_xor]

/-- One round of 'out = out<<5 | uint32(acc[j])'. -/
theorem pack_val (D m : Nat) (hD : D < 2 ^ 30) (hm : m < 6) :
    bits BinOp.or IntKind.u32 (((D / 2 ^ (5 * (6 - m)) : Nat) : Int) * 32 % 4294967296) ((cf D (5 - m) : Nat) : Int) = ((D / 2 ^ (5 * (6 - (m + 1))) : Nat) : Int) := by
  have h1 := cf_lt D (5 - m)
  have hq : D / 2 ^ (5 * (6 - m)) < 33554432 := by
    have h5 : 2 ^ 5 ≤ 2 ^ (5 * (6 - m)) := Nat.pow_le_pow_right (by decide) (by omega)
    have h6 : D / 2 ^ (5 * (6 - m)) ≤ D / 2 ^ 5 := Nat.div_le_div_left h5 (by decide)
    rw [two30] at hD
    omega
  have e : ((D / 2 ^ (5 * (6 - m)) : Nat) : Int) * 32 % 4294967296 = ((D / 2 ^ (5 * (6 - m)) * 2 ^ 5 % 4294967296 : Nat) : Int) := by omega
  rw [e, u32_or_nat _ _ (Nat.mod_lt _ (by decide)) (by omega), or_low _ _ 5 (by decide) (by omega)]
  congr 1
  have e2 : 5 * (6 - m) = 5 * (5 - m) + 5 := by omega
  have e3 : 5 * (6 - (m + 1)) = 5 * (5 - m) := by omega
  have e4 : D / 2 ^ (5 * (6 - m)) * 2 ^ 5 + cf D (5 - m) = D / 2 ^ (5 * (5 - m)) := by
    unfold cf
    rw [e2, Nat.pow_add, ← Nat.div_div_eq_div_mul, Nat.mul_comm]
    exact Nat.div_add_mod _ 32
  have h7 : D / 2 ^ (5 * (5 - m)) ≤ D := Nat.div_le_self _ _
  rw [two30] at hD
  rw [e4, e3, Nat.mod_eq_of_lt (by omega)]

set_option maxRecDepth 100000 in
set_option maxHeartbeats 2000000 in
theorem bch_any (p : Option Addr) (s : ByteArray) (n c : Nat) (ns : List Nat) (w : World) (hsn : s.size + n ≤ 1048576) (h : Src w p n ns) :
    Calls Try.prog 11 #[.string s, .slice p n c] w fun e w' => e = .returned (.int .u32 ((pm (strBytes s) ns : Nat) : Int)) ∧ Below w.heap.size w w' := by
  have Hsrc := hidden h
  obtain ⟨vs, hvs⟩ : ∃ vs, covers (strBytes s) ++ ns = vs := ⟨_, rfl⟩
  have Hlen : Hid (vs.length = 2 * s.size + 1 + n) := by show _ = _; rw [← hvs, List.length_append, covers_length, strBytes_length, h.1]
  have H256 : Hid (∀ z ∈ vs, z < 256) := by
    intro z hz
    rw [← hvs] at hz
    rcases List.mem_append.1 hz with hz | hz
    · exact covers_lt _ (strBytes_lt s) z hz
    · exact h.2.1 z hz
  have Hpm : Hid (pm (strBytes s) ns = accG vs (2 * s.size + 1 + n) ^^^ powN (2 * s.size + 1 + n)) := by
    show _ = _
    rw [← Hlen.out, ← remainder vs H256.out, ← hvs]
    rfl
  have Hcov : Hid (∀ (i : Nat) (I : Int) (wx : World), I = (i : Int) → i < 2 * s.size + 1 + n → Src wx p n ns → Calls Try.prog 21 #[.string s, .slice p n c, .int .i64 I] wx fun e w' => e = .returned (.int .u8 ((vs.getD i 0 : Nat) : Int)) ∧ wx = w') := by
    intro i I wx hI hi hx
    rw [← hvs]
    exact covered_any p s n c i I ns wx hI (by omega) (by omega) hi hx
  have HW : Hid (∀ W : World, W = (w.alloc (.cells zeroA 27)).alloc (.cells #[.int .u8 1, .int .u8 0, .int .u8 0, .int .u8 0, .int .u8 0, .int .u8 0] 27) → Arr W w.heap.size (coefs (accG vs 0)) ∧ Arr W (w.heap.size + 1) (coefs (powN 0)) ∧ Below w.heap.size w W) := by
    rintro W rfl
    have e0 : coefs (accG vs 0) = List.replicate 6 0 := (by decide : coefs 0 = List.replicate 6 0)
    refine ⟨by rw [e0]; exact (Arr.zero w).alloc _, ?_, ((Below.refl _ _).alloc (Nat.le_refl _) _).alloc (by simp) _⟩
    have h := heap_alloc_new (w.alloc (.cells zeroA 27)) (.cells #[.int .u8 1, .int .u8 0, .int .u8 0, .int .u8 0, .int .u8 0, .int .u8 0] 27)
    rw [World.size_alloc] at h
    exact h
  clear h hvs
  go_enter Try.func11, Try.ntmps11
  go_wp2_with fail
  obtain ⟨A6, A7, RB⟩ := HW.out _ rfl
  clear HW
  go_loopw [8] (fun i ws => ∃ k : Nat, k ≤ 2 * s.size + 1 + n ∧ i = .int .i64 k ∧ Arr ws w.heap.size (coefs (accG vs k)) ∧ Arr ws (w.heap.size + 1) (coefs (powN k)) ∧ Below w.heap.size w ws) (fun i _ => 2 * s.size + 1 + n - (intOf i).toNat)
  case atStart => exact ⟨0, Nat.zero_le _, rfl, A6, A7, RB⟩
  case round =>
    clear A6 A7 RB
    obtain ⟨k, hk, rfl, A6, A7, RB⟩ := hrel
    by_cases hlt : k < 2 * s.size + 1 + n
    · obtain ⟨u, hu⟩ : ∃ u, vs.getD (2 * s.size + 1 + n - 1 - k) 0 = u := ⟨_, rfl⟩
      have hcov := Hcov.out (2 * s.size + 1 + n - 1 - k) (2 * (s.size : Int) + 1 + (n : Int) - 1 - (k : Int)) wr (by omega) (by omega) (Hsrc.out.of_blocks (fun b hb => RB.block b hb))
      rw [hu] at hcov
      have Hc1 := hidden hcov
      have Hacc : Hid (accG vs (k + 1) = accG vs k ^^^ scal (u % 32) (powN k) ^^^ scal (u / 32) (powN (k + 1))) := by
        show _ = _
        simp only [accG]
        rw [Hlen.out, hu]
      have Hu : Hid (u < 256) := by rw [← hu]; exact getD_lt vs 256 (by decide) H256.out _
      have Htx := timesX_v (powN k)
      rw [← powN_succ] at Htx
      have HT := hidden Htx
      clear hcov hu Htx
      go_wp2_with (first
        | (go_at_call 21; refine (Hc1.out).mono ?_; rintro e w1 ⟨rfl, rfl⟩)
        | (refine wpList_load_arr rfl (.tmp 7) rfl (w.heap.size + 1) rfl (coefs (powN k)) A7 rfl ?_))
      refine (HT.out _ (powN_lt k)).mono ?_
      rintro e w2 ⟨rfl, hb2⟩
      have A6b := A6.below hb2 A6.lt
      have A7b := A7.below hb2 A7.lt
      have RBb := RB.trans (hb2.mono RB.size)
      have hz2 := A7b.lt
      clear A6 A7 RB hb2 Hc1 HT
      go_wp2_with (first
        | (refine wpList_store_arr rfl (.tmp 10) (.tmp 35) rfl w2.heap.size (coefs (powN (k + 1))) (List.replicate 6 0) rfl rfl (Arr.zero w2) (by simp) rfl ?_; intro w3 A10c ho3 hB3; have A6c := (A6b.alloc _).of_block (ho3 _ (by omega)); have A7c := (A7b.alloc _).of_block (ho3 _ (by omega)); have RBc := hB3 _ _ (by omega) (RBb.alloc RBb.size _); clear ho3 hB3 A6b A7b RBb)
        | (refine wpList_load_arr rfl (.tmp 6) rfl w.heap.size rfl (coefs (accG vs k)) A6c rfl ?_)
        | (refine wpList_load_arr rfl (.tmp 7) rfl (w.heap.size + 1) rfl (coefs (powN k)) A7c rfl ?_))
      have Hv1 : Hid (bits BinOp.and IntKind.u8 (u : Int) 31 = ((u % 32 : Nat) : Int)) := by
        have h := u8_and31 (x := (u : Int)) (by omega) (by have := Hu.out; omega)
        show _ = _
        rw [h]
        omega
      refine (addScaled_v (accG vs k) (powN k) (u % 32) _ _ Hv1.out (Nat.mod_lt _ (by decide))).mono ?_
      rintro e w4 ⟨rfl, hb4⟩
      have A6d := A6c.below hb4 A6c.lt
      have A7d := A7c.below hb4 A7c.lt
      have A10d := A10c.below hb4 A10c.lt
      have RBd := RBc.trans (hb4.mono RBc.size)
      clear A6c A7c A10c RBc hb4 Hv1
      generalize hX : accG vs k ^^^ scal (u % 32) (powN k) = X at *
      have HX := hidden hX
      clear hX
      go_wp2_with (first
        | (refine wpList_store_arr rfl (.tmp 6) (.tmp 40) rfl w.heap.size (coefs X) (coefs (accG vs k)) rfl rfl A6d rfl rfl ?_; intro w5 A6e ho5 hB5; have A7e := A7d.of_block (ho5 _ (by omega)); have A10e := A10d.of_block (ho5 _ (by omega)); have RBe := hB5 _ _ (Nat.le_refl _) RBd; clear ho5 hB5 A6d A7d A10d RBd)
        | (refine wpList_load_arr rfl (.tmp 6) rfl w.heap.size rfl (coefs X) A6e rfl ?_)
        | (refine wpList_load_arr rfl (.tmp 10) rfl w2.heap.size rfl (coefs (powN (k + 1))) A10e rfl ?_))
      refine (addScaled_v X (powN (k + 1)) (u / 32) _ _ (by omega) (by have := Hu.out; omega)).mono ?_
      rintro e w6 ⟨rfl, hb6⟩
      have A6f := A6e.below hb6 A6e.lt
      have A7f := A7e.below hb6 A7e.lt
      have A10f := A10e.below hb6 A10e.lt
      have RBf := RBe.trans (hb6.mono RBe.size)
      clear A6e A7e A10e RBe hb6
      rw [← Hacc.out]
      go_wp2_with (first
        | (refine wpList_store_arr rfl (.tmp 6) (.tmp 45) rfl w.heap.size (coefs (accG vs (k + 1))) (coefs X) rfl rfl A6f rfl rfl ?_; intro w7 A6g ho7 hB7; have A7g := A7f.of_block (ho7 _ (by omega)); have A10g := A10f.of_block (ho7 _ (by omega)); have RBg := hB7 _ _ (Nat.le_refl _) RBf; clear ho7 hB7 A6f A7f A10f RBf)
        | (refine wpList_load_arr rfl (.tmp 10) rfl w2.heap.size rfl (coefs (powN (k + 1))) A10g rfl ?_)
        | (refine wpList_store_arr rfl (.tmp 7) (.tmp 46) rfl (w.heap.size + 1) (coefs (powN (k + 1))) (coefs (powN k)) rfl rfl A7g rfl rfl ?_; intro w8 A7h ho8 hB8; have A6h := A6g.of_block (ho8 _ (by omega)); have RBh := hB8 _ _ (by omega) RBg; clear ho8 hB8 A6g A7g A10g RBg))
      go_roundw
      case rel => exact ⟨k + 1, by omega, by go_num, A6h, A7h, RBh⟩
      case measure => simp [intOf]; omega
    · obtain rfl : k = 2 * s.size + 1 + n := by omega
      have HaL : Hid (accG vs (2 * s.size + 1 + n) < 2 ^ 30) := accG_lt vs H256.out _
      have HpL : Hid (powN (2 * s.size + 1 + n) < 2 ^ 30) := powN_lt _
      go_wp2_with fail
      generalize accG vs (2 * s.size + 1 + n) = A at *
      generalize powN (2 * s.size + 1 + n) = Q at *
      have HD : Hid (A ^^^ Q < 2 ^ 30) := Nat.xor_lt_two_pow HaL.out HpL.out
      have Hval := hidden (fun j (hj : j < 6) => xor_val A Q j hj)
      generalize A ^^^ Q = D at *
      have A6' : Arr wr w.heap.size (mixK (coefs D) (coefs A) 0) := by rw [mixK_zero (coefs D) (coefs A) rfl]; exact A6
      clear A6
      go_loopw [11] (fun i ws => ∃ j : Nat, j ≤ 6 ∧ i = .int .i64 j ∧ Arr ws w.heap.size (mixK (coefs D) (coefs A) j) ∧ Arr ws (w.heap.size + 1) (coefs Q) ∧ Below w.heap.size w ws) (fun i _ => 6 - (intOf i).toNat)
      case atStart => exact ⟨0, Nat.zero_le _, rfl, A6', A7, RB⟩
      case round =>
        clear A6' A7 RB
        obtain ⟨j, hj6, rfl, A6, A7, RB⟩ := hrel
        by_cases hlt : j < 6
        · have hc0 : wr.cell? ⟨w.heap.size, j, none⟩ = some (.int .u8 ((cf A j : Nat) : Int)) := by rw [← coefs_bt A j hlt, ← mixK_bt (coefs D) (coefs A) j hlt]; exact A6.cell j (by rw [mixK_length]; exact hlt)
          have hfr := A6.frozen j
          have hc1 : wr.cell? ⟨w.heap.size + 1, j, none⟩ = some (.int .u8 ((cf Q j : Nat) : Int)) := by rw [← coefs_bt Q j hlt]; exact A7.cell j (by rw [coefs_length]; exact hlt)
          have Hset := hidden (mixK_set (coefs D) (coefs A) j)
          have Hv := hidden (Hval.out j hlt)
          go_wp2_with fail
          go_region
          all_goals
            go_wp2_with fail
            go_roundw
            case rel => exact ⟨j + 1, by omega, by go_num, by rw [← Hset.out]; exact A6.drew.setV _ _ _ Hv.out, A7.drew.other _ _ (by show _ ≠ w.heap.size; omega), RB.drew.setCell (by show _ ≤ w.heap.size; omega) _⟩
            case measure => simp [intOf]; omega
        · have A8 : Arr wr w.heap.size (coefs D) := by
            have ej : j = 6 := by omega
            have h := A6
            rw [ej, mixK_end (coefs D) (coefs A) rfl] at h
            exact h
          clear A6 A7
          go_wp2_with fail
          go_loop [12, 13] (fun ov jv => ∃ m : Nat, m ≤ 6 ∧ jv = .int .i64 (5 - (m : Int)) ∧ ov = .int .u32 ((D / 2 ^ (5 * (6 - m)) : Nat) : Int)) (fun _ jv => (intOf jv + 1).toNat)
          case atStart => exact ⟨0, Nat.zero_le _, rfl, by rw [show D / 2 ^ (5 * (6 - 0)) = 0 from Nat.div_eq_of_lt HD.out]; rfl⟩
          case round =>
            obtain ⟨m, hm6, rfl, rfl⟩ := hrel
            by_cases hlt : m < 6
            · have hc0 : wr.cell? ⟨w.heap.size, 5 - m, none⟩ = some (.int .u8 ((cf D (5 - m) : Nat) : Int)) := by rw [← coefs_bt D (5 - m) (by omega)]; exact A8.cell (5 - m) (by rw [coefs_length]; omega)
              have b1 := cf_lt D (5 - m)
              have Hp := hidden (pack_val D m HD.out hlt)
              obtain ⟨o, ho⟩ : ∃ o, D / 2 ^ (5 * (6 - m)) = o := ⟨_, rfl⟩
              rw [ho] at Hp ⊢
              have Ho := hidden ho
              clear ho
              go_wp2_with fail
              go_round
              case rel => exact ⟨m + 1, by omega, by simp; omega, congrArg (Value.int IntKind.u32) Hp.out⟩
              case measure => simp [intOf]; omega
            · obtain rfl : m = 6 := by omega
              have He : Hid ((D : Int) = ((pm (strBytes s) ns : Nat) : Int)) := by show _ = _; rw [Hpm.out]
              go_wp2_with fail
              go_ret
              exact ⟨congrArg (fun x => Ending.returned (Value.int IntKind.u32 x)) He.out, RB⟩
end Go.Proofs.Qxb6619359a
