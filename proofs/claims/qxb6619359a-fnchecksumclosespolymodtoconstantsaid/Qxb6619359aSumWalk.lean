/-
  THE WALK OF 'checksum' (24) AND 'ZZchecksum' (13).
-/
import Derived.Test.Qxb6619359aArrays
import Derived.Test.Qxb6619359aPlainD
namespace Go.Proofs.Qxb6619359a
open Go.RowKit

/-- The state behind k zeros. -/
def zRun (c k : Nat) : Nat := pmRun c (List.replicate k 0)

theorem zRun_zero (c : Nat) : zRun c 0 = c := rfl
theorem zRun_succ (c k : Nat) : zRun c (k + 1) = pmStep (zRun c k) 0 := by
  unfold zRun
  rw [List.replicate_succ', run_snoc]
theorem zRun_lt (c k : Nat) (hc : c < 2 ^ 30) : zRun c k < 2 ^ 30 := run_lt _ (zeros_lt k) c hc
theorem zRun_six (c : Nat) : zRun c 6 = shut6 c := rfl

theorem sums_getD (m k : Nat) (hk : k < 6) : (m : Int) / 2 ^ (5 * (5 - k)) % 32 = (((sums m).getD k 0 : Nat) : Int) := by
  have e : (sums m).getD k 0 = sumI m k := by
    match k, hk with
    | 0, _ => rfl
    | 1, _ => rfl
    | 2, _ => rfl
    | 3, _ => rfl
    | 4, _ => rfl
    | 5, _ => rfl
  rw [e]
  unfold sumI
  simp

set_option maxRecDepth 100000 in
set_option maxHeartbeats 1000000 in
theorem checksum_any (p : Option Addr) (s : ByteArray) (n c : Nat) (ns : List Nat) (K : Nat) (w : World) (hs : s.size ≤ 1048576) (hn : n ≤ 2097152) (hK : K < 4294967296) (h : Src w p n ns) :
    Calls Try.prog 24 #[.string s, .slice p n c, .int .u32 (K : Int)] w fun e w' => e = .returned (.agg (vals (sums (shut6 (pm (strBytes s) ns) ^^^ K))).toArray) ∧ Below w.heap.size w w' := by
  have Hsrc := hidden h
  have hlt := pm_lt (strBytes s) ns (strBytes_lt s) h.2.1
  have HA := hidden (Arr.zero w)
  have Hpm := hidden (fun wx (hx : Src wx p n ns) => polymod_src p s n c ns wx hs hn hx)
  clear h
  generalize pm (strBytes s) ns = c0 at *
  have hm : shut6 c0 ^^^ K < 4294967296 := Nat.xor_lt_two_pow (n := 32) (Nat.lt_of_lt_of_le (shut6_lt c0 hlt) (by decide)) hK
  have Hx : Hid (bits BinOp.xor IntKind.u32 ((zRun c0 6 : Nat) : Int) (K : Int) = ((shut6 c0 ^^^ K : Nat) : Int)) := by
    have h1 := zRun_lt c0 6 hlt
    exact u32_xor_nat (zRun c0 6) K (by rw [pow30] at h1; omega) hK
  generalize shut6 c0 ^^^ K = m at *
  go_enter Try.func24, Try.ntmps24
  go_wp2_with (go_at_call 20; refine (Hpm.out _ (Hsrc.out.alloc _)).mono ?_; rintro e w1 ⟨rfl, rfl⟩)
  go_loop [7, 14] (fun ch i => ∃ k : Nat, k ≤ 6 ∧ i = .int .i64 k ∧ ch = .int .u32 ((zRun c0 k : Nat) : Int)) (fun _ i => 6 - (intOf i).toNat)
  case atStart => exact ⟨0, Nat.zero_le _, rfl, rfl⟩
  case round =>
    obtain ⟨k, hk, rfl, rfl⟩ := hrel
    by_cases hk6 : k < 6
    · have Hl := hidden (zRun_lt c0 k hlt)
      have Hn := hidden (zRun_succ c0 k)
      go_wp2_with (go_at_call 26; refine (pstep_any _ _ (zRun c0 k) 0 _ rfl rfl Hl.out (by decide)).mono ?_; rintro e w1 ⟨rfl, rfl⟩)
      go_round
      case rel => exact ⟨k + 1, by omega, by go_num, by rw [Hn.out]⟩
      case measure => simp [intOf]; omega
    · obtain rfl : k = 6 := by omega
      go_wp2_with fail
      rw [Hx.out]
      have B2 : Below w.heap.size w ((w.alloc (.cells #[.int .u8 0, .int .u8 0, .int .u8 0, .int .u8 0, .int .u8 0, .int .u8 0] 27)).alloc (.cells #[.int .u8 0, .int .u8 0, .int .u8 0, .int .u8 0, .int .u8 0, .int .u8 0] 27)) := ((Below.refl _ _).alloc (Nat.le_refl _) _).alloc (by simp) _
      have A1 : Arr ((w.alloc (.cells #[.int .u8 0, .int .u8 0, .int .u8 0, .int .u8 0, .int .u8 0, .int .u8 0] 27)).alloc (.cells #[.int .u8 0, .int .u8 0, .int .u8 0, .int .u8 0, .int .u8 0, .int .u8 0] 27)) w.heap.size (List.replicate 6 0) := HA.out.alloc _
      have A2 : Arr ((w.alloc (.cells #[.int .u8 0, .int .u8 0, .int .u8 0, .int .u8 0, .int .u8 0, .int .u8 0] 27)).alloc (.cells #[.int .u8 0, .int .u8 0, .int .u8 0, .int .u8 0, .int .u8 0, .int .u8 0] 27)) (w.heap.size + 1) (cpK (sums m) 6 0) := by
        have h := Arr.zero (w.alloc (.cells #[.int .u8 0, .int .u8 0, .int .u8 0, .int .u8 0, .int .u8 0, .int .u8 0] 27))
        rw [World.size_alloc] at h
        rw [cpK_zero]
        exact h
      go_loopw [22] (fun i ws => ∃ k : Nat, k ≤ 6 ∧ i = .int .i64 k ∧ Arr ws w.heap.size (List.replicate 6 0) ∧ Arr ws (w.heap.size + 1) (cpK (sums m) 6 k) ∧ Below w.heap.size w ws) (fun i _ => 6 - (intOf i).toNat)
      case atStart => exact ⟨0, Nat.zero_le _, rfl, A1, A2, B2⟩
      case round =>
        clear A1 A2 B2
        obtain ⟨k, hk, rfl, A1, A2, B2⟩ := hrel
        by_cases hk6 : k < 6
        · have hc := A2.cell k (by rw [cpK_length]; exact hk6)
          have hf := A2.frozen k
          have Hv := hidden (sums_getD m k hk6)
          go_wp2_with fail
          go_roundw
          case rel => exact ⟨k + 1, by omega, by go_num, A1.other _ _ (by show _ ≠ w.heap.size + 1; omega), by rw [← cpK_set]; exact A2.setV k _ _ Hv.out, B2.setCell (by show _ ≤ w.heap.size + 1; omega) _⟩
          case measure => simp [intOf]; omega
        · have A3 : Arr wr (w.heap.size + 1) (sums m) := by
            have ek : k = 6 := by omega
            have h := A2
            rw [ek] at h
            have e := cpK_end (sums m)
            have el : (sums m).length = 6 := rfl
            rw [el] at e
            rw [e] at h
            exact h
          clear A2
          go_wp2_with (first
            | (refine wpList_load_arr rfl (.tmp 9) rfl (w.heap.size + 1) rfl (sums m) A3 rfl ?_; clear A3)
            | (refine wpList_store_arr rfl (.tmp 6) (.tmp 35) rfl w.heap.size (sums m) (List.replicate 6 0) rfl rfl A1 (by simp) rfl ?_; intro w4 A4 _ hB4; have B4 := hB4 _ _ (Nat.le_refl _) B2; clear A1 hB4 B2))
          refine bodyPost_ret (results_arr rfl _ _ w.heap.size (sums m) rfl A4 rfl) rfl ⟨rfl, B4⟩

/-- 'ZZchecksum'. -/
theorem zzchecksum_any (p : Option Addr) (s : ByteArray) (n c : Nat) (ns : List Nat) (K : Nat) (w : World) (hs : s.size ≤ 1048576) (hn : n ≤ 2097152) (hK : K < 4294967296) (h : Src w p n ns) :
    Calls Try.prog 13 #[.string s, .slice p n c, .int .u32 (K : Int)] w fun e w' => e = .returned (.agg (vals (sums (shut6 (pm (strBytes s) ns) ^^^ K))).toArray) ∧ Below w.heap.size w w' := by
  have Hk := hidden (fun wx (hx : Src wx p n ns) => checksum_any p s n c ns K wx hs hn hK hx)
  have Hsrc := hidden h
  have HA := hidden (Arr.zero w)
  have HB : Hid (Below w.heap.size w (w.alloc (.cells #[.int .u8 0, .int .u8 0, .int .u8 0, .int .u8 0, .int .u8 0, .int .u8 0] 27))) := (Below.refl _ _).alloc (Nat.le_refl _) _
  have Hl6 : Hid ((sums (shut6 (pm (strBytes s) ns) ^^^ K)).length = 6) := rfl
  generalize sums (shut6 (pm (strBytes s) ns) ^^^ K) = ss at *
  clear h hs hn hK
  go_enter Try.func13, Try.ntmps13
  go_wp2_with fail
  refine (Hk.out _ (Hsrc.out.alloc _)).mono ?_
  rintro e w1 ⟨rfl, hb1⟩
  have A1 : Arr w1 w.heap.size (List.replicate 6 0) := HA.out.below hb1 HA.out.lt
  have B1 : Below w.heap.size w w1 := HB.out.trans (hb1.mono HB.out.size)
  go_wp2_with (refine wpList_store_arr rfl (.tmp 6) (.tmp 10) rfl w.heap.size ss (List.replicate 6 0) rfl rfl A1 (by simp) Hl6.out ?_; intro w4 A4 _ hB4; have B4 := hB4 _ _ (Nat.le_refl _) B1; clear A1 hB4 B1)
  refine bodyPost_ret (results_arr rfl _ _ w.heap.size ss rfl A4 Hl6.out) rfl ⟨rfl, B4⟩
end Go.Proofs.Qxb6619359a
