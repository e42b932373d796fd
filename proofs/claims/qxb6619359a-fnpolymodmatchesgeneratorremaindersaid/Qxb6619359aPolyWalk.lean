/-
  THE WALK OF 'polymodStep' (26), 'polymod' (20), 'ZZpolymod' (10): one contract each.
-/
import Derived.Test.Qxb6619359aBase
import Derived.Test.Qxb6619359aPlainP
namespace Go.Proofs.Qxb6619359a
open Go.RowKit

theorem ret_u32 {a b : Int} (h : a = b) : Ending.returned (.int .u32 a) = .returned (.int .u32 b) := by rw [h]

set_option maxHeartbeats 1000000 in
theorem pstep_any (C V : Int) (c v : Nat) (w : World) (hC : C = (c : Int)) (hV : V = (v : Int)) (hc : c < 2 ^ 30) (hv : v < 256) :
    Calls Try.prog 26 #[.int .u32 C, .int .u8 V] w fun e w' => e = .returned (.int .u32 ((pmStep c v : Nat) : Int)) ∧ w = w' := by
  subst hC hV
  have Hs := hidden (step_u32 c v hc hv)
  have hc' : c < 1073741824 := hc
  clear hc
  go_enter Try.func26, Try.ntmps26
  go_wp2_with fail
  go_ret
  exact ⟨ret_u32 Hs.out, rfl⟩

set_option maxHeartbeats 1000000 in
theorem polymod_some (s : ByteArray) (g n c : Nat) (ns : List Nat) (w : World) (hs : s.size ≤ 1048576) (hn : n ≤ 2097152) (hz : ns.length = n) (hb : ∀ z ∈ ns, z < 256) (hrow : ∀ k, k < n → w.cell? ⟨g, k, none⟩ = some (.int .u8 (bt ns k))) :
    Calls Try.prog 20 #[.string s, .slice (some ⟨g, 0, none⟩) n c] w fun e w' => e = .returned (.int .u32 ((pm (strBytes s) ns : Nat) : Int)) ∧ w = w' := by
  have Hz := hidden hz
  have Hb := hidden hb
  have Hrow := hidden hrow
  clear hz hb hrow
  go_enter Try.func20, Try.ntmps20
  go_wp2_with fail
  go_loop [5, 6] (fun ch i => ∃ k : Nat, k ≤ s.size ∧ i = .int .i64 k ∧ ch = .int .u32 ((hiRun s k : Nat) : Int)) (fun _ i => s.size - (intOf i).toNat)
  case atStart => exact ⟨0, Nat.zero_le _, rfl, by rw [hiRun_zero]; rfl⟩
  case round =>
    obtain ⟨k, hk, rfl, rfl⟩ := hrel
    by_cases hlt : k < s.size
    · have Hn := hidden (hiRun_succ s k hlt)
      have Hb0 := hidden (UInt8.toNat_lt s[k])
      have Hl := hidden (hiRun_lt s k)
      go_wp2_with (go_at_call 26; refine (pstep_any _ _ (hiRun s k) (s[k].toNat / 32) _ rfl (by omega) Hl.out (by have := Hb0.out; omega)).mono ?_; rintro e w' ⟨rfl, rfl⟩)
      go_round
      case rel => exact ⟨k + 1, by omega, by go_num, by rw [Hn.out]⟩
      case measure => simp [intOf]; omega
    · obtain ek : k = s.size := by omega
      have Hk := hidden ek
      rw [ek]
      clear ek
      have Hl := hidden (hiRun_lt s s.size)
      go_wp2_with (go_at_call 26; refine (pstep_any _ _ (hiRun s s.size) 0 _ rfl rfl Hl.out (by decide)).mono ?_; rintro e w' ⟨rfl, rfl⟩)
      go_loop [5, 7] (fun ch i => ∃ k : Nat, k ≤ s.size ∧ i = .int .i64 k ∧ ch = .int .u32 ((loRun s k : Nat) : Int)) (fun _ i => s.size - (intOf i).toNat)
      case atStart => exact ⟨0, Nat.zero_le _, rfl, by rw [loRun_zero]⟩
      case round =>
        obtain ⟨k, hk, rfl, rfl⟩ := hrel
        by_cases hlt : k < s.size
        · have Hn := hidden (loRun_succ s k hlt)
          have Hb0 := hidden (UInt8.toNat_lt s[k])
          have Hl := hidden (loRun_lt s k)
          have Hv : Hid (bits BinOp.and IntKind.u8 ((s[k].toNat : Nat) : Int) 31 = ((s[k].toNat % 32 : Nat) : Int)) := by
            have h := u8_and31 (x := ((s[k].toNat : Nat) : Int)) (by omega) (by have := Hb0.out; omega)
            show _ = _
            rw [h]
            omega
          go_wp2_with (go_at_call 26; refine (pstep_any _ _ (loRun s k) (s[k].toNat % 32) _ rfl Hv.out Hl.out (by omega)).mono ?_; rintro e w' ⟨rfl, rfl⟩)
          go_round
          case rel => exact ⟨k + 1, by omega, by go_num, by rw [Hn.out]⟩
          case measure => simp [intOf]; omega
        · have ek : k = s.size := by omega
          rw [ek]
          clear ek
          go_wp2_with fail
          go_loop [5, 38] (fun ch i => ∃ k : Nat, k ≤ n ∧ i = .int .i64 k ∧ ch = .int .u32 ((datRun s ns k : Nat) : Int)) (fun _ i => n - (intOf i).toNat)
          case atStart => exact ⟨0, Nat.zero_le _, rfl, by rw [datRun_zero]⟩
          case round =>
            obtain ⟨k, hk, rfl, rfl⟩ := hrel
            by_cases hlt : k < n
            · have hcell := Hrow.out k hlt
              have Hn := hidden (datRun_succ s ns k (by rw [Hz.out]; exact hlt))
              have Hl := hidden (datRun_lt s ns Hb.out k)
              have Hg := hidden (getD_lt ns 256 (by decide) Hb.out k)
              go_wp2_with (go_at_call 26; refine (pstep_any _ _ (datRun s ns k) (ns.getD k 0) _ rfl rfl Hl.out Hg.out).mono ?_; rintro e w' ⟨rfl, rfl⟩)
              go_round
              case rel => exact ⟨k + 1, by omega, by go_num, by rw [Hn.out, List.getD_eq_getElem?_getD]⟩
              case measure => simp [intOf]; omega
            · have He : Hid (datRun s ns k = pm (strBytes s) ns) := by
                have ek : k = ns.length := by rw [Hz.out]; omega
                rw [ek]; exact datRun_end s ns
              go_wp2_with fail
              go_ret
              exact ⟨by rw [← He.out]; rfl, rfl⟩

set_option maxHeartbeats 1000000 in
theorem polymod_nil (s : ByteArray) (c : Nat) (w : World) (hs : s.size ≤ 1048576) :
    Calls Try.prog 20 #[.string s, .slice none 0 c] w fun e w' => e = .returned (.int .u32 ((pm (strBytes s) [] : Nat) : Int)) ∧ w = w' := by
  have He := hidden (datRun_end s [])
  go_enter Try.func20, Try.ntmps20
  go_wp2_with fail
  go_loop [5, 6] (fun ch i => ∃ k : Nat, k ≤ s.size ∧ i = .int .i64 k ∧ ch = .int .u32 ((hiRun s k : Nat) : Int)) (fun _ i => s.size - (intOf i).toNat)
  case atStart => exact ⟨0, Nat.zero_le _, rfl, by rw [hiRun_zero]; rfl⟩
  case round =>
    obtain ⟨k, hk, rfl, rfl⟩ := hrel
    by_cases hlt : k < s.size
    · have Hn := hidden (hiRun_succ s k hlt)
      have Hb0 := hidden (UInt8.toNat_lt s[k])
      have Hl := hidden (hiRun_lt s k)
      go_wp2_with (go_at_call 26; refine (pstep_any _ _ (hiRun s k) (s[k].toNat / 32) _ rfl (by omega) Hl.out (by have := Hb0.out; omega)).mono ?_; rintro e w' ⟨rfl, rfl⟩)
      go_round
      case rel => exact ⟨k + 1, by omega, by go_num, by rw [Hn.out]⟩
      case measure => simp [intOf]; omega
    · obtain ek : k = s.size := by omega
      have Hk := hidden ek
      rw [ek]
      clear ek
      have Hl := hidden (hiRun_lt s s.size)
      go_wp2_with (go_at_call 26; refine (pstep_any _ _ (hiRun s s.size) 0 _ rfl rfl Hl.out (by decide)).mono ?_; rintro e w' ⟨rfl, rfl⟩)
      go_loop [5, 7] (fun ch i => ∃ k : Nat, k ≤ s.size ∧ i = .int .i64 k ∧ ch = .int .u32 ((loRun s k : Nat) : Int)) (fun _ i => s.size - (intOf i).toNat)
      case atStart => exact ⟨0, Nat.zero_le _, rfl, by rw [loRun_zero]⟩
      case round =>
        obtain ⟨k, hk, rfl, rfl⟩ := hrel
        by_cases hlt : k < s.size
        · have Hn := hidden (loRun_succ s k hlt)
          have Hb0 := hidden (UInt8.toNat_lt s[k])
          have Hl := hidden (loRun_lt s k)
          have Hv : Hid (bits BinOp.and IntKind.u8 ((s[k].toNat : Nat) : Int) 31 = ((s[k].toNat % 32 : Nat) : Int)) := by
            have h := u8_and31 (x := ((s[k].toNat : Nat) : Int)) (by omega) (by have := Hb0.out; omega)
            show _ = _
            rw [h]
            omega
          go_wp2_with (go_at_call 26; refine (pstep_any _ _ (loRun s k) (s[k].toNat % 32) _ rfl Hv.out Hl.out (by omega)).mono ?_; rintro e w' ⟨rfl, rfl⟩)
          go_round
          case rel => exact ⟨k + 1, by omega, by go_num, by rw [Hn.out]⟩
          case measure => simp [intOf]; omega
        · have ek : k = s.size := by omega
          rw [ek]
          clear ek
          go_wp2_with fail
          refine wp_loop_rounds 1 ?_
          rw [rounds_succ]
          go_wp2_with fail
          go_ret
          exact ⟨by rw [← He.out, List.length_nil, datRun_zero]; rfl, rfl⟩

/-- 'ZZpolymod', at a row of the call's own or at nil. -/
theorem zzpolymod_any (p : Option Addr) (s : ByteArray) (g n c : Nat) (ns : List Nat) (w : World) (hp : p = some ⟨g, 0, none⟩ ∨ p = none ∧ n = 0) (hs : s.size ≤ 1048576) (hn : n ≤ 2097152) (hz : ns.length = n) (hb : ∀ z ∈ ns, z < 256) (hrow : ∀ k, k < n → w.cell? ⟨g, k, none⟩ = some (.int .u8 (bt ns k))) :
    Calls Try.prog 10 #[.string s, .slice p n c] w fun e w' => e = .returned (.int .u32 ((pm (strBytes s) ns : Nat) : Int)) ∧ w = w' := by
  have hk : Calls Try.prog 20 #[.string s, .slice p n c] w fun e w' => e = .returned (.int .u32 ((pm (strBytes s) ns : Nat) : Int)) ∧ w = w' := by
    rcases hp with rfl | ⟨rfl, rfl⟩
    · exact polymod_some s g n c ns w hs hn hz hb hrow
    · obtain rfl : ns = [] := List.eq_nil_of_length_eq_zero hz
      exact polymod_nil s c w hs
  have Hk := hidden hk
  clear hp hs hn hz hb hrow hk
  go_enter Try.func10, Try.ntmps10
  go_wp2_with (go_at_call 20; refine (Hk.out).mono ?_; rintro e w1 ⟨rfl, rfl⟩)
  go_ret
  exact ⟨rfl, rfl⟩
end Go.Proofs.Qxb6619359a
