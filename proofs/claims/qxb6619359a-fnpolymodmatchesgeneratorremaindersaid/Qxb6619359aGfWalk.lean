/-
  THE WALKS OF 'gf32Mul' (27) AND 'genCoef' (28).
-/
import Derived.Test.Qxb6619359aBase
import Derived.Test.Qxb6619359aPlainG
namespace Go.Proofs.Qxb6619359a
open Go.RowKit

set_option maxHeartbeats 1000000 in
theorem genCoef_any (J : Int) (j : Nat) (w : World) (hJ : J = (j : Int)) (hj : j < 6) :
    Calls Try.prog 28 #[.int .i64 J] w fun e w' => e = .returned (.int .u8 ((genC j : Nat) : Int)) ∧ w = w' := by
  subst hJ
  match j, hj with
  | 0, _ | 1, _ | 2, _ | 3, _ | 4, _ | 5, _ =>
    go_enter Try.func28, Try.ntmps28
    go_wp2
    go_ret
    exact ⟨rfl, rfl⟩

theorem xt_tab : ∀ x : Fin 32, (x < 16 → (x * 2 &&& 32 : Nat) = 0 ∧ xt x = x * 2) ∧ (¬ x < 16 → (x * 2 &&& 32 : Nat) ≠ 0 ∧ (x * 2 ^^^ 41 : Nat) = xt x) := by decide +kernel

theorem bit_yes (b k : Nat) (hb : b < 32) (h : b / 2 ^ k % 2 = 1) : (bits BinOp.and IntKind.u8 ((b : Int) / 2 ^ k) 1 == 1) = true := by
  have hlt : b / 2 ^ k < 256 := Nat.lt_of_le_of_lt (Nat.div_le_self _ _) (by omega)
  have e1 : (b : Int) / 2 ^ k = ((b / 2 ^ k : Nat) : Int) := by simp
  have e2 : bits BinOp.and IntKind.u8 ((b / 2 ^ k : Nat) : Int) ((1 : Nat) : Int) = ((b / 2 ^ k &&& 1 : Nat) : Int) := u8_and_nat _ 1 hlt (by decide)
  rw [Nat.and_one_is_mod, h] at e2
  rw [e1, beq_iff_eq]
  exact e2

theorem bit_no (b k : Nat) (hb : b < 32) (h : ¬ b / 2 ^ k % 2 = 1) : (bits BinOp.and IntKind.u8 ((b : Int) / 2 ^ k) 1 == 1) = false := by
  have hlt : b / 2 ^ k < 256 := Nat.lt_of_le_of_lt (Nat.div_le_self _ _) (by omega)
  have e1 : (b : Int) / 2 ^ k = ((b / 2 ^ k : Nat) : Int) := by simp
  have e2 : bits BinOp.and IntKind.u8 ((b / 2 ^ k : Nat) : Int) ((1 : Nat) : Int) = ((b / 2 ^ k &&& 1 : Nat) : Int) := u8_and_nat _ 1 hlt (by decide)
  have h0 : b / 2 ^ k % 2 = 0 := by omega
  rw [Nat.and_one_is_mod, h0] at e2
  rw [e1, beq_eq_false_iff_ne]
  have e3 : bits BinOp.and IntKind.u8 ((b / 2 ^ k : Nat) : Int) 1 = 0 := e2
  rw [e3]
  decide

theorem top_no (x : Nat) (hx : x < 16) : (bits BinOp.and IntKind.u8 ((x : Int) * 2) 32 != 0) = false ∧ (x : Int) * 2 = ((xt x : Nat) : Int) := by
  obtain ⟨h1, h2⟩ := (xt_tab ⟨x, by omega⟩).1 hx
  have e1 : (x : Int) * 2 = ((x * 2 : Nat) : Int) := by simp
  have e2 : bits BinOp.and IntKind.u8 ((x * 2 : Nat) : Int) ((32 : Nat) : Int) = ((x * 2 &&& 32 : Nat) : Int) := u8_and_nat _ 32 (by omega) (by decide)
  have h1' : x * 2 &&& 32 = 0 := h1
  rw [h1'] at e2
  have h2' : xt x = x * 2 := h2
  refine ⟨?_, by rw [h2', e1]⟩
  rw [e1, bne_eq_false_iff_eq]
  exact e2

theorem top_yes (x : Nat) (hx : ¬ x < 16) (hx2 : x < 32) : (bits BinOp.and IntKind.u8 ((x : Int) * 2) 32 != 0) = true ∧ bits BinOp.xor IntKind.u8 ((x : Int) * 2) 41 = ((xt x : Nat) : Int) := by
  obtain ⟨h1, h2⟩ := (xt_tab ⟨x, by omega⟩).2 hx
  have e1 : (x : Int) * 2 = ((x * 2 : Nat) : Int) := by simp
  have e2 : bits BinOp.and IntKind.u8 ((x * 2 : Nat) : Int) ((32 : Nat) : Int) = ((x * 2 &&& 32 : Nat) : Int) := u8_and_nat _ 32 (by omega) (by decide)
  have e3 : bits BinOp.xor IntKind.u8 ((x * 2 : Nat) : Int) ((41 : Nat) : Int) = ((x * 2 ^^^ 41 : Nat) : Int) := u8_xor_nat _ 41 (by omega) (by decide)
  have h1' : x * 2 &&& 32 ≠ 0 := h1
  have h2' : x * 2 ^^^ 41 = xt x := h2
  refine ⟨?_, ?_⟩
  · rw [e1, bne_iff_ne]
    intro hc
    have hc' : ((x * 2 &&& 32 : Nat) : Int) = 0 := e2.symm.trans hc
    omega
  · rw [e1, ← h2']
    exact e3

set_option maxHeartbeats 1000000 in
theorem gf_any (A B : Int) (a b : Nat) (w : World) (hA : A = (a : Int)) (hB : B = (b : Int)) (ha : a < 32) (hb : b < 32) :
    Calls Try.prog 27 #[.int .u8 A, .int .u8 B] w fun e w' => e = .returned (.int .u8 ((gfm a b : Nat) : Int)) ∧ w = w' := by
  subst hA hB
  go_enter Try.func27, Try.ntmps27
  go_wp2_with fail
  go_loop [0, 5, 6] (fun av pv i => ∃ k : Nat, k ≤ 5 ∧ i = .int .i64 k ∧ av = .int .u8 ((xtI a k : Nat) : Int) ∧ pv = .int .u8 ((gP a b k : Nat) : Int)) (fun _ _ i => 5 - (intOf i).toNat)
  case atStart => exact ⟨0, Nat.zero_le _, rfl, rfl, rfl⟩
  case round =>
    obtain ⟨k, hk, rfl, rfl, rfl⟩ := hrel
    by_cases hk5 : k < 5
    · have hx := xtI_lt a ha k
      have hp := gP_lt a b ha k
      have Hxn : Hid (xtI a (k + 1) = xt (xtI a k)) := rfl
      have Hpx := hidden (u8_xor_nat (gP a b k) (xtI a k) (by omega) (by omega))
      by_cases hbit : b / 2 ^ k % 2 = 1
      · have t1 := bit_yes b k hb hbit
        have Hpn : Hid (gP a b (k + 1) = gP a b k ^^^ xtI a k) := by show _ = _; simp only [gP]; unfold sel; rw [if_pos hbit]
        clear hbit
        by_cases htop : xtI a k < 16
        · obtain ⟨t2, t3⟩ := top_no (xtI a k) htop
          have Ht3 := hidden t3
          clear t3 htop
          go_wp2_with fail
          go_round
          case rel => exact ⟨k + 1, by omega, by go_num, by rw [Hxn.out, ← Ht3.out], by rw [Hpn.out, ← Hpx.out]⟩
          case measure => simp [intOf]; omega
        · obtain ⟨t2, t3⟩ := top_yes (xtI a k) htop hx
          have Ht3 := hidden t3
          clear t3 htop
          go_wp2_with fail
          go_round
          case rel => exact ⟨k + 1, by omega, by go_num, by rw [Hxn.out, ← Ht3.out], by rw [Hpn.out, ← Hpx.out]⟩
          case measure => simp [intOf]; omega
      · have t1 := bit_no b k hb hbit
        have Hpn : Hid (gP a b (k + 1) = gP a b k) := by show _ = _; simp only [gP]; unfold sel; rw [if_neg hbit, Nat.xor_zero]
        clear hbit
        by_cases htop : xtI a k < 16
        · obtain ⟨t2, t3⟩ := top_no (xtI a k) htop
          have Ht3 := hidden t3
          clear t3 htop
          go_wp2_with fail
          go_round
          case rel => exact ⟨k + 1, by omega, by go_num, by rw [Hxn.out, ← Ht3.out], by rw [Hpn.out]⟩
          case measure => simp [intOf]; omega
        · obtain ⟨t2, t3⟩ := top_yes (xtI a k) htop hx
          have Ht3 := hidden t3
          clear t3 htop
          go_wp2_with fail
          go_round
          case rel => exact ⟨k + 1, by omega, by go_num, by rw [Hxn.out, ← Ht3.out], by rw [Hpn.out]⟩
          case measure => simp [intOf]; omega
    · obtain rfl : k = 5 := by omega
      go_wp2_with fail
      go_ret
      exact ⟨rfl, rfl⟩
end Go.Proofs.Qxb6619359a
