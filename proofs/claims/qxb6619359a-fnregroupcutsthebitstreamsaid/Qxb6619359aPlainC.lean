/-
  THE PLAIN LAW OF 'regroup cuts the bit stream': the stream's bits one by one, and windows of them. No Go in sight.
-/
import Derived.Test.Qxb6619359aPlainB
namespace Go.Proofs.Qxb6619359a

/-- Bit k of the stream, the first the highest. -/
def bitK (f : Nat) (zs : List Nat) (k : Nat) : Nat := num f zs / 2 ^ (zs.length * f - 1 - k) % 2

theorem bitK_lt (f : Nat) (zs : List Nat) (k : Nat) : bitK f zs k < 2 := Nat.mod_lt _ (by decide)

theorem bit_val (f : Nat) (zs : List Nat) (a b : Nat) (hz : ∀ z ∈ zs, z < 2 ^ f) (h256 : ∀ z ∈ zs, z < 256) (ha : a < zs.length) (hb : b < f) :
    bits BinOp.and IntKind.u8 (bt zs a / 2 ^ (f - 1 - b)) 1 = ((bitK f zs (a * f + b) : Nat) : Int) := by
  have h1 := getD_lt zs 256 (by decide) h256 a
  have e1 : bt zs a / 2 ^ (f - 1 - b) = ((zs.getD a 0 / 2 ^ (f - 1 - b) : Nat) : Int) := by unfold bt; simp
  have hlt : zs.getD a 0 / 2 ^ (f - 1 - b) < 256 := Nat.lt_of_le_of_lt (Nat.div_le_self _ _) h1
  have e2 : bits BinOp.and IntKind.u8 ((zs.getD a 0 / 2 ^ (f - 1 - b) : Nat) : Int) ((1 : Nat) : Int) = ((zs.getD a 0 / 2 ^ (f - 1 - b) &&& 1 : Nat) : Int) := u8_and_nat _ 1 hlt (by decide)
  rw [e1]
  refine e2.trans ?_
  rw [Nat.and_one_is_mod]
  congr 1
  unfold bitK
  have ed : zs.length * f - 1 - (a * f + b) = (zs.length - (a + 1)) * f + (f - 1 - b) := by
    have h : zs.length * f = (zs.length - (a + 1)) * f + (a + 1) * f := by rw [← Nat.add_mul]; congr 1; omega
    rw [h, Nat.succ_mul]
    omega
  rw [ed, Nat.pow_add, ← Nat.div_div_eq_div_mul, num_cut f zs hz (zs.length - (a + 1)) (a + 1) (by omega), num_take f zs a ha]
  have ef : 2 ^ f = 2 ^ (f - 1 - b) * (2 ^ b * 2) := by rw [← Nat.pow_succ, ← Nat.pow_add]; congr 1; omega
  rw [ef, ← Nat.mul_assoc, Nat.mul_comm (num f (List.take a zs)) (2 ^ (f - 1 - b)), Nat.mul_assoc, Nat.mul_add_div (Nat.two_pow_pos _), ← Nat.mul_assoc, Nat.mul_add_mod_self_right]

/-- The window of b bits that begins at place p of the stream. -/
def win (f : Nat) (zs : List Nat) (p b : Nat) : Nat := num f zs / 2 ^ (zs.length * f - (p + b)) % 2 ^ b

theorem win_lt (f : Nat) (zs : List Nat) (p b : Nat) : win f zs p b < 2 ^ b := Nat.mod_lt _ (Nat.two_pow_pos b)

theorem win_zero (f : Nat) (zs : List Nat) (p : Nat) : win f zs p 0 = 0 := by unfold win; rw [Nat.pow_zero, Nat.mod_one]

theorem win_step (f : Nat) (zs : List Nat) (p b : Nat) (h : p + b < zs.length * f) : win f zs p (b + 1) = win f zs p b * 2 + bitK f zs (p + b) := by
  unfold win bitK
  have e1 : zs.length * f - 1 - (p + b) = zs.length * f - (p + (b + 1)) := by omega
  have e2 : zs.length * f - (p + b) = (zs.length * f - (p + (b + 1))) + 1 := by omega
  rw [e1, e2, Nat.pow_succ 2 (zs.length * f - (p + (b + 1))), ← Nat.div_div_eq_div_mul, Nat.pow_succ, Nat.mul_comm (2 ^ b) 2, Nat.mod_mul]
  omega

theorem win_out (f t : Nat) (zs : List Nat) (j : Nat) : win f zs (j * t) t = outJ f t zs j := by
  unfold win outJ
  rw [Nat.succ_mul]

theorem win_rest (f : Nat) (zs : List Nat) (p r : Nat) (h : p + r = zs.length * f) : win f zs p r = restR f zs r := by
  unfold win restR
  rw [h, Nat.sub_self, Nat.pow_zero, Nat.div_one]

theorem or_bit (a b : Nat) (hb : b < 2) : (a * 2) ||| b = a * 2 + b := by
  have h := Nat.two_pow_add_eq_or_of_lt (i := 1) (b := b) (by simpa using hb) a
  rw [Nat.pow_one, Nat.mul_comm] at h
  exact h.symm

/-- One round of 'w = w<<1 | bit' on a byte. -/
theorem win_u8 (f : Nat) (zs : List Nat) (p b : Nat) (h : p + b < zs.length * f) (hb : b < 8) :
    bits BinOp.or IntKind.u8 (((win f zs p b : Nat) : Int) * 2 % 256) ((bitK f zs (p + b) : Nat) : Int) = ((win f zs p (b + 1) : Nat) : Int) := by
  have h1 := win_lt f zs p b
  have h2 : 2 ^ b ≤ 2 ^ 7 := Nat.pow_le_pow_right (by decide) (by omega)
  have h3 := bitK_lt f zs (p + b)
  have e : ((win f zs p b : Nat) : Int) * 2 % 256 = ((win f zs p b * 2 : Nat) : Int) := by omega
  rw [e, u8_or_nat _ _ (by omega) (by omega), or_bit _ _ h3, win_step f zs p b h]

/-- One round of 'tail = tail<<1 | uint32(bit)'. -/
theorem win_u32 (f : Nat) (zs : List Nat) (p b : Nat) (h : p + b < zs.length * f) (hb : b < 8) :
    bits BinOp.or IntKind.u32 (((win f zs p b : Nat) : Int) * 2 % 4294967296) ((bitK f zs (p + b) : Nat) : Int) = ((win f zs p (b + 1) : Nat) : Int) := by
  have h1 := win_lt f zs p b
  have h2 : 2 ^ b ≤ 2 ^ 7 := Nat.pow_le_pow_right (by decide) (by omega)
  have h3 := bitK_lt f zs (p + b)
  have e : ((win f zs p b : Nat) : Int) * 2 % 4294967296 = ((win f zs p b * 2 : Nat) : Int) := by omega
  rw [e, u32_or_nat _ _ (by omega) (by omega), or_bit _ _ h3, win_step f zs p b h]

theorem quo_val (n f t q r : Nat) (hq : q * t + r = n * f) (hr : r < t) : (n : Int) * f / t = (q : Int) := by
  have h := (count_end n f t q r hq hr).1
  have e : (n : Int) * f / t = ((n * f / t : Nat) : Int) := by simp
  rw [e, ← h]

end Go.Proofs.Qxb6619359a
