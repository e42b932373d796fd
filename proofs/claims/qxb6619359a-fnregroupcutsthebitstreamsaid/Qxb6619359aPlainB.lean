/-
  THE PLAIN LAW OF 'there and back again': the stream cut into digits of t bits, its rest filled out with zero bits, cut back into digits of f bits. No Go in sight.
-/
import Derived.Test.Qxb6619359aPlainR
namespace Go.Proofs.Qxb6619359a

theorem outJ_lt (f t : Nat) (zs : List Nat) (j : Nat) : outJ f t zs j < 2 ^ t := Nat.mod_lt _ (Nat.two_pow_pos t)

/-- The first j new digits spell the stream's head. -/
theorem num_outs (f t : Nat) (zs : List Nat) (hz : ∀ z ∈ zs, z < 2 ^ f) : ∀ j, j * t ≤ zs.length * f → num t ((List.range j).map (outJ f t zs)) = num f zs / 2 ^ (zs.length * f - j * t)
  | 0, _ => by
    have h := num_lt f zs hz
    simp only [List.range_zero, List.map_nil, num_nil, Nat.zero_mul, Nat.sub_zero]
    exact (Nat.div_eq_of_lt h).symm
  | j + 1, h => by
    have h' : j * t ≤ zs.length * f := Nat.le_trans (Nat.mul_le_mul_right t (by omega)) h
    rw [List.range_succ, List.map_append, List.map_singleton, num_snoc, num_outs f t zs hz j h']
    have ee : zs.length * f - j * t = (zs.length * f - (j + 1) * t) + t := by
      rw [Nat.succ_mul] at h ⊢; omega
    rw [ee, Nat.pow_add, ← Nat.div_div_eq_div_mul]
    unfold outJ
    rw [Nat.mul_comm]
    exact Nat.div_add_mod _ _

/-- The bits that fill out the last digit. -/
def padB (t r : Nat) : Nat := if 0 < r then t - r else 0

/-- The digits handed back on the second way. -/
def pads (f t : Nat) (zs : List Nat) (q r : Nat) : List Nat := (List.range q).map (outJ f t zs) ++ if 0 < r then [num f zs % 2 ^ r * 2 ^ (t - r)] else []

theorem pads_length (f t : Nat) (zs : List Nat) (q r : Nat) : (pads f t zs q r).length = q + if 0 < r then 1 else 0 := by
  unfold pads
  by_cases h : 0 < r
  · rw [if_pos h, if_pos h]; simp
  · rw [if_neg h, if_neg h]; simp

theorem pads_bits (f t : Nat) (zs : List Nat) (q r : Nat) (hq : q * t + r = zs.length * f) (hr : r < t) : (pads f t zs q r).length * t = zs.length * f + padB t r := by
  rw [pads_length]
  unfold padB
  by_cases h : 0 < r
  · rw [if_pos h, if_pos h, Nat.succ_mul]; omega
  · rw [if_neg h, if_neg h, Nat.add_zero]; omega

theorem pads_num (f t : Nat) (zs : List Nat) (q r : Nat) (hz : ∀ z ∈ zs, z < 2 ^ f) (hq : q * t + r = zs.length * f) (hr : r < t) : num t (pads f t zs q r) = num f zs * 2 ^ padB t r := by
  have h1 := num_outs f t zs hz q (by omega)
  have e : zs.length * f - q * t = r := by omega
  rw [e] at h1
  unfold pads padB
  by_cases h : 0 < r
  · rw [if_pos h, if_pos h, num_snoc, h1]
    have et : 2 ^ t = 2 ^ r * 2 ^ (t - r) := by rw [← Nat.pow_add]; congr 1; omega
    rw [et, ← Nat.mul_assoc, ← Nat.add_mul]
    congr 1
    rw [Nat.mul_comm]
    exact Nat.div_add_mod _ _
  · have r0 : r = 0 := by omega
    subst r0
    simp at h1 ⊢
    exact h1

theorem pads_lt (f t : Nat) (zs : List Nat) (q r : Nat) (hr : r < t) : ∀ z ∈ pads f t zs q r, z < 2 ^ t := by
  intro z hm
  unfold pads at hm
  rcases List.mem_append.1 hm with hm | hm
  · obtain ⟨j, _, rfl⟩ := List.mem_map.1 hm
    exact outJ_lt f t zs j
  · by_cases h : 0 < r
    · rw [if_pos h] at hm
      simp at hm
      subst hm
      have et : 2 ^ t = 2 ^ r * 2 ^ (t - r) := by rw [← Nat.pow_add]; congr 1; omega
      rw [et]
      exact Nat.mul_lt_mul_of_pos_right (Nat.mod_lt _ (Nat.two_pow_pos r)) (Nat.two_pow_pos _)
    · rw [if_neg h] at hm
      simp at hm

/-- A value comes back as it was. -/
theorem back_val (f t : Nat) (zs : List Nat) (q r k : Nat) (hz : ∀ z ∈ zs, z < 2 ^ f) (hq : q * t + r = zs.length * f) (hr : r < t) (hk : k < zs.length) : outJ t f (pads f t zs q r) k = zs.getD k 0 := by
  unfold outJ
  rw [pads_num f t zs q r hz hq hr, pads_bits f t zs q r hq hr]
  have h1 : zs.length * f = (zs.length - (k + 1)) * f + (k + 1) * f := by rw [← Nat.add_mul]; congr 1; omega
  have e : zs.length * f + padB t r - (k + 1) * f = (zs.length - (k + 1)) * f + padB t r := by omega
  rw [e, Nat.pow_add, Nat.mul_div_mul_right _ _ (Nat.two_pow_pos _), num_cut f zs hz (zs.length - (k + 1)) (k + 1) (by omega), num_take f zs k hk, Nat.mul_comm, Nat.mul_add_mod,
    Nat.mod_eq_of_lt (getD_lt zs (2 ^ f) (Nat.two_pow_pos f) hz k)]

/-- Behind the values there are zeros alone. -/
theorem back_zero (f t : Nat) (zs : List Nat) (q r q2 r2 k : Nat) (hz : ∀ z ∈ zs, z < 2 ^ f) (hq : q * t + r = zs.length * f) (hr : r < t) (hq2 : q2 * f + r2 = (pads f t zs q r).length * t) (hk : zs.length ≤ k) (hk2 : k < q2) :
    outJ t f (pads f t zs q r) k = 0 := by
  unfold outJ
  rw [pads_num f t zs q r hz hq hr]
  rw [pads_bits f t zs q r hq hr] at hq2 ⊢
  have hle : (k + 1) * f ≤ q2 * f := Nat.mul_le_mul_right f (by omega)
  have h1 : (k + 1) * f = zs.length * f + (k - zs.length) * f + f := by
    rw [Nat.succ_mul, ← Nat.add_mul]; congr 2; omega
  have e : padB t r = (zs.length * f + padB t r - (k + 1) * f) + ((k - zs.length) * f + f) := by omega
  generalize he : zs.length * f + padB t r - (k + 1) * f = d at *
  rw [e, Nat.pow_add, ← Nat.mul_assoc, Nat.mul_right_comm, Nat.mul_div_cancel _ (Nat.two_pow_pos d), Nat.pow_add, ← Nat.mul_assoc]
  exact Nat.mul_mod_left _ _

theorem back_count (f t : Nat) (zs : List Nat) (q r q2 r2 : Nat) (hq : q * t + r = zs.length * f) (hr : r < t) (hq2 : q2 * f + r2 = (pads f t zs q r).length * t) (hr2 : r2 < f) : zs.length ≤ q2 ∧ r2 ≤ padB t r := by
  rw [pads_bits f t zs q r hq hr] at hq2
  have h1 : zs.length ≤ q2 := by
    rcases Nat.lt_or_ge q2 zs.length with h | h
    · have h3 : (q2 + 1) * f ≤ zs.length * f := Nat.mul_le_mul_right f (by omega)
      rw [Nat.succ_mul] at h3
      omega
    · exact h
  have h2 : zs.length * f ≤ q2 * f := Nat.mul_le_mul_right f h1
  exact ⟨h1, by omega⟩

theorem back_rest (f t : Nat) (zs : List Nat) (q r q2 r2 : Nat) (hz : ∀ z ∈ zs, z < 2 ^ f) (hq : q * t + r = zs.length * f) (hr : r < t) (hq2 : q2 * f + r2 = (pads f t zs q r).length * t) (hr2 : r2 < f) :
    num t (pads f t zs q r) % 2 ^ r2 = 0 := by
  have h := (back_count f t zs q r q2 r2 hq hr hq2 hr2).2
  rw [pads_num f t zs q r hz hq hr]
  have e : padB t r = (padB t r - r2) + r2 := by omega
  rw [e, Nat.pow_add, ← Nat.mul_assoc]
  exact Nat.mul_mod_left _ _

theorem pads_getD (f t : Nat) (zs : List Nat) (q r j : Nat) (hj : j < q) : (pads f t zs q r).getD j 0 = outJ f t zs j := by
  unfold pads
  rw [List.getD_eq_getElem?_getD, List.getElem?_append_left (by simpa using hj)]
  simp [hj]

/-- With the rest appended the row is the list that goes back. -/
theorem pads_content (f t : Nat) (zs : List Nat) (q r : Nat) (h : 0 < r) : (content f t zs (q + 1) q).set q (num f zs % 2 ^ r * 2 ^ (t - r)) = pads f t zs q r := by
  apply List.ext_getElem
  · rw [pads_length, if_pos h]; simp [content]
  · intro i h1 h2
    simp only [content, List.length_set, List.length_map, List.length_range] at h1
    simp only [content, List.getElem_set, List.getElem_map, List.getElem_range, pads, if_pos h]
    by_cases e : q = i
    · subst e
      simp
    · rw [if_neg e, if_pos (by omega), List.getElem_append_left (by simp; omega)]
      simp
theorem pad_val (f t : Nat) (zs : List Nat) (r : Nat) (hr : r < t) (ht : t ≤ 8) : ((restR f zs r : Nat) : Int) * 2 ^ (t - r) % 256 = ((restR f zs r * 2 ^ (t - r) : Nat) : Int) := by
  have e : (2 : Int) ^ (t - r) = ((2 ^ (t - r) : Nat) : Int) := by simp
  have et : 2 ^ t = 2 ^ r * 2 ^ (t - r) := by rw [← Nat.pow_add]; congr 1; omega
  have h1 : restR f zs r * 2 ^ (t - r) < 2 ^ r * 2 ^ (t - r) := Nat.mul_lt_mul_of_pos_right (restR_lt f zs r) (Nat.two_pow_pos _)
  have h2 : 2 ^ t ≤ 2 ^ 8 := Nat.pow_le_pow_right (by decide) ht
  rw [e, ← Int.natCast_mul]
  rw [← et] at h1
  omega

/-- The bytes of the list that goes back lie in the row, whether or not the rest was appended. -/
theorem pads_bt (f t : Nat) (zs : List Nat) (q r k : Nat) (hk : k < q) : bt (content f t zs (q + 1) q) k = bt (pads f t zs q r) k := by
  unfold bt
  rw [content_getD f t zs (q + 1) q k hk (by omega), pads_getD f t zs q r k hk]

theorem pads_256 (f t : Nat) (zs : List Nat) (q r : Nat) (hr : r < t) (ht : t ≤ 8) : ∀ z ∈ pads f t zs q r, z < 256 := by
  intro z hz
  have h1 := pads_lt f t zs q r hr z hz
  have h2 : 2 ^ t ≤ 2 ^ 8 := Nat.pow_le_pow_right (by decide) ht
  omega

/-- The numbers that the law's tests meet on the way out. -/
theorem out_tests (n f t q r : Nat) (hn : n ≤ 8388609) (hf8 : f ≤ 8) (ht1 : 1 ≤ t) (hq : q * t + r = n * f) :
    q ≤ n * 8 ∧ (0 : Int) ≤ (q : Int) * t ∧ (q : Int) * t ≤ 67108872 ∧ (0 : Int) ≤ (n : Int) * f ∧ (n : Int) * f ≤ 67108872 ∧ ((q : Int) * t + r != (n : Int) * f) = false := by
  have h1 : n * f ≤ n * 8 := Nat.mul_le_mul_left n hf8
  have h2 : q * 1 ≤ q * t := Nat.mul_le_mul_left q ht1
  have e1 : (q : Int) * t = ((q * t : Nat) : Int) := by simp
  have e2 : (n : Int) * f = ((n * f : Nat) : Int) := by simp
  rw [e1, e2]
  refine ⟨by omega, Int.natCast_nonneg _, by omega, Int.natCast_nonneg _, by omega, ?_⟩
  rw [bne_eq_false_iff_eq]
  omega

end Go.Proofs.Qxb6619359a
