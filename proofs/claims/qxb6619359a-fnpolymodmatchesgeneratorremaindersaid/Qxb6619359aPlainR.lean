/-
  THE PLAIN LAWS OF regroup: lists of digits and the number that they spell. No Go call in sight (the words 'bits' and 'wrap' are the model's arithmetic on machine words).
-/
import Derived.Laws.BitsLemmas
import Derived.Laws.BitsAllLaws
namespace Go.Proofs.Qxb6619359a

/-- Byte k of a list, as the number that a cell holds. -/
def bt (zs : List Nat) (k : Nat) : Int := ((zs.getD k 0 : Nat) : Int)

theorem bt_nonneg (zs : List Nat) (k : Nat) : 0 ≤ bt zs k := Int.natCast_nonneg _

theorem getD_lt (zs : List Nat) (B : Nat) (hB : 0 < B) (h : ∀ z ∈ zs, z < B) (k : Nat) : zs.getD k 0 < B := by
  rw [List.getD_eq_getElem?_getD]
  rcases hk : zs[k]? with _ | z
  · simpa using hB
  · simpa using h z (List.mem_of_getElem? hk)

theorem bt_le (zs : List Nat) (h : ∀ z ∈ zs, z < 256) (k : Nat) : bt zs k ≤ 255 := by
  unfold bt
  have := getD_lt zs 256 (by decide) h k
  omega

/-- The number that the digits spell in base 2^f, the first digit the highest. -/
def num (f : Nat) (zs : List Nat) : Nat := zs.foldl (fun a v => a * 2 ^ f + v) 0

theorem num_nil (f : Nat) : num f [] = 0 := rfl

theorem num_snoc (f : Nat) (zs : List Nat) (v : Nat) : num f (zs ++ [v]) = num f zs * 2 ^ f + v := by simp [num, List.foldl_append]

theorem take_snoc (zs : List Nat) (k : Nat) (h : k < zs.length) : zs.take (k + 1) = zs.take k ++ [zs.getD k 0] := by
  rw [List.take_succ_eq_append_getElem h]
  simp [h]

theorem num_take (f : Nat) (zs : List Nat) (k : Nat) (h : k < zs.length) : num f (zs.take (k + 1)) = num f (zs.take k) * 2 ^ f + zs.getD k 0 := by
  rw [take_snoc zs k h, num_snoc]

/-- What the digits behind place k add is less than one unit of that place. -/
theorem num_cut (f : Nat) (zs : List Nat) (hz : ∀ z ∈ zs, z < 2 ^ f) : ∀ d k, k + d = zs.length → num f zs / 2 ^ (d * f) = num f (zs.take k)
  | 0, k, h => by
    have e : zs.take k = zs := List.take_of_length_le (by omega)
    simp [e]
  | d + 1, k, h => by
    have ih := num_cut f zs hz d (k + 1) (by omega)
    have e : 2 ^ ((d + 1) * f) = 2 ^ (d * f) * 2 ^ f := by rw [← Nat.pow_add]; congr 1; rw [Nat.succ_mul]
    rw [e, ← Nat.div_div_eq_div_mul, ih, num_take f zs k (by omega)]
    have hlt := getD_lt zs (2 ^ f) (Nat.two_pow_pos f) hz k
    rw [Nat.mul_comm, Nat.mul_add_div (Nat.two_pow_pos f), Nat.div_eq_of_lt hlt, Nat.add_zero]

theorem num_lt (f : Nat) (zs : List Nat) (hz : ∀ z ∈ zs, z < 2 ^ f) : num f zs < 2 ^ (zs.length * f) := by
  have h := num_cut f zs hz zs.length 0 (by omega)
  simp [num_nil] at h
  exact h

/-- Digit j of the stream, cut anew into digits of t bits. -/
def outJ (f t : Nat) (zs : List Nat) (j : Nat) : Nat := num f zs / 2 ^ (zs.length * f - (j + 1) * t) % 2 ^ t

/-- The row of the new digits after m of them are written: the rest still zero. -/
def content (f t : Nat) (zs : List Nat) (cap m : Nat) : List Nat := (List.range cap).map fun j => if j < m then outJ f t zs j else 0

theorem content_length (f t : Nat) (zs : List Nat) (cap m : Nat) : (content f t zs cap m).length = cap := by simp [content]

theorem content_zero (f t : Nat) (zs : List Nat) (cap : Nat) : content f t zs cap 0 = List.replicate cap 0 := by
  apply List.ext_getElem
  · simp [content]
  · intro i h1 h2
    simp [content]

theorem content_set (f t : Nat) (zs : List Nat) (cap m : Nat) : (content f t zs cap m).set m (outJ f t zs m) = content f t zs cap (m + 1) := by
  apply List.ext_getElem
  · simp [content]
  · intro i h1 h2
    simp only [content, List.getElem_set, List.getElem_map, List.getElem_range]
    by_cases e : m = i
    · subst e; simp
    · rw [if_neg e]
      by_cases c : i < m
      · rw [if_pos c, if_pos (by omega)]
      · rw [if_neg c, if_neg (by omega)]

theorem content_getD (f t : Nat) (zs : List Nat) (cap m j : Nat) (hj : j < m) (hm : m ≤ cap) : (content f t zs cap m).getD j 0 = outJ f t zs j := by
  simp [content, List.getD_eq_getElem?_getD, show j < cap by omega, hj]

/-- The accumulator behind k values: the low 32 bits. -/
def accK (f : Nat) (zs : List Nat) (k : Nat) : Nat := num f (zs.take k) % 4294967296

theorem accK_lt (f : Nat) (zs : List Nat) (k : Nat) : accK f zs k < 4294967296 := Nat.mod_lt _ (by decide)

theorem accK_zero (f : Nat) (zs : List Nat) : accK f zs 0 = 0 := by simp [accK, num]

theorem or_low (a v f : Nat) (hf : f ≤ 8) (hv : v < 2 ^ f) : (a * 2 ^ f % 4294967296) ||| v = (a * 2 ^ f + v) % 4294967296 := by
  have e32 : 4294967296 = 2 ^ f * 2 ^ (32 - f) := by
    rw [← Nat.pow_add, show f + (32 - f) = 32 by omega]
  have e1 : a * 2 ^ f % 4294967296 = 2 ^ f * (a % 2 ^ (32 - f)) := by
    rw [e32, Nat.mul_comm a, Nat.mul_mod_mul_left]
  rw [e1, ← Nat.two_pow_add_eq_or_of_lt hv]
  have e2 : (a * 2 ^ f + v) / 2 ^ f = a := by
    rw [Nat.mul_comm, Nat.mul_add_div (Nat.two_pow_pos f), Nat.div_eq_of_lt hv, Nat.add_zero]
  have e3 : (a * 2 ^ f + v) % 2 ^ f = v := by
    rw [Nat.mul_comm, Nat.mul_add_mod, Nat.mod_eq_of_lt hv]
  rw [e32, Nat.mod_mul, e2, e3, Nat.add_comm]

theorem acc_step (f : Nat) (zs : List Nat) (k : Nat) (hk : k < zs.length) (hf : f ≤ 8) (hz : ∀ z ∈ zs, z < 2 ^ f) :
    bits BinOp.or IntKind.u32 (((accK f zs k : Nat) : Int) * 2 ^ f % 4294967296) (bt zs k) = ((accK f zs (k + 1) : Nat) : Int) := by
  have hv := getD_lt zs (2 ^ f) (Nat.two_pow_pos f) hz k
  have h8 : 2 ^ f ≤ 2 ^ 8 := Nat.pow_le_pow_right (by decide) hf
  have e1 : ((accK f zs k : Nat) : Int) * 2 ^ f % 4294967296 = ((accK f zs k * 2 ^ f % 4294967296 : Nat) : Int) := by simp
  unfold bt
  rw [e1, u32_or_nat _ _ (Nat.mod_lt _ (by decide)) (by omega), or_low _ _ f hf hv]
  unfold accK
  rw [num_take f zs k hk]
  congr 1
  rw [Nat.add_mod, Nat.mod_mul_mod, ← Nat.add_mod]

theorem mask_u32 (t : Nat) (ht : t ≤ 31) : IntKind.u32.wrap (IntKind.u32.wrap (2 ^ t) - 1) = ((2 ^ t - 1 : Nat) : Int) := by
  have h : 2 ^ t ≤ 2 ^ 31 := Nat.pow_le_pow_right (by decide) ht
  have hp : 0 < 2 ^ t := Nat.two_pow_pos t
  have e : (2 : Int) ^ t = ((2 ^ t : Nat) : Int) := by simp
  rw [IntKind.wrap_u32, IntKind.wrap_u32, e]
  omega

theorem and_mask (a t : Nat) (ha : a < 4294967296) (ht : t ≤ 31) : bits BinOp.and IntKind.u32 (a : Int) (IntKind.u32.wrap (IntKind.u32.wrap (2 ^ t) - 1)) = ((a % 2 ^ t : Nat) : Int) := by
  have h : 2 ^ t ≤ 2 ^ 31 := Nat.pow_le_pow_right (by decide) ht
  rw [mask_u32 t ht, u32_and_nat _ _ ha (by omega), Nat.and_two_pow_sub_one_eq_mod]

theorem low_cut (M e t : Nat) (h : e + t ≤ 32) : M % 4294967296 / 2 ^ e % 2 ^ t = M / 2 ^ e % 2 ^ t := by
  have e32 : 4294967296 = 2 ^ e * 2 ^ (32 - e) := by
    rw [← Nat.pow_add, show e + (32 - e) = 32 by omega]
  rw [e32, Nat.mod_mul_right_div_self, Nat.mod_mod_of_dvd]
  exact Nat.pow_dvd_pow 2 (by omega)

/-- The digit that the inner round writes is the digit of the whole stream. -/
theorem out_step (f t : Nat) (zs : List Nat) (k m r : Nat) (hk : k < zs.length) (hz : ∀ z ∈ zs, z < 2 ^ f) (hm : m * t + r = (k + 1) * f) (htr : t ≤ r) (hr : r ≤ 15) (ht : t ≤ 8) :
    IntKind.u8.wrap (bits BinOp.and IntKind.u32 (((accK f zs (k + 1) : Nat) : Int) / 2 ^ (r - t)) (IntKind.u32.wrap (IntKind.u32.wrap (2 ^ t) - 1))) = ((outJ f t zs m : Nat) : Int) := by
  have e1 : ((accK f zs (k + 1) : Nat) : Int) / 2 ^ (r - t) = ((accK f zs (k + 1) / 2 ^ (r - t) : Nat) : Int) := by simp
  have hlt : accK f zs (k + 1) / 2 ^ (r - t) < 4294967296 := Nat.lt_of_le_of_lt (Nat.div_le_self _ _) (accK_lt _ _ _)
  rw [e1, and_mask _ t hlt (by omega)]
  have h8 : 2 ^ t ≤ 2 ^ 8 := Nat.pow_le_pow_right (by decide) ht
  have hmod : accK f zs (k + 1) / 2 ^ (r - t) % 2 ^ t < 2 ^ t := Nat.mod_lt _ (Nat.two_pow_pos t)
  rw [IntKind.wrap_u8]
  have e2 : accK f zs (k + 1) / 2 ^ (r - t) % 2 ^ t = outJ f t zs m := by
    unfold accK outJ
    rw [low_cut _ _ _ (by omega)]
    have ed : zs.length * f - (m + 1) * t = (zs.length - (k + 1)) * f + (r - t) := by
      have h1 : zs.length * f = (zs.length - (k + 1)) * f + (k + 1) * f := by rw [← Nat.add_mul]; congr 1; omega
      rw [h1, ← hm, Nat.succ_mul]
      omega
    rw [ed, Nat.pow_add, ← Nat.div_div_eq_div_mul, num_cut f zs hz (zs.length - (k + 1)) (k + 1) (by omega)]
  rw [e2] at hmod ⊢
  omega

/-- There is room for one digit more as long as the inner loop goes on. -/
theorem room_step (n f t k m r : Nat) (hk : k < n) (hm : m * t + r = (k + 1) * f) (htr : t ≤ r) (ht : 1 ≤ t) : m < n * f / t := by
  have h1 : (k + 1) * f ≤ n * f := Nat.mul_le_mul_right f (by omega)
  have h2 : (m + 1) * t ≤ n * f := by rw [Nat.succ_mul]; omega
  have := (Nat.le_div_iff_mul_le (show 0 < t by omega)).2 h2
  omega

/-- What is left over. -/
theorem rest_step (f : Nat) (zs : List Nat) (n r : Nat) (hn : zs.length = n) (hr : r ≤ 31) :
    bits BinOp.and IntKind.u32 ((accK f zs n : Nat) : Int) (IntKind.u32.wrap (IntKind.u32.wrap (2 ^ r) - 1)) = ((num f zs % 2 ^ r : Nat) : Int) := by
  rw [and_mask _ r (accK_lt _ _ _) hr]
  unfold accK
  rw [List.take_of_length_le (by omega), Nat.mod_mod_of_dvd]
  have : (4294967296 : Nat) = 2 ^ 32 := by decide
  rw [this]
  exact Nat.pow_dvd_pow 2 (by omega)

/-- The same in the spelling of a region that draws. -/
theorem rest_step' (f : Nat) (zs : List Nat) (n r : Nat) (hn : zs.length = n) (hr : r ≤ 31) :
    bits BinOp.and IntKind.u32 ((accK f zs n : Nat) : Int) ((2 ^ r - 1) % 4294967296) = ((num f zs % 2 ^ r : Nat) : Int) := by
  rw [← rest_step f zs n r hn hr, mask_u32 r hr]
  congr 1
  have h : 2 ^ r ≤ 2 ^ 31 := Nat.pow_le_pow_right (by decide) hr
  have hp : 0 < 2 ^ r := Nat.two_pow_pos r
  have e : (2 : Int) ^ r = ((2 ^ r : Nat) : Int) := by simp
  rw [e]
  omega

/-- The bits left over, under a name. -/
def restR (f : Nat) (zs : List Nat) (r : Nat) : Nat := num f zs % 2 ^ r

theorem restR_lt (f : Nat) (zs : List Nat) (r : Nat) : restR f zs r < 2 ^ r := Nat.mod_lt _ (Nat.two_pow_pos r)

theorem shift_none (a : Int) (R f : Nat) (ha : a = (R : Int)) (h : R < 2 ^ f) : (a / 2 ^ f != 0) = false := by
  have e : (2 : Int) ^ f = ((2 ^ f : Nat) : Int) := by simp
  rw [ha, e, ← Int.natCast_ediv, Nat.div_eq_of_lt h]
  rfl

theorem shift_some (a : Int) (R f : Nat) (ha : a = (R : Int)) (h : ¬ R < 2 ^ f) : (a / 2 ^ f != 0) = true := by
  have e : (2 : Int) ^ f = ((2 ^ f : Nat) : Int) := by simp
  rw [ha, e, ← Int.natCast_ediv, bne_iff_ne]
  have := Nat.div_pos (Nat.le_of_not_lt h) (Nat.two_pow_pos f)
  omega

theorem all_low (f : Nat) (zs : List Nat) (n : Nat) (hn : zs.length = n) (h : ∀ j, j < n → zs.getD j 0 < 2 ^ f) : ∀ z ∈ zs, z < 2 ^ f := by
  intro z hz
  obtain ⟨j, hj, rfl⟩ := List.getElem_of_mem hz
  have := h j (by omega)
  simpa [hj] using this

theorem count_end (n f t m r : Nat) (hm : m * t + r = n * f) (hr : r < t) : m = n * f / t ∧ r = n * f % t := by
  have h1 : n * f / t = m := by
    rw [← hm, Nat.mul_comm, Nat.mul_add_div (by omega), Nat.div_eq_of_lt hr, Nat.add_zero]
  have h2 : n * f % t = r := by
    rw [← hm, Nat.mul_comm, Nat.mul_add_mod, Nat.mod_eq_of_lt hr]
  exact ⟨h1.symm, h2.symm⟩
end Go.Proofs.Qxb6619359a
