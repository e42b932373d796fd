/-
  THE PLAIN LAWS OF polymod AND checksum: a burst of six, one value changed, the checksum closes. No Go in sight.
-/
import Derived.Test.Qxb6619359aPlainP
namespace Go.Proofs.Qxb6619359a

/-- A row while it is filled from ns: k bytes done, the rest zero. -/
def cpK (ns : List Nat) (m k : Nat) : List Nat := (List.range m).map fun i => if i < k then ns.getD i 0 else 0

theorem cpK_length (ns : List Nat) (m k : Nat) : (cpK ns m k).length = m := by simp [cpK]

theorem cpK_zero (ns : List Nat) (m : Nat) : cpK ns m 0 = List.replicate m 0 := by
  apply List.ext_getElem
  · simp [cpK]
  · intro i h1 h2; simp [cpK]

theorem cpK_set (ns : List Nat) (m k : Nat) : (cpK ns m k).set k (ns.getD k 0) = cpK ns m (k + 1) := by
  apply List.ext_getElem
  · simp [cpK]
  · intro i h1 h2
    simp only [cpK, List.getElem_set, List.getElem_map, List.getElem_range]
    by_cases e : k = i
    · subst e; rw [if_pos rfl, if_pos (by omega)]
    · rw [if_neg e]
      by_cases c : i < k
      · rw [if_pos c, if_pos (by omega)]
      · rw [if_neg c, if_neg (by omega)]

theorem cpK_end (ns : List Nat) : cpK ns ns.length ns.length = ns := by
  apply List.ext_getElem
  · simp [cpK]
  · intro i h1 h2
    simp only [cpK, List.getElem_map, List.getElem_range]
    rw [if_pos h2]
    simp [h2]

/-- The data with the first j values of the patch laid over it from place P on. -/
def patchK (ns : List Nat) (P : Nat) (ps : List Nat) (j : Nat) : List Nat := (List.range ns.length).map fun i => if P ≤ i ∧ i < P + j then ps.getD (i - P) 0 else ns.getD i 0

theorem patchK_length (ns : List Nat) (P : Nat) (ps : List Nat) (j : Nat) : (patchK ns P ps j).length = ns.length := by simp [patchK]

theorem patchK_zero (ns : List Nat) (P : Nat) (ps : List Nat) : patchK ns P ps 0 = ns := by
  apply List.ext_getElem
  · simp [patchK]
  · intro i h1 h2
    simp only [patchK, List.getElem_map, List.getElem_range]
    rw [if_neg (by omega)]
    simp [h2]

theorem patchK_set (ns : List Nat) (P : Nat) (ps : List Nat) (j : Nat) : (patchK ns P ps j).set (P + j) (ps.getD j 0) = patchK ns P ps (j + 1) := by
  apply List.ext_getElem
  · simp [patchK]
  · intro i h1 h2
    simp only [patchK, List.getElem_set, List.getElem_map, List.getElem_range]
    by_cases e : P + j = i
    · subst e
      rw [if_pos rfl, if_pos (by omega), Nat.add_sub_cancel_left]
    · rw [if_neg e]
      by_cases c : P ≤ i ∧ i < P + j
      · rw [if_pos c, if_pos (by omega)]
      · rw [if_neg c, if_neg (by omega)]

theorem patchK_lt (ns : List Nat) (P : Nat) (ps : List Nat) (j : Nat) (hn : ∀ z ∈ ns, z < 256) (hp : ∀ z ∈ ps, z < 256) : ∀ z ∈ patchK ns P ps j, z < 256 := by
  intro z hz
  obtain ⟨i, _, rfl⟩ := List.mem_map.1 hz
  show (if P ≤ i ∧ i < P + j then ps.getD (i - P) 0 else ns.getD i 0) < 256
  split
  · exact getD_lt ps 256 (by decide) hp _
  · exact getD_lt ns 256 (by decide) hn _

theorem patchK_parts (ns : List Nat) (P : Nat) (ps : List Nat) (h : P + ps.length ≤ ns.length) : patchK ns P ps ps.length = ns.take P ++ (ps ++ ns.drop (P + ps.length)) := by
  apply List.ext_getElem
  · simp [patchK]; omega
  · intro i h1 h2
    rw [patchK_length] at h1
    simp only [patchK, List.getElem_map, List.getElem_range]
    by_cases c1 : i < P
    · rw [if_neg (by omega), List.getElem_append_left (by simp; omega)]
      simp [h1]
    · rw [List.getElem_append_right (by simp; omega)]
      have e1 : i - (ns.take P).length = i - P := by simp; omega
      by_cases c2 : i < P + ps.length
      · rw [if_pos (by omega), List.getElem_append_left (by simp; omega)]
        have h3 : i - P < ps.length := by omega
        have e0 : min P ns.length = P := by omega
        simp [h3, e0]
      · rw [if_neg (by omega), List.getElem_append_right (by simp; omega)]
        simp only [List.getElem_drop, e1]
        have e2 : P + ps.length + (i - P - ps.length) = i := by omega
        simp [e2, h1]

theorem split3 (ns : List Nat) (P m : Nat) : ns = ns.take P ++ ((ns.drop P).take m ++ ns.drop (P + m)) := by
  rw [← List.drop_drop, List.take_append_drop, List.take_append_drop]

/-- Whether the first j values of the patch are those that they are laid over. -/
def sameK (ns : List Nat) (P : Nat) (ps : List Nat) (j : Nat) : Bool := decide (∀ i, i < j → ps.getD i 0 = ns.getD (P + i) 0)

theorem sameK_zero (ns : List Nat) (P : Nat) (ps : List Nat) : sameK ns P ps 0 = true := by
  unfold sameK
  rw [decide_eq_true_iff]
  intro i hi
  exact absurd hi (Nat.not_lt_zero i)

theorem sameK_yes (ns : List Nat) (P : Nat) (ps : List Nat) (j : Nat) (h : ps.getD j 0 = ns.getD (P + j) 0) : sameK ns P ps (j + 1) = sameK ns P ps j := by
  unfold sameK
  rw [decide_eq_decide]
  constructor
  · intro k i hi; exact k i (by omega)
  · intro k i hi
    rcases Nat.lt_or_ge i j with c | c
    · exact k i c
    · obtain rfl : i = j := by omega
      exact h

theorem sameK_no (ns : List Nat) (P : Nat) (ps : List Nat) (j : Nat) (h : ¬ ps.getD j 0 = ns.getD (P + j) 0) : sameK ns P ps (j + 1) = false := by
  unfold sameK
  rw [decide_eq_false_iff_not]
  intro k
  exact h (k j (by omega))

theorem sameK_iff (ns : List Nat) (P : Nat) (ps : List Nat) (h : P + ps.length ≤ ns.length) : sameK ns P ps ps.length = true ↔ (ns.drop P).take ps.length = ps := by
  unfold sameK
  rw [decide_eq_true_iff]
  constructor
  · intro k
    apply List.ext_getElem
    · simp; omega
    · intro i h1 h2
      have e := k i h2
      have h3 : P + i < ns.length := by omega
      simp [h2, h3] at e
      simp [e]
  · intro e i hi
    have h3 : P + i < ns.length := by omega
    have e2 : ((ns.drop P).take ps.length).getD i 0 = ps.getD i 0 := by rw [e]
    rw [← e2]
    simp [hi, h3]

theorem pow30 : (2 : Nat) ^ 30 = 1073741824 := by decide

theorem mem_part {ns : List Nat} {P m : Nat} {B : Nat} (h : ∀ i, i < m → ns.getD (P + i) 0 < B) (hl : P + m ≤ ns.length) : ∀ z ∈ (ns.drop P).take m, z < B := by
  intro z hz
  obtain ⟨i, hi, rfl⟩ := List.getElem_of_mem hz
  simp at hi
  have := h i (by omega)
  have h3 : P + i < ns.length := by omega
  simpa [h3] using this

/-- THE BURST: six five-bit values in a row. -/
theorem burst (hl ns : List Nat) (P : Nat) (ps : List Nat) (hh : ∀ z ∈ hl, z < 256) (hn : ∀ z ∈ ns, z < 256) (hp6 : ps.length = 6) (hP : P + 6 ≤ ns.length) (hps : ∀ z ∈ ps, z < 32) (hns : ∀ i, i < 6 → ns.getD (P + i) 0 < 32) :
    pm hl ns = pm hl (patchK ns P ps 6) ↔ sameK ns P ps 6 = true := by
  have hle : P + ps.length ≤ ns.length := by omega
  have hB := mem_part (P := P) (m := ps.length) (B := 32) (by rw [hp6]; exact hns) hle
  have e1 := patchK_parts ns P ps hle
  have e2 := sameK_iff ns P ps hle
  rw [hp6] at e1 e2 hB
  rw [e1, e2, pm_split, pm_split]
  have e3 := split3 ns P 6
  generalize hA : ns.take P = A at *
  generalize hC : ns.drop (P + 6) = C at *
  generalize hBB : (ns.drop P).take 6 = B at *
  have hBl : B.length = 6 := by rw [← hBB]; simp; omega
  have hAl : ∀ z ∈ A, z < 256 := fun z hz => hn z (by rw [e3]; simp [hz])
  have hCl : ∀ z ∈ C, z < 256 := fun z hz => hn z (by rw [e3]; simp [hz])
  have hs := run_lt A hAl _ (head_lt hl hh)
  rw [e3, run_append, run_append, run_append, run_append]
  generalize pmRun (pmRun 1 (covers hl)) A = s at *
  constructor
  · intro h
    have h1 := run_inj C hCl _ _ (run_lt B (fun z hz => by have := hB z hz; omega) s hs) (run_lt ps (fun z hz => by have := hps z hz; omega) s hs) h
    rw [run_zero s B, run_zero s ps, hBl, hp6] at h1
    have h2 : pmRun 0 B = pmRun 0 ps := by
      rw [Nat.xor_comm (pmRun s _) (pmRun 0 B), Nat.xor_comm (pmRun s _) (pmRun 0 ps)] at h1
      exact xor_cancel h1
    rw [run_pack B hB (by omega), run_pack ps hps (by omega)] at h2
    exact num_inj 5 B ps (by omega) (fun z hz => by simpa using hB z hz) (fun z hz => by simpa using hps z hz) h2
  · intro h
    rw [h]

/-- One step tells two values apart. -/
theorem step_val_inj (c u v : Nat) (h : pmStep c u = pmStep c v) : u = v := by
  unfold pmStep at h
  rw [Nat.xor_comm (lin c) u, Nat.xor_comm (lin c) v] at h
  exact xor_cancel h

/-- ONE VALUE: whatever the byte. -/
theorem one_value (hl ns : List Nat) (i v : Nat) (hh : ∀ z ∈ hl, z < 256) (hn : ∀ z ∈ ns, z < 256) (hv : v < 256) (hi : i < ns.length) :
    pm hl ns = pm hl (ns.set i v) ↔ v = ns.getD i 0 := by
  have e3 := split3 ns i 1
  have eB : (ns.drop i).take 1 = [ns.getD i 0] := by
    apply List.ext_getElem
    · simp; omega
    · intro j h1 h2
      simp at h2
      subst h2
      simp [hi]
  have e4 : ns.set i v = ns.take i ++ ([v] ++ ns.drop (i + 1)) := by
    rw [List.set_eq_take_append_cons_drop, if_pos hi]
    simp
  rw [e4]
  conv => lhs; lhs; rw [e3]
  rw [eB, pm_split, pm_split]
  have hAl : ∀ z ∈ ns.take i, z < 256 := fun z hz => hn z (List.mem_of_mem_take hz)
  have hCl : ∀ z ∈ ns.drop (i + 1), z < 256 := fun z hz => hn z (List.mem_of_mem_drop hz)
  have hs := run_lt (ns.take i) hAl _ (head_lt hl hh)
  have hg := getD_lt ns 256 (by decide) hn i
  rw [run_append, run_append, run_append, run_append]
  generalize pmRun (pmRun 1 (covers hl)) (ns.take i) = s at *
  constructor
  · intro h
    have h1 := run_inj (ns.drop (i + 1)) hCl _ _ (step_lt s _ hg) (step_lt s v hv) h
    exact (step_val_inj s _ _ h1).symm
  · intro h
    rw [h]

/-- The state behind six zeros. -/
def shut6 (c : Nat) : Nat := pmRun c (List.replicate 6 0)

theorem zeros_lt (m : Nat) : ∀ z ∈ List.replicate m 0, z < 256 := by
  intro z hz
  rw [List.eq_of_mem_replicate hz]
  decide

theorem shut6_lt (c : Nat) (hc : c < 2 ^ 30) : shut6 c < 2 ^ 30 := run_lt _ (zeros_lt 6) c hc

theorem shut6_inj (c d : Nat) (hc : c < 2 ^ 30) (hd : d < 2 ^ 30) (h : shut6 c = shut6 d) : c = d := run_inj _ (zeros_lt 6) c d hc hd h

/-- Checksum value i out of the closing word. -/
def sumI (m i : Nat) : Nat := m / 2 ^ (5 * (5 - i)) % 32

theorem sumI_lt (m i : Nat) : sumI m i < 32 := Nat.mod_lt _ (by decide)

/-- The six checksum values. -/
def sums (m : Nat) : List Nat := [sumI m 0, sumI m 1, sumI m 2, sumI m 3, sumI m 4, sumI m 5]

theorem sums_num (m : Nat) : num 5 (sums m) = m % 2 ^ 30 := by
  simp only [sums, num, List.foldl_cons, List.foldl_nil, sumI]
  omega

theorem sums_lt (m : Nat) : ∀ z ∈ sums m, z < 32 := by
  intro z hz
  simp only [sums, List.mem_cons, List.not_mem_nil, or_false] at hz
  rcases hz with rfl | rfl | rfl | rfl | rfl | rfl <;> exact sumI_lt _ _

theorem sums_inj (m m' : Nat) (h : sums m = sums m') : m % 2 ^ 30 = m' % 2 ^ 30 := by
  rw [← sums_num, ← sums_num, h]

theorem xor_mod30 (a b : Nat) (ha : a < 2 ^ 30) : (a ^^^ b) % 2 ^ 30 = a ^^^ b % 2 ^ 30 := by
  rw [Nat.xor_mod_two_pow, Nat.mod_eq_of_lt ha]

/-- The closing words of two states are one in their low 30 bits just if the states are one. -/
theorem close_inj (c d K : Nat) (hc : c < 2 ^ 30) (hd : d < 2 ^ 30) : sums (shut6 c ^^^ K) = sums (shut6 d ^^^ K) ↔ c = d := by
  constructor
  · intro h
    have h1 := sums_inj _ _ h
    rw [xor_mod30 _ _ (shut6_lt c hc), xor_mod30 _ _ (shut6_lt d hd)] at h1
    exact shut6_inj c d hc hd (xor_cancel h1)
  · intro h; rw [h]

/-- THE CHECKSUM CLOSES: run over the six values, the state comes to the constant. -/
theorem closes (c K : Nat) (hc : c < 2 ^ 30) : pmRun c (sums (shut6 c ^^^ K)) = K % 2 ^ 30 := by
  rw [run_zero, run_pack _ (sums_lt _) (by simp [sums]), sums_num, xor_mod30 _ _ (shut6_lt c hc)]
  show shut6 c ^^^ (shut6 c ^^^ K % 2 ^ 30) = K % 2 ^ 30
  rw [← Nat.xor_assoc, Nat.xor_self, Nat.zero_xor]
end Go.Proofs.Qxb6619359a
