/-
  THE PLAIN LAW OF 'polymod is the remainder by the generator': GF(32), polynomials of degree below six as six coefficients of five bits each. No Go in sight.
-/
import Derived.Test.Qxb6619359aPlainP
namespace Go.Proofs.Qxb6619359a

/-- Times a in GF(32), of a number below 32. -/
def xt (a : Nat) : Nat := (a % 16 * 2) ^^^ sel (a / 16) 9

/-- Times a^i. -/
def xtI (a : Nat) : Nat → Nat
  | 0 => a
  | i + 1 => xt (xtI a i)

/-- The product after i rounds of the schoolbook's way. -/
def gP (a b : Nat) : Nat → Nat
  | 0 => 0
  | i + 1 => gP a b i ^^^ sel (b / 2 ^ i) (xtI a i)

/-- The product in GF(32). -/
def gfm (a b : Nat) : Nat := gP a b 5

theorem xt_lt (a : Nat) : xt a < 32 := by
  unfold xt
  exact Nat.xor_lt_two_pow (n := 5) (by have := Nat.mod_lt a (show 0 < 16 by decide); omega) (sel_lt _ _ _ (by decide))

theorem xtI_lt (a : Nat) (ha : a < 32) : ∀ i, xtI a i < 32
  | 0 => ha
  | _ + 1 => xt_lt _

theorem gP_lt (a b : Nat) (ha : a < 32) : ∀ i, gP a b i < 32
  | 0 => (by decide : 0 < 32)
  | i + 1 => Nat.xor_lt_two_pow (n := 5) (gP_lt a b ha i) (sel_lt _ _ _ (xtI_lt a ha i))

theorem gfm_lt (a b : Nat) (ha : a < 32) : gfm a b < 32 := gP_lt a b ha 5

theorem two30 : (2 : Nat) ^ 30 = 1073741824 := by decide

theorem sel_none (G : Nat) : sel 0 G = 0 := by simp [sel]

theorem gP_xor (a x y : Nat) : ∀ i, gP a (x ^^^ y) i = gP a x i ^^^ gP a y i
  | 0 => by simp [gP]
  | i + 1 => by
    have ih := gP_xor a x y i
    simp only [gP]
    rw [ih, xor_div2, sel_xor]
    ac_rfl

theorem gfm_xor (a x y : Nat) : gfm a (x ^^^ y) = gfm a x ^^^ gfm a y := gP_xor a x y 5

theorem gP_zero (a : Nat) : ∀ i, gP a 0 i = 0
  | 0 => rfl
  | i + 1 => by
    simp only [gP]
    rw [gP_zero a i, Nat.zero_div, sel_none, Nat.zero_xor]

theorem gfm_zero (a : Nat) : gfm a 0 = 0 := gP_zero a 5

theorem gfm_one : ∀ a : Fin 32, gfm a 1 = a := by decide +kernel

/-- The generator's coefficients. -/
def genC (j : Nat) : Nat := if j = 0 then 18 else if j = 1 then 29 else if j = 2 then 21 else if j = 3 then 20 else if j = 4 then 22 else 29

theorem gfm_assoc : ∀ (j : Fin 6) (a t : Fin 32), gfm (gfm a t) (genC j) = gfm a (gfm t (genC j)) := by decide +kernel

/-- Coefficient j of a packed polynomial. -/
def cf (c j : Nat) : Nat := c / 2 ^ (5 * j) % 32

theorem cf_lt (c j : Nat) : cf c j < 32 := Nat.mod_lt _ (by decide)

theorem cf_xor (c d j : Nat) : cf (c ^^^ d) j = cf c j ^^^ cf d j := by
  unfold cf
  rw [xor_div2]
  exact Nat.xor_mod_two_pow (n := 5)

theorem cf_ext (c d : Nat) (hc : c < 2 ^ 30) (hd : d < 2 ^ 30) (h : ∀ j, j < 6 → cf c j = cf d j) : c = d := by
  have h0 := h 0 (by decide)
  have h1 := h 1 (by decide)
  have h2 := h 2 (by decide)
  have h3 := h 3 (by decide)
  have h4 := h 4 (by decide)
  have h5 := h 5 (by decide)
  unfold cf at h0 h1 h2 h3 h4 h5
  simp at h0 h1 h2 h3 h4 h5
  rw [two30] at hc hd
  omega

/-- Six coefficients, packed. -/
def pk (r : Nat → Nat) : Nat := r 0 + 32 * (r 1 + 32 * (r 2 + 32 * (r 3 + 32 * (r 4 + 32 * r 5))))

theorem pk_lt (r : Nat → Nat) (h : ∀ j, r j < 32) : pk r < 2 ^ 30 := by
  have h0 := h 0
  have h1 := h 1
  have h2 := h 2
  have h3 := h 3
  have h4 := h 4
  have h5 := h 5
  unfold pk
  rw [two30]
  omega

theorem cf_pk (r : Nat → Nat) (h : ∀ j, r j < 32) (j : Nat) (hj : j < 6) : cf (pk r) j = r j := by
  have h0 := h 0
  have h1 := h 1
  have h2 := h 2
  have h3 := h 3
  have h4 := h 4
  have h5 := h 5
  unfold cf pk
  match j, hj with
  | 0, _ => simp; omega
  | 1, _ => simp; omega
  | 2, _ => simp; omega
  | 3, _ => simp; omega
  | 4, _ => simp; omega
  | 5, _ => simp; omega

/-- a times a polynomial, coefficient by coefficient. -/
def scal (a c : Nat) : Nat := pk fun j => gfm a (cf c j)

theorem scal_lt (a c : Nat) (ha : a < 32) : scal a c < 2 ^ 30 := pk_lt _ fun j => gfm_lt a (cf c j) ha

theorem cf_scal (a c j : Nat) (ha : a < 32) (hj : j < 6) : cf (scal a c) j = gfm a (cf c j) := cf_pk _ (fun j => gfm_lt a (cf c j) ha) j hj

theorem cf_gen : ∀ (t : Fin 32) (j : Fin 6), cf (gen t) j = gfm t (genC j) := by decide +kernel

theorem cf_top (c : Nat) (hc : c < 2 ^ 30) : c / 33554432 = cf c 5 := by
  rw [two30] at hc
  unfold cf
  simp
  omega

/-- What a step at 0 does to the coefficients: times x, the top one brought back by the generator. -/
theorem cf_lin_zero (c : Nat) (hc : c < 2 ^ 30) : cf (lin c) 0 = gfm (cf c 5) (genC 0) := by
  unfold lin
  have e2 : cf (gen (cf c 5)) 0 = gfm (cf c 5) (genC 0) := cf_gen ⟨cf c 5, cf_lt c 5⟩ 0
  rw [cf_xor, cf_top c hc, e2]
  have e : cf (c % 33554432 * 32) 0 = 0 := by unfold cf; simp
  rw [e, Nat.zero_xor]

theorem cf_lin_succ (c j : Nat) (hc : c < 2 ^ 30) (hj : j < 5) : cf (lin c) (j + 1) = cf c j ^^^ gfm (cf c 5) (genC (j + 1)) := by
  unfold lin
  have e2 : cf (gen (cf c 5)) (j + 1) = gfm (cf c 5) (genC (j + 1)) := cf_gen ⟨cf c 5, cf_lt c 5⟩ ⟨j + 1, by omega⟩
  rw [cf_xor, cf_top c hc, e2]
  have e : cf (c % 33554432 * 32) (j + 1) = cf c j := by
    unfold cf
    match j, hj with
    | 0, _ => simp <;> omega
    | 1, _ => simp <;> omega
    | 2, _ => simp <;> omega
    | 3, _ => simp <;> omega
    | 4, _ => simp <;> omega
  rw [e]

/-- A step is linear over GF(32). -/
theorem lin_scal (a c : Nat) (ha : a < 32) (hc : c < 2 ^ 30) : lin (scal a c) = scal a (lin c) := by
  have hs := scal_lt a c ha
  apply cf_ext _ _ (lin_lt _) (scal_lt a _ ha)
  intro j hj
  rw [cf_scal a _ j ha hj]
  match j, hj with
  | 0, _ =>
    rw [cf_lin_zero _ hs, cf_lin_zero _ hc, cf_scal a c 5 ha (by decide)]
    exact gfm_assoc 0 ⟨a, ha⟩ ⟨cf c 5, cf_lt c 5⟩
  | i + 1, hi =>
    rw [cf_lin_succ _ i hs (by omega), cf_lin_succ _ i hc (by omega), cf_scal a c 5 ha (by decide), cf_scal a c i ha (by omega), gfm_xor]
    congr 1
    exact gfm_assoc ⟨i + 1, by omega⟩ ⟨a, ha⟩ ⟨cf c 5, cf_lt c 5⟩

/-- x^k modulo the generator, packed. -/
def powN (k : Nat) : Nat := pmRun 1 (List.replicate k 0)

theorem step_zero (c : Nat) : pmStep c 0 = lin c := by unfold pmStep; rw [Nat.xor_zero]

theorem powN_zero : powN 0 = 1 := rfl
theorem powN_succ (k : Nat) : powN (k + 1) = lin (powN k) := by
  unfold powN
  rw [List.replicate_succ', run_snoc, step_zero]
theorem powN_lt (k : Nat) : powN k < 2 ^ 30 := by
  refine run_lt _ ?_ 1 (by decide)
  intro z hz
  rw [List.eq_of_mem_replicate hz]
  decide

theorem run_zeros_succ (c k : Nat) : pmRun c (List.replicate (k + 1) 0) = lin (pmRun c (List.replicate k 0)) := by
  rw [List.replicate_succ', run_snoc, step_zero]

theorem run_zeros_lt (c k : Nat) (hc : c < 2 ^ 30) : pmRun c (List.replicate k 0) < 2 ^ 30 := by
  refine run_lt _ ?_ c hc
  intro z hz
  rw [List.eq_of_mem_replicate hz]
  decide

theorem run_zeros_xor (c d : Nat) : ∀ k, pmRun (c ^^^ d) (List.replicate k 0) = pmRun c (List.replicate k 0) ^^^ pmRun d (List.replicate k 0)
  | 0 => rfl
  | k + 1 => by rw [run_zeros_succ, run_zeros_succ, run_zeros_succ, run_zeros_xor c d k, lin_xor]

theorem run_zeros_scal (a c : Nat) (ha : a < 32) (hc : c < 2 ^ 30) : ∀ k, pmRun (scal a c) (List.replicate k 0) = scal a (pmRun c (List.replicate k 0))
  | 0 => rfl
  | k + 1 => by rw [run_zeros_succ, run_zeros_succ, run_zeros_scal a c ha hc k, lin_scal a _ ha (run_zeros_lt c k hc)]

/-- A byte is (u & 31) + (u >> 5) x. -/
theorem byte_split (u : Nat) (hu : u < 256) : u = scal (u % 32) 1 ^^^ scal (u / 32) (powN 1) := by
  have h1 : scal (u % 32) 1 = u % 32 := by
    have e := gfm_one ⟨u % 32, Nat.mod_lt _ (by decide)⟩
    unfold scal pk cf
    simp only [Nat.reduceMul, Nat.reducePow, Nat.reduceDiv, Nat.reduceMod, gfm_zero]
    rw [e]
    simp
  have h2 : powN 1 = 32 := by decide
  have h3 : scal (u / 32) 32 = u / 32 * 32 := by
    have e := gfm_one ⟨u / 32, by omega⟩
    unfold scal pk cf
    simp only [Nat.reduceMul, Nat.reducePow, Nat.reduceDiv, Nat.reduceMod, gfm_zero]
    rw [e]
    simp
    omega
  rw [h1, h2, h3]
  have h4 : (u % 32) ^^^ (u / 32 * 32) = u / 32 * 32 + u % 32 := by
    rw [Nat.xor_comm]
    have h := step_low (u / 32) (u % 32) (by omega) (Nat.mod_lt _ (by decide))
    have h' : pmStep (u / 32) (u % 32) = (u / 32 * 32) ^^^ (u % 32) := by
      unfold pmStep lin
      have g0 : u / 32 / 33554432 = 0 := by omega
      have g1 : gen 0 = 0 := by decide
      have g2 : u / 32 % 33554432 = u / 32 := by omega
      rw [g0, g1, Nat.xor_zero, g2]
    rw [← h', h]
  omega

/-- The sum of the last k values' monomials. -/
def accG (vs : List Nat) : Nat → Nat
  | 0 => 0
  | k + 1 => accG vs k ^^^ scal (vs.getD (vs.length - 1 - k) 0 % 32) (powN k) ^^^ scal (vs.getD (vs.length - 1 - k) 0 / 32) (powN (k + 1))

theorem accG_lt (vs : List Nat) (hv : ∀ z ∈ vs, z < 256) : ∀ k, accG vs k < 2 ^ 30
  | 0 => (by decide : 0 < 2 ^ 30)
  | k + 1 => by
    have h := getD_lt vs 256 (by decide) hv (vs.length - 1 - k)
    exact Nat.xor_lt_two_pow (Nat.xor_lt_two_pow (accG_lt vs hv k) (scal_lt _ _ (Nat.mod_lt _ (by decide)))) (scal_lt _ _ (by omega))

theorem run_tail (vs : List Nat) (hv : ∀ z ∈ vs, z < 256) : ∀ k, k ≤ vs.length → pmRun 0 (vs.drop (vs.length - k)) = accG vs k
  | 0, _ => by
    rw [Nat.sub_zero, List.drop_length]
    rfl
  | k + 1, h => by
    have hlt : vs.length - (k + 1) < vs.length := by omega
    have e1 : vs.drop (vs.length - (k + 1)) = vs.getD (vs.length - (k + 1)) 0 :: vs.drop (vs.length - k) := by
      rw [List.drop_eq_getElem_cons hlt]
      have e2 : vs.length - (k + 1) + 1 = vs.length - k := by omega
      rw [e2]
      simp [hlt]
    have e3 : vs.length - (k + 1) = vs.length - 1 - k := by omega
    rw [e1, run_cons]
    have hl0 : lin 0 = 0 := by decide
    have e4 : ∀ u, pmStep 0 u = u := fun u => by unfold pmStep; rw [hl0, Nat.zero_xor]
    rw [e4, run_zero, run_tail vs hv k (by omega), e3]
    have el : (vs.drop (vs.length - k)).length = k := by rw [List.length_drop]; omega
    rw [el]
    have hu := getD_lt vs 256 (by decide) hv (vs.length - 1 - k)
    simp only [accG]
    generalize vs.getD (vs.length - 1 - k) 0 = u at *
    have e5 : pmRun u (List.replicate k 0) = scal (u % 32) (powN k) ^^^ scal (u / 32) (powN (k + 1)) := by
      conv => lhs; rw [byte_split u hu]
      rw [run_zeros_xor, run_zeros_scal _ 1 (Nat.mod_lt _ (by decide)) (by decide), run_zeros_scal _ _ (by omega) (powN_lt 1)]
      have e6 : pmRun (powN 1) (List.replicate k 0) = powN (k + 1) := by
        unfold powN
        rw [← run_append, List.replicate_append_replicate, Nat.add_comm]
      rw [e6]
      rfl
    rw [e5]
    ac_rfl

/-- THE LAW: the state is x^N and the values' monomials, together. -/
theorem remainder (vs : List Nat) (hv : ∀ z ∈ vs, z < 256) : pmRun 1 vs = accG vs vs.length ^^^ powN vs.length := by
  have h := run_tail vs hv vs.length (Nat.le_refl _)
  rw [Nat.sub_self, List.drop_zero] at h
  rw [run_zero, h, Nat.xor_comm]
  rfl
end Go.Proofs.Qxb6619359a
