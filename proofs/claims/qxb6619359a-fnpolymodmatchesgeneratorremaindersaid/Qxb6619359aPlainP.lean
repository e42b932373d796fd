/-
  THE PLAIN LAWS OF polymod: one step is linear over GF(2) and can be undone. No Go call in sight (the word 'bits' is the model's arithmetic on machine words).
-/
import Derived.Test.Qxb6619359aPlainR
namespace Go.Proofs.Qxb6619359a

/-- G where x is odd, else 0. -/
def sel (x G : Nat) : Nat := if x % 2 = 1 then G else 0

theorem sel_u32 (x G : Nat) (g : Int) (hg : g = (G : Int)) (hx : x < 4294967296) (hG : G < 4294967296) :
    bits BinOp.and IntKind.u32 (-(bits BinOp.and IntKind.u32 (x : Int) 1) % 4294967296) g = ((sel x G : Nat) : Int) := by
  have e1 : bits BinOp.and IntKind.u32 (x : Int) ((1 : Nat) : Int) = ((x &&& 1 : Nat) : Int) := u32_and_nat x 1 hx (by decide)
  have e1' : bits BinOp.and IntKind.u32 (x : Int) 1 = ((x % 2 : Nat) : Int) := by rw [← Nat.and_one_is_mod]; exact e1
  rw [e1', hg]
  unfold sel
  by_cases h : x % 2 = 1
  · have e2 : -((x % 2 : Nat) : Int) % 4294967296 = ((4294967295 : Nat) : Int) := by omega
    rw [if_pos h, e2, u32_and_nat _ _ (by decide) hG, Nat.and_comm]
    have e3 : G &&& 4294967295 = G % 2 ^ 32 := Nat.and_two_pow_sub_one_eq_mod G 32
    rw [e3, Nat.mod_eq_of_lt hG]
  · have e2 : -((x % 2 : Nat) : Int) % 4294967296 = ((0 : Nat) : Int) := by omega
    rw [if_neg h, e2, u32_and_nat _ _ (by decide) hG, Nat.zero_and]

/-- What the five bits that are shifted out add. -/
def gen (t : Nat) : Nat := sel t 996825010 ^^^ sel (t / 2) 642813549 ^^^ sel (t / 4) 513874426 ^^^ sel (t / 8) 1027748829 ^^^ sel (t / 16) 705979059

/-- One step at the value 0. -/
def lin (c : Nat) : Nat := (c % 33554432 * 32) ^^^ gen (c / 33554432)

/-- One step of polymod. -/
def pmStep (c v : Nat) : Nat := lin c ^^^ v

theorem sel_lt (x G B : Nat) (hG : G < B) : sel x G < B := by
  unfold sel; split <;> omega

theorem gen_lt (t : Nat) : gen t < 2 ^ 30 := by
  unfold gen
  refine Nat.xor_lt_two_pow (Nat.xor_lt_two_pow (Nat.xor_lt_two_pow (Nat.xor_lt_two_pow ?_ ?_) ?_) ?_) ?_ <;> exact sel_lt _ _ _ (by decide)

theorem lin_lt (c : Nat) : lin c < 2 ^ 30 := by
  unfold lin
  refine Nat.xor_lt_two_pow ?_ (gen_lt _)
  have := Nat.mod_lt c (show 0 < 33554432 by decide)
  omega

theorem step_lt (c v : Nat) (hv : v < 256) : pmStep c v < 2 ^ 30 := Nat.xor_lt_two_pow (lin_lt c) (by omega)

/-- The walk's own spelling of one step. -/
theorem step_u32 (c v : Nat) (hc : c < 1073741824) (hv : v < 256) :
    bits BinOp.xor IntKind.u32
      (bits BinOp.xor IntKind.u32
        (bits BinOp.xor IntKind.u32
          (bits BinOp.xor IntKind.u32
            (bits BinOp.xor IntKind.u32
              (bits BinOp.xor IntKind.u32 (bits BinOp.and IntKind.u32 (c : Int) 33554431 * 32 % 4294967296) (v : Int))
              (bits BinOp.and IntKind.u32 (-bits BinOp.and IntKind.u32 ((c : Int) / 33554432) 1 % 4294967296) 996825010))
            (bits BinOp.and IntKind.u32 (-bits BinOp.and IntKind.u32 ((c : Int) / 33554432 / 2) 1 % 4294967296) 642813549))
          (bits BinOp.and IntKind.u32 (-bits BinOp.and IntKind.u32 ((c : Int) / 33554432 / 4) 1 % 4294967296) 513874426))
        (bits BinOp.and IntKind.u32 (-bits BinOp.and IntKind.u32 ((c : Int) / 33554432 / 8) 1 % 4294967296) 1027748829))
      (bits BinOp.and IntKind.u32 (-bits BinOp.and IntKind.u32 ((c : Int) / 33554432 / 16) 1 % 4294967296) 705979059) = ((pmStep c v : Nat) : Int) := by
  have a1 : bits BinOp.and IntKind.u32 (c : Int) ((33554431 : Nat) : Int) = ((c &&& 33554431 : Nat) : Int) := u32_and_nat c 33554431 (by omega) (by decide)
  have a2 : c &&& 33554431 = c % 2 ^ 25 := Nat.and_two_pow_sub_one_eq_mod c 25
  have a3 : bits BinOp.and IntKind.u32 (c : Int) 33554431 * 32 % 4294967296 = ((c % 33554432 * 32 : Nat) : Int) := by
    have a4 : bits BinOp.and IntKind.u32 (c : Int) 33554431 = ((c % 33554432 : Nat) : Int) := by
      refine Eq.trans a1 ?_
      rw [a2]
    rw [a4]
    have := Nat.mod_lt c (show 0 < 33554432 by decide)
    omega
  have d0 : (c : Int) / 33554432 = ((c / 33554432 : Nat) : Int) := by omega
  have d1 : (c : Int) / 33554432 / 2 = ((c / 33554432 / 2 : Nat) : Int) := by omega
  have d2 : (c : Int) / 33554432 / 4 = ((c / 33554432 / 4 : Nat) : Int) := by omega
  have d3 : (c : Int) / 33554432 / 8 = ((c / 33554432 / 8 : Nat) : Int) := by omega
  have d4 : (c : Int) / 33554432 / 16 = ((c / 33554432 / 16 : Nat) : Int) := by omega
  have s0 := sel_lt (c / 33554432) 996825010 (2 ^ 32) (by decide)
  have s1 := sel_lt (c / 33554432 / 2) 642813549 (2 ^ 32) (by decide)
  have s2 := sel_lt (c / 33554432 / 4) 513874426 (2 ^ 32) (by decide)
  have s3 := sel_lt (c / 33554432 / 8) 1027748829 (2 ^ 32) (by decide)
  have s4 := sel_lt (c / 33554432 / 16) 705979059 (2 ^ 32) (by decide)
  have x0 : c % 33554432 * 32 < 2 ^ 32 := by
    have := Nat.mod_lt c (show 0 < 33554432 by decide)
    omega
  have x1 : (c % 33554432 * 32) ^^^ v < 2 ^ 32 := Nat.xor_lt_two_pow x0 (by omega)
  have x2 := Nat.xor_lt_two_pow x1 s0
  have x3 := Nat.xor_lt_two_pow x2 s1
  have x4 := Nat.xor_lt_two_pow x3 s2
  have x5 := Nat.xor_lt_two_pow x4 s3
  rw [d1, d2, d3, d4, d0, a3, sel_u32 _ 996825010 996825010 rfl (by omega) (by decide), sel_u32 _ 642813549 642813549 rfl (by omega) (by decide), sel_u32 _ 513874426 513874426 rfl (by omega) (by decide),
    sel_u32 _ 1027748829 1027748829 rfl (by omega) (by decide), sel_u32 _ 705979059 705979059 rfl (by omega) (by decide)]
  rw [u32_xor_nat _ _ x0 (by omega), u32_xor_nat _ _ x1 s0, u32_xor_nat _ _ x2 s1, u32_xor_nat _ _ x3 s2, u32_xor_nat _ _ x4 s3, u32_xor_nat _ _ x5 s4]
  congr 1
  unfold pmStep lin gen
  ac_rfl

/-! ### Linearity -/
theorem xor_zero_eq {x y : Nat} (h : x ^^^ y = 0) : x = y := by
  have e : x = (x ^^^ y) ^^^ y := by rw [Nat.xor_assoc, Nat.xor_self, Nat.xor_zero]
  rw [h, Nat.zero_xor] at e
  exact e

theorem xor_cancel {x y v : Nat} (h : x ^^^ v = y ^^^ v) : x = y := by
  have e : (x ^^^ v) ^^^ v = (y ^^^ v) ^^^ v := by rw [h]
  rwa [Nat.xor_assoc, Nat.xor_self, Nat.xor_zero, Nat.xor_assoc, Nat.xor_self, Nat.xor_zero] at e

theorem sel_xor (x y G : Nat) : sel (x ^^^ y) G = sel x G ^^^ sel y G := by
  have e := Nat.xor_mod_two_pow (a := x) (b := y) (n := 1)
  rw [Nat.pow_one] at e
  unfold sel
  rw [e]
  rcases Nat.mod_two_eq_zero_or_one x with hx | hx <;> rcases Nat.mod_two_eq_zero_or_one y with hy | hy <;> rw [hx, hy] <;> simp

theorem xor_div2 (x y n : Nat) : (x ^^^ y) / 2 ^ n = x / 2 ^ n ^^^ y / 2 ^ n := Nat.xor_div_two_pow

theorem gen_xor (s t : Nat) : gen (s ^^^ t) = gen s ^^^ gen t := by
  have e1 : (s ^^^ t) / 2 = s / 2 ^^^ t / 2 := xor_div2 s t 1
  have e2 : (s ^^^ t) / 4 = s / 4 ^^^ t / 4 := xor_div2 s t 2
  have e3 : (s ^^^ t) / 8 = s / 8 ^^^ t / 8 := xor_div2 s t 3
  have e4 : (s ^^^ t) / 16 = s / 16 ^^^ t / 16 := xor_div2 s t 4
  unfold gen
  rw [e1, e2, e3, e4, sel_xor, sel_xor, sel_xor, sel_xor, sel_xor]
  ac_rfl

theorem lin_xor (c d : Nat) : lin (c ^^^ d) = lin c ^^^ lin d := by
  have e1 : (c ^^^ d) / 33554432 = c / 33554432 ^^^ d / 33554432 := xor_div2 c d 25
  have e2 : (c ^^^ d) % 33554432 = c % 33554432 ^^^ d % 33554432 := Nat.xor_mod_two_pow (a := c) (b := d) (n := 25)
  have e3 : (c % 33554432 ^^^ d % 33554432) * 32 = (c % 33554432 * 32) ^^^ (d % 33554432 * 32) := by
    have := Nat.shiftLeft_xor_distrib (a := c % 33554432) (b := d % 33554432) (i := 5)
    simpa [Nat.shiftLeft_eq] using this
  unfold lin
  rw [e1, e2, gen_xor, e3]
  ac_rfl

theorem gen_low : ∀ t : Fin 32, gen t % 32 = 0 → t = 0 := by decide

theorem lin_zero (c : Nat) (hc : c < 2 ^ 30) (h : lin c = 0) : c = 0 := by
  unfold lin at h
  have ht : c / 33554432 < 32 := by omega
  have e : c % 33554432 * 32 = gen (c / 33554432) := xor_zero_eq h
  have h0 := gen_low ⟨c / 33554432, ht⟩ (by show gen (c / 33554432) % 32 = 0; rw [← e]; omega)
  have h1 : c / 33554432 = 0 := by simpa using congrArg Fin.val h0
  have h2 : gen 0 = 0 := by decide
  rw [h1, h2] at e
  omega

theorem lin_inj (c d : Nat) (hc : c < 2 ^ 30) (hd : d < 2 ^ 30) (h : lin c = lin d) : c = d := by
  have h1 : lin (c ^^^ d) = 0 := by rw [lin_xor, h, Nat.xor_self]
  exact xor_zero_eq (lin_zero _ (Nat.xor_lt_two_pow hc hd) h1)

theorem step_inj (c d v : Nat) (hc : c < 2 ^ 30) (hd : d < 2 ^ 30) (h : pmStep c v = pmStep d v) : c = d := by
  unfold pmStep at h
  exact lin_inj c d hc hd (xor_cancel h)

/-- The state behind a list of values. -/
def pmRun (s : Nat) (vs : List Nat) : Nat := vs.foldl pmStep s

theorem run_nil (s : Nat) : pmRun s [] = s := rfl
theorem run_cons (s v : Nat) (vs : List Nat) : pmRun s (v :: vs) = pmRun (pmStep s v) vs := rfl
theorem run_append (s : Nat) (a b : List Nat) : pmRun s (a ++ b) = pmRun (pmRun s a) b := by simp [pmRun, List.foldl_append]
theorem run_snoc (s v : Nat) (vs : List Nat) : pmRun s (vs ++ [v]) = pmStep (pmRun s vs) v := by rw [run_append]; rfl

theorem run_lt (vs : List Nat) (hv : ∀ v ∈ vs, v < 256) : ∀ s, s < 2 ^ 30 → pmRun s vs < 2 ^ 30 := by
  induction vs with
  | nil => intro s hs; exact hs
  | cons v vs ih =>
    intro s _
    rw [run_cons]
    exact ih (fun x hx => hv x (List.mem_cons_of_mem v hx)) _ (step_lt s v (hv v List.mem_cons_self))

theorem run_inj (vs : List Nat) (hv : ∀ v ∈ vs, v < 256) : ∀ s t, s < 2 ^ 30 → t < 2 ^ 30 → pmRun s vs = pmRun t vs → s = t := by
  induction vs with
  | nil => intro s t _ _ h; exact h
  | cons v vs ih =>
    intro s t hs ht h
    rw [run_cons, run_cons] at h
    have hv0 := hv v List.mem_cons_self
    exact step_inj s t v hs ht (ih (fun x hx => hv x (List.mem_cons_of_mem v hx)) _ _ (step_lt s v hv0) (step_lt t v hv0) h)

theorem step_xor (c d u v : Nat) : pmStep (c ^^^ d) (u ^^^ v) = pmStep c u ^^^ pmStep d v := by
  unfold pmStep
  rw [lin_xor]
  ac_rfl

/-- A run is the run of the state over zeros, and the run of the values from the state 0, together. -/
theorem run_split (vs : List Nat) : ∀ s t, pmRun (s ^^^ t) vs = pmRun s (List.replicate vs.length 0) ^^^ pmRun t vs := by
  induction vs with
  | nil => intro s t; rfl
  | cons v vs ih =>
    intro s t
    rw [run_cons, List.length_cons, List.replicate_succ, run_cons, run_cons, ← ih, ← step_xor, Nat.zero_xor]

theorem run_zero (s : Nat) (vs : List Nat) : pmRun s vs = pmRun s (List.replicate vs.length 0) ^^^ pmRun 0 vs := by
  have h := run_split vs s 0
  rwa [Nat.xor_zero] at h

/-- Below 2^25 nothing is shifted out: the state takes one digit more. -/
theorem step_low (c v : Nat) (hc : c < 33554432) (hv : v < 32) : pmStep c v = c * 32 + v := by
  unfold pmStep lin
  have h1 : c / 33554432 = 0 := Nat.div_eq_of_lt hc
  have h2 : gen 0 = 0 := by decide
  rw [h1, h2, Nat.xor_zero, Nat.mod_eq_of_lt hc, Nat.mul_comm]
  have h3 : 32 * c ^^^ v = 32 * c + v := by
    have := Nat.two_pow_add_eq_or_of_lt (i := 5) (b := v) (by simpa using hv) c
    have e : (2 ^ 5 * c) ^^^ v = 2 ^ 5 * c ||| v := by
      apply Nat.eq_of_testBit_eq
      intro i
      rw [Nat.testBit_xor, Nat.testBit_or]
      by_cases hi : i < 5
      · have : (2 ^ 5 * c).testBit i = false := by rw [Nat.testBit_two_pow_mul]; simp; omega
        rw [this]; simp
      · have : v.testBit i = false := Nat.testBit_lt_two_pow (Nat.lt_of_lt_of_le (show v < 2 ^ 5 by simpa using hv) (Nat.pow_le_pow_right (by decide) (by omega)))
        rw [this]; simp
    rw [← this] at e
    exact e
  exact h3

theorem run_pack (vs : List Nat) (hv : ∀ v ∈ vs, v < 32) (hl : vs.length ≤ 6) : pmRun 0 vs = num 5 vs := by
  have key : ∀ k, k ≤ vs.length → pmRun 0 (vs.take k) = num 5 (vs.take k) := by
    intro k
    induction k with
    | zero => intro _; simp [pmRun, num]
    | succ k ih =>
      intro hk
      rw [take_snoc vs k (by omega), run_snoc, num_snoc, ih (by omega)]
      have hlow : num 5 (vs.take k) < 33554432 := by
        have h1 := num_lt 5 (vs.take k) (fun z hz => by simpa using hv z (List.mem_of_mem_take hz))
        have h2 : (vs.take k).length ≤ 5 := by simp; omega
        have h3 : 2 ^ ((vs.take k).length * 5) ≤ 2 ^ 25 := Nat.pow_le_pow_right (by decide) (by omega)
        omega
      exact step_low _ _ hlow (getD_lt vs 32 (by decide) hv k)
  have h := key vs.length (Nat.le_refl _)
  rwa [List.take_length] at h

/-- Digits are known by their number. -/
theorem num_inj (f : Nat) : ∀ (a b : List Nat), a.length = b.length → (∀ z ∈ a, z < 2 ^ f) → (∀ z ∈ b, z < 2 ^ f) → num f a = num f b → a = b := by
  intro a b hl ha hb h
  apply List.ext_getElem hl
  intro i h1 h2
  have ea : num f a / 2 ^ ((a.length - (i + 1)) * f) % 2 ^ f = a.getD i 0 := by
    rw [num_cut f a ha (a.length - (i + 1)) (i + 1) (by omega), num_take f a i h1, Nat.mul_comm, Nat.mul_add_mod, Nat.mod_eq_of_lt (getD_lt a (2 ^ f) (Nat.two_pow_pos f) ha i)]
  have eb : num f b / 2 ^ ((b.length - (i + 1)) * f) % 2 ^ f = b.getD i 0 := by
    rw [num_cut f b hb (b.length - (i + 1)) (i + 1) (by omega), num_take f b i h2, Nat.mul_comm, Nat.mul_add_mod, Nat.mod_eq_of_lt (getD_lt b (2 ^ f) (Nat.two_pow_pos f) hb i)]
  rw [h, hl, eb] at ea
  simpa [h1, h2] using ea.symm

/-- The values that the checksum covers ahead of the data. -/
def covers (hl : List Nat) : List Nat := hl.map (· / 32) ++ [0] ++ hl.map (· % 32)

/-- What polymod answers. -/
def pm (hl ns : List Nat) : Nat := pmRun 1 (covers hl ++ ns)

theorem covers_lt (hl : List Nat) (h : ∀ z ∈ hl, z < 256) : ∀ z ∈ covers hl, z < 256 := by
  intro z hz
  unfold covers at hz
  simp only [List.mem_append, List.mem_map, List.mem_singleton] at hz
  rcases hz with (⟨y, hy, rfl⟩ | rfl) | ⟨y, hy, rfl⟩
  · have := h y hy; omega
  · decide
  · omega

theorem pm_split (hl ns : List Nat) : pm hl ns = pmRun (pmRun 1 (covers hl)) ns := run_append _ _ _

theorem head_lt (hl : List Nat) (h : ∀ z ∈ hl, z < 256) : pmRun 1 (covers hl) < 2 ^ 30 := run_lt _ (covers_lt hl h) 1 (by decide)

theorem pm_lt (hl ns : List Nat) (h : ∀ z ∈ hl, z < 256) (hn : ∀ z ∈ ns, z < 256) : pm hl ns < 2 ^ 30 := by
  rw [pm_split]; exact run_lt _ hn _ (head_lt hl h)

/-- The bytes of a string, as numbers. -/
def strBytes (s : ByteArray) : List Nat := s.data.toList.map UInt8.toNat

theorem strBytes_length (s : ByteArray) : (strBytes s).length = s.size := by
  unfold strBytes
  rw [List.length_map, Array.length_toList]
  rfl

theorem strBytes_lt (s : ByteArray) : ∀ z ∈ strBytes s, z < 256 := by
  intro z hz
  obtain ⟨y, _, rfl⟩ := List.mem_map.1 hz
  exact UInt8.toNat_lt y

theorem strBytes_get (s : ByteArray) (k : Nat) (h : k < s.size) : (strBytes s).getD k 0 = (s[k]'h).toNat := by
  have h2 : k < s.data.toList.length := by rw [Array.length_toList]; exact h
  show (s.data.toList.map UInt8.toNat).getD k 0 = _
  rw [List.getD_eq_getElem?_getD, List.getElem?_map, List.getElem?_eq_getElem h2]
  rfl

/-! ### polymod's three loops, round by round -/
def hiRun (s : ByteArray) (k : Nat) : Nat := pmRun 1 (((strBytes s).take k).map (· / 32))
def loRun (s : ByteArray) (k : Nat) : Nat := pmRun (pmStep (hiRun s s.size) 0) (((strBytes s).take k).map (· % 32))
def datRun (s : ByteArray) (ns : List Nat) (k : Nat) : Nat := pmRun (loRun s s.size) (ns.take k)

theorem hiRun_zero (s : ByteArray) : hiRun s 0 = 1 := by simp [hiRun, pmRun]
theorem loRun_zero (s : ByteArray) : loRun s 0 = pmStep (hiRun s s.size) 0 := by simp [loRun, pmRun]
theorem datRun_zero (s : ByteArray) (ns : List Nat) : datRun s ns 0 = loRun s s.size := by simp [datRun, pmRun]

theorem hiRun_succ (s : ByteArray) (k : Nat) (h : k < s.size) : hiRun s (k + 1) = pmStep (hiRun s k) ((s[k]'h).toNat / 32) := by
  unfold hiRun
  rw [take_snoc (strBytes s) k (by rw [strBytes_length]; exact h), List.map_append, List.map_singleton, run_snoc, strBytes_get s k h]

theorem loRun_succ (s : ByteArray) (k : Nat) (h : k < s.size) : loRun s (k + 1) = pmStep (loRun s k) ((s[k]'h).toNat % 32) := by
  unfold loRun
  rw [take_snoc (strBytes s) k (by rw [strBytes_length]; exact h), List.map_append, List.map_singleton, run_snoc, strBytes_get s k h]

theorem datRun_succ (s : ByteArray) (ns : List Nat) (k : Nat) (h : k < ns.length) : datRun s ns (k + 1) = pmStep (datRun s ns k) (ns.getD k 0) := by
  unfold datRun
  rw [take_snoc ns k h, run_snoc]

theorem hiRun_lt (s : ByteArray) (k : Nat) : hiRun s k < 2 ^ 30 := by
  refine run_lt _ ?_ 1 (by decide)
  intro z hz
  obtain ⟨y, hy, rfl⟩ := List.mem_map.1 hz
  have := strBytes_lt s y (List.mem_of_mem_take hy)
  show y / 32 < 256
  omega

theorem loRun_lt (s : ByteArray) (k : Nat) : loRun s k < 2 ^ 30 := by
  refine run_lt _ ?_ _ (step_lt _ _ (by decide))
  intro z hz
  obtain ⟨y, _, rfl⟩ := List.mem_map.1 hz
  show y % 32 < 256
  omega

theorem datRun_lt (s : ByteArray) (ns : List Nat) (h : ∀ z ∈ ns, z < 256) (k : Nat) : datRun s ns k < 2 ^ 30 :=
  run_lt _ (fun z hz => h z (List.mem_of_mem_take hz)) _ (loRun_lt s s.size)

theorem datRun_end (s : ByteArray) (ns : List Nat) : datRun s ns ns.length = pm (strBytes s) ns := by
  have e : (strBytes s).take s.size = strBytes s := List.take_of_length_le (by rw [strBytes_length]; exact Nat.le_refl _)
  unfold datRun loRun hiRun
  rw [List.take_length, e, pm_split]
  unfold covers
  rw [run_append, run_append]
  rfl

end Go.Proofs.Qxb6619359a
