/-
  THE SHELL OF A PROOF OF 'Rows.FnCmpIsSignedOrderOfTwosComplementSaid' ('example.com/ballast/ballast/zzlaws_root_b1.FnCmpIsSignedOrderOfTwosComplement'), WRITTEN BY PROGRAM (proof-skeleton.mjs) off the guide's own print for that function. Not trusted: Lean checks it.
  The hole is filled: the plain laws and the walk are typed by hand.
-/
import Derived.Test.Qxb6618466aRows
import Derived.Test.Qxb6618466aWalks
import Derived.Laws.Bits64
import Derived.WalkKit
import Derived.ProofKit
import Derived.OpenShut
import Derived.ShutString
namespace Go.Proofs.Qxb6618466a.fnCmpIsSignedOrderOfTwosComplement
open Go.ChangeShapes Go.WideShapes Go.ChangeAt Go.RowKit
open Go.ChangeMaps (open_string shut_string)
set_option linter.unusedVariables false      -- a walk need not use every 'w<i>' (that an integer argument fits its kind)

theorem own : ownKnob Try.prog.godebug = none := by kernel_rfl

/-! ### THE PLAIN LAWS: no Go in sight -/
/-- A word with its top bit flipped. -/
def topFlip (a : Int) : Int := bits BinOp.xor IntKind.u64 a 9223372036854775808

theorem nat_topFlip (n : Nat) (h : n < 18446744073709551616) : n ^^^ 9223372036854775808 = (n + 9223372036854775808) % 18446744073709551616 := by
  have e1 := Nat.xor_div_two_pow (a := n) (b := 9223372036854775808) (n := 63)
  have e2 := Nat.xor_mod_two_pow (a := n) (b := 9223372036854775808) (n := 63)
  have q2 : n / 2 ^ 63 = 0 ∨ n / 2 ^ 63 = 1 := by omega
  have e3 : (9223372036854775808 : Nat) / 2 ^ 63 = 1 := by decide
  have e4 : (9223372036854775808 : Nat) % 2 ^ 63 = 0 := by decide
  rw [e3] at e1
  rw [e4, Nat.xor_zero] at e2
  rcases q2 with q | q
  · rw [q] at e1
    have e5 : (0 ^^^ 1 : Nat) = 1 := by decide
    rw [e5] at e1
    omega
  · rw [q] at e1
    have e5 : (1 ^^^ 1 : Nat) = 0 := by decide
    rw [e5] at e1
    omega

theorem topFlip_eq (a : Int) (h0 : 0 ≤ a) (h1 : a ≤ 18446744073709551615) : topFlip a = (a + 9223372036854775808) % 18446744073709551616 := by
  obtain ⟨n, rfl⟩ := Int.eq_ofNat_of_zero_le h0
  have e := bits_xor_u64_nat n 9223372036854775808 (by omega) (by omega)
  have e2 : topFlip (n : Int) = ((n ^^^ 9223372036854775808 : Nat) : Int) := e
  rw [e2, nat_topFlip n (by omega)]
  omega

/-- What 'offsetOrder' answers. -/
def ordV (a0 a1 a2 a3 : Int) : Int :=
  if topFlip a0 < topFlip a2 then -1 else if topFlip a2 < topFlip a0 then 1 else if a1 < a3 then -1 else if a3 < a1 then 1 else 0

theorem cmpV_range (a0 a1 a2 a3 : Int) : -1 ≤ cmpV a0 a1 a2 a3 ∧ cmpV a0 a1 a2 a3 ≤ 1 := by
  unfold cmpV; split
  · omega
  · split <;> omega

theorem cmp_ord (a0 a1 a2 a3 : Int) (h0 : 0 ≤ a0 ∧ a0 ≤ 18446744073709551615) (h2 : 0 ≤ a2 ∧ a2 ≤ 18446744073709551615) :
    cmpV a0 a1 a2 a3 = ordV a0 a1 a2 a3 := by
  unfold cmpV ordV
  rw [topFlip_eq a0 h0.1 h0.2, topFlip_eq a2 h2.1 h2.2]
  unfold wrap64
  by_cases c1 : (a0 + 9223372036854775808) % 18446744073709551616 < (a2 + 9223372036854775808) % 18446744073709551616
  · rw [if_pos (by omega), if_pos c1]
  · rw [if_neg c1]
    by_cases c2 : (a2 + 9223372036854775808) % 18446744073709551616 < (a0 + 9223372036854775808) % 18446744073709551616
    · rw [if_pos c2, if_neg (by omega), if_neg (by omega)]
    · rw [if_neg c2]
      have e : a0 = a2 := by omega
      subst e
      by_cases c3 : a1 < a3
      · rw [if_pos c3, if_pos (by omega)]
      · rw [if_neg c3, if_neg (by omega)]
        by_cases c4 : a3 < a1
        · rw [if_pos c4, if_neg (by omega)]
        · rw [if_neg c4, if_pos (by omega)]

theorem cmp_neg (a0 a1 a2 a3 : Int) (h0 : 0 ≤ a0 ∧ a0 ≤ 18446744073709551615) (h2 : 0 ≤ a2 ∧ a2 ≤ 18446744073709551615) :
    cmpV a2 a3 a0 a1 = - cmpV a0 a1 a2 a3 := by
  rw [cmp_ord a0 a1 a2 a3 h0 h2, cmp_ord a2 a3 a0 a1 h2 h0]
  unfold ordV
  by_cases c1 : topFlip a0 < topFlip a2
  · rw [if_neg (by omega), if_pos c1, if_pos c1]; rfl
  · by_cases c2 : topFlip a2 < topFlip a0
    · rw [if_pos c2, if_neg c1, if_pos c2]
    · rw [if_neg c2, if_neg c1, if_neg c1, if_neg c2]
      by_cases c3 : a1 < a3
      · rw [if_neg (by omega), if_pos c3, if_pos c3]; rfl
      · by_cases c4 : a3 < a1
        · rw [if_pos c4, if_neg c3, if_pos c4]
        · rw [if_neg c4, if_neg c3, if_neg c3, if_neg c4]; rfl

/-! ### THE CALLEE 'offsetOrder', BY ITS CONTRACT -/
set_option maxHeartbeats 400000 in
theorem order_any (a0 a1 a2 a3 : Int) (w : World) :
    Calls Try.prog 6 #[.int .u64 a0, .int .u64 a1, .int .u64 a2, .int .u64 a3] w fun e w' => e = .returned (.int .i64 (ordV a0 a1 a2 a3)) ∧ w' = w := by
  by_cases c1 : topFlip a0 < topFlip a2
  · have hv : ordV a0 a1 a2 a3 = -1 := by unfold ordV; rw [if_pos c1]
    rw [hv]; clear hv
    unfold topFlip at c1
    go_enter Try.func6, Try.ntmps6
    go_wp2
    go_ret
    exact ⟨rfl, rfl⟩
  · by_cases c2 : topFlip a2 < topFlip a0
    · have hv : ordV a0 a1 a2 a3 = 1 := by unfold ordV; rw [if_neg c1, if_pos c2]
      rw [hv]; clear hv
      unfold topFlip at c1 c2
      go_enter Try.func6, Try.ntmps6
      go_wp2
      go_ret
      exact ⟨rfl, rfl⟩
    · by_cases c3 : a1 < a3
      · have hv : ordV a0 a1 a2 a3 = -1 := by unfold ordV; rw [if_neg c1, if_neg c2, if_pos c3]
        rw [hv]; clear hv
        unfold topFlip at c1 c2
        go_enter Try.func6, Try.ntmps6
        go_wp2
        go_ret
        exact ⟨rfl, rfl⟩
      · by_cases c4 : a3 < a1
        · have hv : ordV a0 a1 a2 a3 = 1 := by unfold ordV; rw [if_neg c1, if_neg c2, if_neg c3, if_pos c4]
          rw [hv]; clear hv
          unfold topFlip at c1 c2
          go_enter Try.func6, Try.ntmps6
          go_wp2
          go_ret
          exact ⟨rfl, rfl⟩
        · have hv : ordV a0 a1 a2 a3 = 0 := by unfold ordV; rw [if_neg c1, if_neg c2, if_neg c3, if_neg c4]
          rw [hv]; clear hv
          unfold topFlip at c1 c2
          go_enter Try.func6, Try.ntmps6
          go_wp2
          go_ret
          exact ⟨rfl, rfl⟩

/-! ### STEP 1: THE WALK -/
set_option maxHeartbeats 400000 in
theorem walk (a0 : Int) (a1 : Int) (a2 : Int) (a3 : Int) (w0 : (Lit.int .u64 a0).wf = true) (w1 : (Lit.int .u64 a1).wf = true) (w2 : (Lit.int .u64 a2).wf = true) (w3 : (Lit.int .u64 a3).wf = true) (w : World) :
    Calls Try.prog 3 #[.int .u64 a0, .int .u64 a1, .int .u64 a2, .int .u64 a3] w fun e w' => e = .returned (.bool true) ∧ Grown w w' := by
  have b0 := bounds_u64 w0
  have b2 := bounds_u64 w2
  have e1 : (cmpV a0 a1 a2 a3 == ordV a0 a1 a2 a3) = true := by rw [cmp_ord a0 a1 a2 a3 b0 b2]; simp
  have e2 : (cmpV a2 a3 a0 a1 == - cmpV a0 a1 a2 a3) = true := by rw [cmp_neg a0 a1 a2 a3 b0 b2]; simp
  have r1 := cmpV_range a0 a1 a2 a3
  clear b0 b2 w0 w1 w2 w3
  go_enter Try.func3, Try.ntmps3
  go_wp2_with fail
  refine (zzcmp_any _ _ _ _ _).mono ?_
  rintro e w1 ⟨rfl, g1⟩
  go_wp2_with fail
  refine (zzcmp_any _ _ _ _ _).mono ?_
  rintro e w2 ⟨rfl, g2⟩
  go_wp2_with fail
  refine (order_any _ _ _ _ _).mono ?_
  rintro e w3 ⟨rfl, rfl⟩
  go_wp2_with fail
  go_ret
  exact ⟨rfl, grown_trans g1 g2⟩

/-! ### THE ROW's STEP: WRITTEN OUT: LEAVE IT -/
set_option maxRecDepth 100000 in
theorem lifted (os : Os) (started : os.Started) (H : Type) (enc : TypeId × Value → H) :
    ReturnsInHanded {} Try.checked os 3 .any (Rows.fnCmpIsSignedOrderOfTwosComplementSpec.pre6 enc Try.prog Try.f3 Rows.fnCmpIsSignedOrderOfTwosComplementRow.domain false) (Rows.fnCmpIsSignedOrderOfTwosComplementSpec.post enc Try.prog Try.f3 false true false false) := by
  refine returnsInHanded_of_change (C := Try.checked) own started (by kernel_rfl) Try.func3
    (ChangeSpec.witness6 (enc := enc) (C := Try.checked) false ⟨#[], #[.int .u64 0, .int .u64 0, .int .u64 0, .int .u64 0], []⟩ 8 (by kernel_rfl) (by kernel_rfl) (by kernel_rfl) (by kernel_rfl)) ?_
  intro W base args ds gs before hval0 hW hcnd _
  have hval : ∀ (j : Nat) t v, Try.f3.params[j]? = some t → args[j]? = some v → Value.okWide Try.prog W .any base t v := hval0
  have hW' := hW
  obtain ⟨p, q, hA0, hV, rfl, hfz, hnd⟩ := hW
  have hA : DataW.TrodAll enc Try.prog W 0 (fun _ => true) true Try.f3.params.toList args.toList ds p := hA0
  rw [Try.params3] at hA hval
  obtain ⟨v0, vs0, d0, ds0, p0, q0, hargs, rfl, rfl, h0, r0⟩ := trodAll_cons hA
  obtain ⟨v1, vs1, d1, ds1, p1, q1, rfl, rfl, rfl, h1, r1⟩ := trodAll_cons r0
  obtain ⟨v2, vs2, d2, ds2, p2, q2, rfl, rfl, rfl, h2, r2⟩ := trodAll_cons r1
  obtain ⟨v3, vs3, d3, ds3, p3, q3, rfl, rfl, rfl, h3, r3⟩ := trodAll_cons r2
  obtain ⟨rfl, rfl, rfl⟩ := trodAll_nil r3
  obtain rfl : args = #[v0, v1, v2, v3] := by cases args; simp_all
  obtain ⟨rfl, rfl⟩ := trodVars_none hV
  obtain ⟨a0, rfl, rfl, rfl, w0⟩ := open_int Try.underlying22 (hval 0 22 v0 rfl rfl) h0
  obtain ⟨a1, rfl, rfl, rfl, w1⟩ := open_int Try.underlying22 (hval 1 22 v1 rfl rfl) h1
  obtain ⟨a2, rfl, rfl, rfl, w2⟩ := open_int Try.underlying22 (hval 2 22 v2 rfl rfl) h2
  obtain ⟨a3, rfl, rfl, rfl, w3⟩ := open_int Try.underlying22 (hval 3 22 v3 rfl rfl) h3
  clear hA0 hval0
  simp only [List.append_nil] at hW'
  refine (walk a0 a1 a2 a3 w0 w1 w2 w3 W).mono fun e W' ⟨he, hg⟩ => ?_
  subst he
  exact ⟨_, rfl, post_of_same (pa := []) (pv := []) hW' (fun _ _ _ => (trodAll_cons_mk (shut_bool Try.underlying4 _) trodAll_mk0)) (fun sp _ => (trodAll_cons_mk (shut_int Try.underlying22 w0) (trodAll_cons_mk (shut_int Try.underlying22 w1) (trodAll_cons_mk (shut_int Try.underlying22 w2) (trodAll_cons_mk (shut_int Try.underlying22 w3) trodAll_mk0))))) (fun _ _ => rfl) rfl
    (hg.frame _) hg.2.1 (ok_one (by kernel_rfl) rfl (okWide_bool_mk Try.underlying4 _))⟩

theorem over : Rows.fnCmpIsSignedOrderOfTwosComplementRow.holds Try.pinned (OpenSpec.ofChange Rows.fnCmpIsSignedOrderOfTwosComplementSpec) :=
  OpenClaim.holds_of_wide 3 Try.f3 rfl rfl rfl rfl rfl rfl rfl ⟨rfl, rfl, rfl, rfl, rfl⟩ rfl rfl rfl rfl rfl (by kernel_rfl) Try.func3 (by kernel_rfl)
    (of_decide_eq_true (by kernel_rfl)) (by unfold Func.isWrapper; first | (rw [if_pos (by decide +kernel)]; kernel_rfl) | (rw [if_neg (by decide +kernel)]; exact ⟨rfl, rfl⟩))
    (fun os started H enc _ => lifted os started H enc)

/-- ████ THE STATEMENT ████ -/
theorem proved : Rows.FnCmpIsSignedOrderOfTwosComplementSaid :=
  over
#print axioms proved
end Go.Proofs.Qxb6618466a.fnCmpIsSignedOrderOfTwosComplement
