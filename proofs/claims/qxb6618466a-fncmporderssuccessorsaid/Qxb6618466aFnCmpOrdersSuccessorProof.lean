/-
  THE SHELL OF A PROOF OF 'Rows.FnCmpOrdersSuccessorSaid' ('example.com/ballast/ballast/zzlaws_root_b1.FnCmpOrdersSuccessor'), WRITTEN BY PROGRAM (proof-skeleton.mjs) off the guide's own print for that function. Not trusted: Lean checks it.
  The hole is filled: the plain laws and the walk are typed by hand.
-/
import Derived.Test.Qxb6618466aRows
import Derived.Test.Qxb6618466aWalks
import Derived.WalkKit
import Derived.ProofKit
import Derived.OpenShut
import Derived.ShutString
namespace Go.Proofs.Qxb6618466a.fnCmpOrdersSuccessor
open Go.ChangeShapes Go.WideShapes Go.ChangeAt Go.RowKit
open Go.ChangeMaps (open_string shut_string)
set_option linter.unusedVariables false      -- a walk need not use every 'w<i>' (that an integer argument fits its kind)

theorem own : ownKnob Try.prog.godebug = none := by kernel_rfl

/-! ### THE PLAIN LAWS: no Go in sight -/
theorem wrapu (n : Int) : IntKind.u64.wrap n = n % 18446744073709551616 := by
  simp [IntKind.wrap, IntKind.bits, IntKind.signed]

/-- The greatest number of all: the successor wraps to the least. -/
theorem succ_top (a0 a1 : Int) (h0 : a0 = 9223372036854775807) (h1 : a1 = 18446744073709551615) :
    (IntKind.u64.wrap (a1 + 1) == 0) = true ∧ cmpV a0 a1 (IntKind.u64.wrap (a0 + 1)) (IntKind.u64.wrap (a1 + 1)) = 1 ∧ cmpV (IntKind.u64.wrap (a0 + 1)) (IntKind.u64.wrap (a1 + 1)) a0 a1 = -1 := by
  subst h0 h1
  refine ⟨?_, ?_, ?_⟩
  · simp [wrapu]
  · simp only [cmpV, wrapu, wrap64]; rw [if_neg (by omega), if_neg (by omega)]
  · simp only [cmpV, wrapu, wrap64]; rw [if_pos (by omega)]

/-- The low word is full, the high word is not the greatest: the carry goes up. -/
theorem succ_carry (a0 a1 : Int) (b0 : 0 ≤ a0 ∧ a0 ≤ 18446744073709551615) (h0 : a0 ≠ 9223372036854775807) (h1 : a1 = 18446744073709551615) :
    (IntKind.u64.wrap (a1 + 1) == 0) = true ∧ cmpV a0 a1 (IntKind.u64.wrap (a0 + 1)) (IntKind.u64.wrap (a1 + 1)) = -1 ∧ cmpV (IntKind.u64.wrap (a0 + 1)) (IntKind.u64.wrap (a1 + 1)) a0 a1 = 1 := by
  subst h1
  refine ⟨?_, ?_, ?_⟩
  · simp [wrapu]
  · simp only [cmpV, wrapu, wrap64]; rw [if_pos (by omega)]
  · simp only [cmpV, wrapu, wrap64]; rw [if_neg (by omega), if_neg (by omega)]

/-- The low word is not full. -/
theorem succ_low (a0 a1 : Int) (b1 : 0 ≤ a1 ∧ a1 ≤ 18446744073709551615) (h1 : a1 ≠ 18446744073709551615) :
    (IntKind.u64.wrap (a1 + 1) == 0) = false ∧ cmpV a0 a1 a0 (IntKind.u64.wrap (a1 + 1)) = -1 ∧ cmpV a0 (IntKind.u64.wrap (a1 + 1)) a0 a1 = 1 := by
  have e : IntKind.u64.wrap (a1 + 1) = a1 + 1 := by rw [wrapu]; omega
  rw [e]
  refine ⟨?_, ?_, ?_⟩
  · rw [beq_eq_false_iff_ne]; omega
  · unfold cmpV; rw [if_pos (Or.inr ⟨rfl, by omega⟩)]
  · unfold cmpV; rw [if_neg (by omega), if_neg (by omega)]

/-! ### STEP 1: THE WALK: every test on the road is decided ahead; each call of 'ZZCmp' by its contract. -/
set_option maxHeartbeats 400000 in
theorem walk (a0 : Int) (a1 : Int) (w0 : (Lit.int .u64 a0).wf = true) (w1 : (Lit.int .u64 a1).wf = true) (w : World) :
    Calls Try.prog 4 #[.int .u64 a0, .int .u64 a1] w fun e w' => e = .returned (.bool true) ∧ Grown w w' := by
  have b0 := bounds_u64 w0
  have b1 := bounds_u64 w1
  clear w0 w1
  by_cases h1 : a1 = 18446744073709551615
  · by_cases h0 : a0 = 9223372036854775807
    · obtain ⟨e1, e2, e3⟩ := succ_top a0 a1 h0 h1
      have t0 : (a0 == 9223372036854775807) = true := by simp [h0]
      have t1 : (a1 == 18446744073709551615) = true := by simp [h1]
      clear h0 h1 b0 b1
      go_enter Try.func4, Try.ntmps4
      go_wp2_with fail
      refine (zzcmp_any _ _ _ _ _).mono ?_
      rintro e w1 ⟨rfl, g1⟩
      go_wp2_with fail
      refine (zzcmp_any _ _ _ _ _).mono ?_
      rintro e w2 ⟨rfl, g2⟩
      go_wp2_with fail
      go_ret
      exact ⟨rfl, grown_trans g1 g2⟩
    · obtain ⟨e1, e2, e3⟩ := succ_carry a0 a1 b0 h0 h1
      have t0 : (a0 == 9223372036854775807) = false := by simp [h0]
      clear h0 h1 b0 b1
      go_enter Try.func4, Try.ntmps4
      go_wp2_with fail
      refine (zzcmp_any _ _ _ _ _).mono ?_
      rintro e w1 ⟨rfl, g1⟩
      go_wp2_with fail
      refine (zzcmp_any _ _ _ _ _).mono ?_
      rintro e w2 ⟨rfl, g2⟩
      go_wp2_with fail
      go_ret
      exact ⟨rfl, grown_trans g1 g2⟩
  · obtain ⟨e1, e2, e3⟩ := succ_low a0 a1 b1 h1
    have t1 : (a1 == 18446744073709551615) = false := by simp [h1]
    clear h1 b0 b1
    cases t0 : (a0 == 9223372036854775807)
    all_goals
      go_enter Try.func4, Try.ntmps4
      go_wp2_with fail
      refine (zzcmp_any _ _ _ _ _).mono ?_
      rintro e w1 ⟨rfl, g1⟩
      go_wp2_with fail
      refine (zzcmp_any _ _ _ _ _).mono ?_
      rintro e w2 ⟨rfl, g2⟩
      go_wp2_with fail
      go_ret
      exact ⟨rfl, grown_trans g1 g2⟩

/-! ### THE ROW's STEP: WRITTEN OUT: LEAVE IT -/
set_option maxRecDepth 100000 in
theorem lifted (os : Os) (started : os.Started) (H : Type) (enc : TypeId × Value → H) :
    ReturnsInHanded {} Try.checked os 4 .any (Rows.fnCmpOrdersSuccessorSpec.pre6 enc Try.prog Try.f4 Rows.fnCmpOrdersSuccessorRow.domain false) (Rows.fnCmpOrdersSuccessorSpec.post enc Try.prog Try.f4 false true false false) := by
  refine returnsInHanded_of_change (C := Try.checked) own started (by kernel_rfl) Try.func4
    (ChangeSpec.witness6 (enc := enc) (C := Try.checked) false ⟨#[], #[.int .u64 0, .int .u64 0], []⟩ 8 (by kernel_rfl) (by kernel_rfl) (by kernel_rfl) (by kernel_rfl)) ?_
  intro W base args ds gs before hval0 hW hcnd _
  have hval : ∀ (j : Nat) t v, Try.f4.params[j]? = some t → args[j]? = some v → Value.okWide Try.prog W .any base t v := hval0
  have hW' := hW
  obtain ⟨p, q, hA0, hV, rfl, hfz, hnd⟩ := hW
  have hA : DataW.TrodAll enc Try.prog W 0 (fun _ => true) true Try.f4.params.toList args.toList ds p := hA0
  rw [Try.params4] at hA hval
  obtain ⟨v0, vs0, d0, ds0, p0, q0, hargs, rfl, rfl, h0, r0⟩ := trodAll_cons hA
  obtain ⟨v1, vs1, d1, ds1, p1, q1, rfl, rfl, rfl, h1, r1⟩ := trodAll_cons r0
  obtain ⟨rfl, rfl, rfl⟩ := trodAll_nil r1
  obtain rfl : args = #[v0, v1] := by cases args; simp_all
  obtain ⟨rfl, rfl⟩ := trodVars_none hV
  obtain ⟨a0, rfl, rfl, rfl, w0⟩ := open_int Try.underlying22 (hval 0 22 v0 rfl rfl) h0
  obtain ⟨a1, rfl, rfl, rfl, w1⟩ := open_int Try.underlying22 (hval 1 22 v1 rfl rfl) h1
  clear hA0 hval0
  simp only [List.append_nil] at hW'
  refine (walk a0 a1 w0 w1 W).mono fun e W' ⟨he, hg⟩ => ?_
  subst he
  exact ⟨_, rfl, post_of_same (pa := []) (pv := []) hW' (fun _ _ _ => (trodAll_cons_mk (shut_bool Try.underlying4 _) trodAll_mk0)) (fun sp _ => (trodAll_cons_mk (shut_int Try.underlying22 w0) (trodAll_cons_mk (shut_int Try.underlying22 w1) trodAll_mk0))) (fun _ _ => rfl) rfl
    (hg.frame _) hg.2.1 (ok_one (by kernel_rfl) rfl (okWide_bool_mk Try.underlying4 _))⟩

theorem over : Rows.fnCmpOrdersSuccessorRow.holds Try.pinned (OpenSpec.ofChange Rows.fnCmpOrdersSuccessorSpec) :=
  OpenClaim.holds_of_wide 4 Try.f4 rfl rfl rfl rfl rfl rfl rfl ⟨rfl, rfl, rfl, rfl, rfl⟩ rfl rfl rfl rfl rfl (by kernel_rfl) Try.func4 (by kernel_rfl)
    (of_decide_eq_true (by kernel_rfl)) (by unfold Func.isWrapper; first | (rw [if_pos (by decide +kernel)]; kernel_rfl) | (rw [if_neg (by decide +kernel)]; exact ⟨rfl, rfl⟩))
    (fun os started H enc _ => lifted os started H enc)

/-- ████ THE STATEMENT ████ -/
theorem proved : Rows.FnCmpOrdersSuccessorSaid :=
  over
#print axioms proved
end Go.Proofs.Qxb6618466a.fnCmpOrdersSuccessor
