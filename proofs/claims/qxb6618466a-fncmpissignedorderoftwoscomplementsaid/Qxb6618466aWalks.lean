/-
  THE WALKS OF THIS SEAT's SHARED FUNCTIONS: '(int128).cmp' (function 7) and 'ZZCmp' (function 5) by one contract each.
-/
import Derived.Test.Qxb6618466aRows
import Derived.WalkKit
import Derived.WalkSpells
import Derived.RowKit3
namespace Go.Proofs.Qxb6618466a
open Go.RowKit

/-- What 'cmp' answers on the four words. -/
def cmpV (xh xl yh yl : Int) : Int :=
  if wrap64 xh < wrap64 yh ∨ (xh = yh ∧ xl < yl) then -1 else if xh = yh ∧ xl = yl then 0 else 1

theorem grown_trans {a b c : World} (h : Grown a b) (k : Grown b c) : Grown a c :=
  ⟨World.keptBut_trans h.1 k.1, fun x => (k.2.1 x).trans (h.2.1 x), Nat.le_trans h.2.2 k.2.2⟩

theorem ret_int {k : IntKind} {a b : Int} (h : a = b) : Ending.returned (.int k a) = .returned (.int k b) := by rw [h]

set_option maxHeartbeats 400000 in
theorem cmp_any (xh xl yh yl : Int) (w : World) :
    Calls Try.prog 7 #[.agg #[.int .u64 xh, .int .u64 xl], .agg #[.int .u64 yh, .int .u64 yl]] w fun e w' =>
      e = .returned (.int .i64 (cmpV xh xl yh yl)) ∧ Grown w w' := by
  by_cases h1 : wrap64 xh < wrap64 yh
  · have hv : cmpV xh xl yh yl = -1 := by simp [cmpV, h1]
    rw [hv]; clear hv
    go_enter Try.func7, Try.ntmps7
    go_wp2
    go_ret
    exact ⟨rfl, by repeat (first | exact Grown.refl _ | apply Grown.drew | apply Grown.alloc)⟩
  · by_cases h2 : xh = yh
    · subst h2
      have b2 : (xh == xh) = true := by simp
      by_cases h3 : xl < yl
      · have hv : cmpV xh xl xh yl = -1 := by simp [cmpV, h3]
        rw [hv]; clear hv
        go_enter Try.func7, Try.ntmps7
        go_wp2
        go_ret
        exact ⟨rfl, by repeat (first | exact Grown.refl _ | apply Grown.drew | apply Grown.alloc)⟩
      · by_cases h4 : xl = yl
        · subst h4
          have hv : cmpV xh xl xh xl = 0 := by simp [cmpV]
          rw [hv]; clear hv
          have b4 : (xl == xl) = true := by simp
          go_enter Try.func7, Try.ntmps7
          go_wp2
          go_ret
          exact ⟨rfl, by repeat (first | exact Grown.refl _ | apply Grown.drew | apply Grown.alloc)⟩
        · have hv : cmpV xh xl xh yl = 1 := by simp [cmpV, h3, h4]
          rw [hv]; clear hv
          have b4 : (xl == yl) = false := by simp [h4]
          go_enter Try.func7, Try.ntmps7
          go_wp2
          go_ret
          exact ⟨rfl, by repeat (first | exact Grown.refl _ | apply Grown.drew | apply Grown.alloc)⟩
    · have hv : cmpV xh xl yh yl = 1 := by simp [cmpV, h1, h2]
      rw [hv]; clear hv
      have b2 : (xh == yh) = false := by simp [h2]
      go_enter Try.func7, Try.ntmps7
      go_wp2
      go_ret
      exact ⟨rfl, by repeat (first | exact Grown.refl _ | apply Grown.drew | apply Grown.alloc)⟩

theorem zzcmp_any (xh xl yh yl : Int) (w : World) :
    Calls Try.prog 5 #[.int .u64 xh, .int .u64 xl, .int .u64 yh, .int .u64 yl] w fun e w' =>
      e = .returned (.int .i64 (cmpV xh xl yh yl)) ∧ Grown w w' := by
  go_enter Try.func5, Try.ntmps5
  go_wp2_with (go_at_call 7; refine (cmp_any _ _ _ _ _).mono ?_; rintro e w' ⟨rfl, hg⟩)
  go_ret
  exact ⟨rfl, hg⟩
end Go.Proofs.Qxb6618466a
