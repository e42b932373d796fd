/-
  THE WALK OF 'FnPolymodMatchesGeneratorRemainder' (function 3).
-/
import Derived.Test.Qxb6619359aBchWalk
import Derived.Test.Qxb6619359aFront
namespace Go.Proofs.Qxb6619359a
open Go.RowKit

set_option maxHeartbeats 1000000 in
theorem bytes9_yes (s : ByteArray) (p : Option Addr) (n c : Nat) (w : World) (h : s.size + n ≤ 1048576) :
    Calls Try.prog 9 #[.string s, .slice p n c] w fun e w' => e = .returned (.bool true) ∧ w = w' := by
  go_enter Try.func9, Try.ntmps9
  go_wp2
  go_ret
  exact ⟨rfl, rfl⟩

set_option maxHeartbeats 1000000 in
theorem bytes9_no (s : ByteArray) (p : Option Addr) (n c : Nat) (w : World) (h : 1048576 < s.size + n) (hs : s.size ≤ maxLen) (hn : n ≤ maxLen) :
    Calls Try.prog 9 #[.string s, .slice p n c] w fun e w' => e = .returned (.bool false) ∧ w = w' := by
  unfold maxLen at hs hn
  go_enter Try.func9, Try.ntmps9
  go_wp2
  all_goals
    go_ret
    exact ⟨rfl, rfl⟩

set_option maxRecDepth 100000 in
set_option maxHeartbeats 1000000 in
theorem match_some (s : ByteArray) (x : Addr) (n c : Nat) (ns : List Nat) (w : World) (hsn : s.size + n ≤ 1048576) (hz : ns.length = n) (hb : ∀ z ∈ ns, z < 256) (hsrc : ∀ k, k < n → w.cell? (x.add k) = some (.int .u8 (bt ns k))) :
    Calls Try.prog 3 #[.string s, .slice (some x) n c] w fun e w' => e = .returned (.bool true) ∧ Below w.heap.size w w' := by
  have hne := fun wx => run_neq_slice_nil_any (P := Try.prog) wx 22 5 (some x) n c 0 0 Try.underlying22
  have Hz := hidden hz
  have Hb := hidden hb
  have Hsrc := hidden hsrc
  have d1 : decide ((1048576 : Int) < (s.size : Int)) = false := by simp; omega
  have d2 : decide ((1048576 : Int) < (n : Int)) = false := by simp; omega
  have d3 : decide ((1048576 : Int) < (s.size : Int) + (n : Int)) = false := by simp; omega
  have t : (((pm (strBytes s) ns : Nat) : Int) == ((pm (strBytes s) ns : Nat) : Int)) = true := by simp
  clear hz hb hsrc
  go_enter Try.func3, Try.ntmps3
  go_wp2_with (first
    | (go_at_call 9; refine (bytes9_yes _ _ _ _ _ hsn).mono ?_; rintro e w' ⟨rfl, rfl⟩)
    | (at_make; refine wpList_make_row rfl (.tmp 27) (.tmp 27) rfl _ _ n n rfl rfl rfl rfl (Nat.le_refl _) (by omega) ?_; intro w1 hr1 hb1)
    | (have _t := hr1; refine wpList_copy_row rfl (.tmp 29) (.tmp 30) rfl w.heap.size n n c x rfl rfl (List.replicate n 0) ns hr1 (by simp) Hz.out (src_later hb1 Hsrc.out) w.heap.size w hb1 (Nat.le_refl _) ?_; intro w2 hr2 hb2; clear hr1 hb1)
    | (go_at_call 10; refine (zzpolymod_src _ s n n ns _ (by omega) (by omega) (Src.row Hz.out Hb.out hr2)).mono ?_; rintro e w3 ⟨rfl, rfl⟩)
    | (go_at_call 11; refine (bch_any _ s n n ns _ hsn (Src.row Hz.out Hb.out hr2)).mono ?_; rintro e w3 ⟨rfl, hb3⟩))
  go_ret
  exact ⟨rfl, hb2.trans (hb3.mono hb2.size)⟩

set_option maxRecDepth 100000 in
set_option maxHeartbeats 1000000 in
theorem match_nil (s : ByteArray) (c : Nat) (w : World) (hsn : s.size ≤ 1048576) :
    Calls Try.prog 3 #[.string s, .slice none 0 c] w fun e w' => e = .returned (.bool true) ∧ Below w.heap.size w w' := by
  have hne := fun wx => run_neq_slice_nil_any (P := Try.prog) wx 22 5 none 0 c 0 0 Try.underlying22
  have d1 : decide ((1048576 : Int) < (s.size : Int)) = false := by simp; omega
  have t : (((pm (strBytes s) [] : Nat) : Int) == ((pm (strBytes s) [] : Nat) : Int)) = true := by simp
  have hsn' : s.size + 0 ≤ 1048576 := hsn
  go_enter Try.func3, Try.ntmps3
  go_wp2_with (first
    | (go_at_call 9; refine (bytes9_yes _ _ _ _ _ hsn').mono ?_; rintro e w' ⟨rfl, rfl⟩)
    | (go_at_call 10; refine (zzpolymod_src none s 0 c [] _ hsn (by omega) (Src.nil rfl)).mono ?_; rintro e w3 ⟨rfl, rfl⟩)
    | (go_at_call 11; refine (bch_any none s 0 c [] _ hsn' (Src.nil rfl)).mono ?_; rintro e w3 ⟨rfl, hb3⟩))
  go_ret
  exact ⟨rfl, hb3⟩

set_option maxRecDepth 100000 in
set_option maxHeartbeats 1000000 in
theorem match_long (s : ByteArray) (p : Option Addr) (n c : Nat) (w : World) (h : 1048576 < s.size + n) (hs : s.size ≤ maxLen) (hn : n ≤ maxLen) :
    Calls Try.prog 3 #[.string s, .slice p n c] w fun e w' => e = .returned (.bool true) ∧ Below w.heap.size w w' := by
  go_enter Try.func3, Try.ntmps3
  go_wp2_with (go_at_call 9; refine (bytes9_no _ _ _ _ _ h hs hn).mono ?_; rintro e w' ⟨rfl, rfl⟩)
  go_ret
  exact ⟨rfl, Below.refl _ _⟩
end Go.Proofs.Qxb6619359a
