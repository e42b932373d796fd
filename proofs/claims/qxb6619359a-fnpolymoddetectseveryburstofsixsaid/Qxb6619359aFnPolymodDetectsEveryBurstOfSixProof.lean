/-
  A PROOF OF 'Rows.FnPolymodDetectsEveryBurstOfSixSaid', its frame typed by hand after the shells of this seat (the skeleton tool serves no array by value).
-/
import Derived.Test.Qxb6619359aRows
import Derived.Test.Qxb6619359aBurstWalk
import Derived.WalkKit
import Derived.ProofKit
import Derived.OpenShut
import Derived.ShutString
import Derived.ChangeOld
import Derived.Below
namespace Go.Proofs.Qxb6619359a.fnPolymodDetectsEveryBurstOfSix
open Go.ChangeShapes Go.WideShapes Go.ChangeAt Go.RowKit
open Go.ChangeMaps (open_string shut_string)
set_option linter.unusedVariables false

theorem own : ownKnob Try.prog.godebug = none := by kernel_rfl
theorem laidOut : laidOutB Try.prog = true := by kernel_rfl

def IsRow (k : IntKind) (w : World) (a : Option Addr) (len cap : Nat) (zs : List Int) : Prop :=
  (a = none ∧ len = 0 ∧ cap = 0 ∧ zs = []) ∨
  ∃ x, a = some x ∧ len ≤ cap ∧ cap ≤ maxLen ∧ zs.length = cap ∧ (∀ i, i < zs.length → w.cell? (x.add i) = some (.int k (zs.getD i 0))) ∧ ∀ n ∈ zs, (Lit.int k n).wf = true

theorem walk (a0 : ByteArray) (a1 : Option Addr) (len1 cap1 : Nat) (z1 : List Int) (a2 : Int) (p0 p1 p2 p3 p4 p5 : Nat) (w : World) (w0 : a0.size ≤ maxLen) (w1 : IsRow .u8 w a1 len1 cap1 z1) (w2 : (Lit.int .i64 a2).wf = true) (w3 : ∀ z ∈ [p0, p1, p2, p3, p4, p5], z < 256) :
    Calls Try.prog 7 #[.string a0, .slice a1 len1 cap1, .int .i64 a2, .agg #[.int .u8 (p0 : Int), .int .u8 (p1 : Int), .int .u8 (p2 : Int), .int .u8 (p3 : Int), .int .u8 (p4 : Int), .int .u8 (p5 : Int)]] w fun e w' => e = .returned (.bool true) ∧ Below w.heap.size w w' := by
  have hm : len1 ≤ maxLen := by
    rcases w1 with ⟨_, h, _⟩ | ⟨x, _, h1, h2, _⟩
    · rw [h]; exact Nat.zero_le _
    · exact Nat.le_trans h1 h2
  by_cases hn : a0.size + len1 ≤ 1048576
  · by_cases hr : a2 < 0 ∨ (len1 : Int) - 6 < a2
    · exact burst_out a0 a1 len1 cap1 a2 _ _ _ _ _ _ w hn hr
    · obtain ⟨P, rfl⟩ := Int.eq_ofNat_of_zero_le (show 0 ≤ a2 by omega)
      rcases w1 with ⟨rfl, rfl, rfl, rfl⟩ | ⟨x, rfl, hl, hm, hz, hc, hw⟩
      · omega
      · obtain ⟨ns, h1, h2, h3⟩ := open_arg hl hz hc hw
        exact burst_some a0 x len1 cap1 P ns p0 p1 p2 p3 p4 p5 w hn h1 h2 (by omega) w3 h3
  · exact burst_long a0 a1 len1 cap1 a2 _ _ _ _ _ _ w (by omega) w0 hm

theorem cells27 : Try.prog.cellsOf 27 = 6 := by kernel_rfl
theorem cells5 : Try.prog.cellsOf 5 = 1 := by kernel_rfl

theorem array6 {α : Type} {cs : Array α} (h : cs.size = 6) : ∃ c0 c1 c2 c3 c4 c5, cs = #[c0, c1, c2, c3, c4, c5] := by
  obtain ⟨l⟩ := cs
  match l, h with
  | [c0, c1, c2, c3, c4, c5], _ => exact ⟨c0, c1, c2, c3, c4, c5, rfl⟩

theorem one_byte {H : Type} {enc : TypeId × Value → H} {W : World} {m : Nat} {c : Value} {y : DataW H × List MemPlace} (h : DataW.trod enc Try.prog W 0 (fun _ => true) true m 5 [c] = some y) : ∃ p : Nat, c = .int .u8 (p : Int) ∧ p < 256 := by
  obtain ⟨a, e0, _, wa⟩ := DataW.trod_int Try.underlying5 h
  simp at e0
  have hb := bounds_u8 wa
  obtain ⟨p, rfl⟩ := Int.eq_ofNat_of_zero_le hb.1
  exact ⟨p, e0, by omega⟩

/-- AN ARRAY [6]byte BY VALUE, opened. -/
theorem open_array6 {H : Type} {enc : TypeId × Value → H} {W : World} {r : Reach} {b0 : Nat} {v : Value} {d : DataW H} {p : List MemPlace} (hv : Value.okWide Try.prog W r b0 27 v) (h : DataW.Trod enc Try.prog W 0 (fun _ => true) true 27 v d p) :
    ∃ p0 p1 p2 p3 p4 p5 : Nat, v = .agg #[.int .u8 (p0 : Int), .int .u8 (p1 : Int), .int .u8 (p2 : Int), .int .u8 (p3 : Int), .int .u8 (p4 : Int), .int .u8 (p5 : Int)] ∧ ∀ z ∈ [p0, p1, p2, p3, p4, p5], z < 256 := by
  obtain ⟨cs, rfl, hsz⟩ : ∃ cs, v = .agg cs ∧ cs.size = Try.prog.cellsOf 27 := by
    unfold Value.okWide at hv
    rw [Try.underlying27] at hv
    obtain ⟨cs, h1, h2, _⟩ := hv
    exact ⟨cs, h1, h2⟩
  obtain ⟨c0, c1, c2, c3, c4, c5, rfl⟩ := array6 (hsz.trans cells27)
  obtain ⟨fuel, hf⟩ := h
  obtain ⟨xs, m, _, _, _, hx, hi⟩ := DataW.trod_array Try.underlying27 hf
  rw [cells5] at hi
  have get : ∀ i, i < 6 → ∃ y, xs[i]? = some y := fun i h => ⟨xs[i], List.getElem?_eq_getElem (by omega)⟩
  obtain ⟨y0, g0⟩ := get 0 (by decide)
  obtain ⟨y1, g1⟩ := get 1 (by decide)
  obtain ⟨y2, g2⟩ := get 2 (by decide)
  obtain ⟨y3, g3⟩ := get 3 (by decide)
  obtain ⟨y4, g4⟩ := get 4 (by decide)
  obtain ⟨y5, g5⟩ := get 5 (by decide)
  obtain ⟨p0, rfl, b0⟩ := one_byte (c := c0) ((hi 0 (by decide)).trans g0)
  obtain ⟨p1, rfl, b1⟩ := one_byte (c := c1) ((hi 1 (by decide)).trans g1)
  obtain ⟨p2, rfl, b2⟩ := one_byte (c := c2) ((hi 2 (by decide)).trans g2)
  obtain ⟨p3, rfl, b3⟩ := one_byte (c := c3) ((hi 3 (by decide)).trans g3)
  obtain ⟨p4, rfl, b4⟩ := one_byte (c := c4) ((hi 4 (by decide)).trans g4)
  obtain ⟨p5, rfl, b5⟩ := one_byte (c := c5) ((hi 5 (by decide)).trans g5)
  refine ⟨p0, p1, p2, p3, p4, p5, rfl, ?_⟩
  intro z hz
  simp only [List.mem_cons, List.not_mem_nil, or_false] at hz
  rcases hz with rfl | rfl | rfl | rfl | rfl | rfl <;> assumption

/-! ### THE ROW's STEP: WRITTEN OUT: LEAVE IT -/
set_option maxRecDepth 100000 in
theorem lifted (os : Os) (started : os.Started) (H : Type) (enc : TypeId × Value → H) :
    ReturnsInHanded {} Try.checked os 7 .any (Rows.fnPolymodDetectsEveryBurstOfSixSpec.pre6 enc Try.prog Try.f7 Rows.fnPolymodDetectsEveryBurstOfSixRow.domain false) (Rows.fnPolymodDetectsEveryBurstOfSixSpec.post enc Try.prog Try.f7 false true false false) := by
  refine returnsInHanded_of_change (C := Try.checked) own started (by kernel_rfl) Try.func7
    (ChangeSpec.witness6 (enc := enc) (C := Try.checked) false ⟨#[], #[.string ByteArray.empty, .slice none 0 0, .int .i64 0, .agg #[.int .u8 0, .int .u8 0, .int .u8 0, .int .u8 0, .int .u8 0, .int .u8 0]], []⟩ 8 (by kernel_rfl) (by kernel_rfl) (by kernel_rfl) (by kernel_rfl)) ?_
  intro W base args ds gs before hval0 hW hcnd _
  have hval : ∀ (j : Nat) t v, Try.f7.params[j]? = some t → args[j]? = some v → Value.okWide Try.prog W .any base t v := hval0
  have hW' := hW
  obtain ⟨p, q, hA0, hV, rfl, hfz, hnd⟩ := hW
  have hA : DataW.TrodAll enc Try.prog W 0 (fun _ => true) true Try.f7.params.toList args.toList ds p := hA0
  rw [Try.params7] at hA hval
  obtain ⟨v0, vs0, d0, ds0, p0, q0, hargs, rfl, rfl, h0, r0⟩ := trodAll_cons hA
  obtain ⟨v1, vs1, d1, ds1, p1, q1, rfl, rfl, rfl, h1, r1⟩ := trodAll_cons r0
  obtain ⟨v2, vs2, d2, ds2, p2, q2, rfl, rfl, rfl, h2, r2⟩ := trodAll_cons r1
  obtain ⟨v3, vs3, d3, ds3, p3, q3, rfl, rfl, rfl, h3, r3⟩ := trodAll_cons r2
  obtain ⟨rfl, rfl, rfl⟩ := trodAll_nil r3
  obtain rfl : args = #[v0, v1, v2, v3] := by cases args; simp_all
  obtain ⟨rfl, rfl⟩ := trodVars_none hV
  obtain ⟨a0, rfl, rfl, rfl, w0⟩ := open_string Try.underlying9 (hval 0 9 v0 rfl rfl) h0
  obtain ⟨a1, len1, cap1, rfl⟩ := okWide_slice Try.underlying22 (hval 1 22 v1 rfl rfl)
  have k1 := h1
  have lt1 : ∀ x ∈ p1, x.block < W.heap.size := by obtain ⟨m, hm⟩ := k1; exact DataW.trod_lt m _ _ _ hm
  obtain ⟨z1, w1⟩ : ∃ zs, IsRow .u8 W a1 len1 cap1 zs := by
    obtain ⟨fuel, hf⟩ := h1
    rcases open_ints Try.underlying22 Try.underlying5 (by kernel_rfl) hf with ⟨hcs, _⟩ | ⟨x, l, c, zs, hcs, _, hl, hm, hz, _, hcell, hwz⟩
    · simp [Value.cells] at hcs
      obtain ⟨rfl, rfl, rfl⟩ := hcs
      exact ⟨[], .inl ⟨rfl, rfl, rfl, rfl⟩⟩
    · simp [Value.cells] at hcs
      obtain ⟨rfl, rfl, rfl⟩ := hcs
      exact ⟨zs, .inr ⟨_, rfl, hl, hm, by simpa using hz, hcell, hwz⟩⟩
  obtain ⟨a2, rfl, rfl, rfl, w2⟩ := open_int Try.underlying3 (hval 2 3 v2 rfl rfl) h2
  have k3 := h3
  have lt3 : ∀ x ∈ p3, x.block < W.heap.size := by obtain ⟨m, hm⟩ := k3; exact DataW.trod_lt m _ _ _ hm
  obtain ⟨c0, c1, c2, c3, c4, c5, rfl, w3⟩ := open_array6 (hval 3 27 v3 rfl rfl) h3
  clear hA0 hval0
  refine (walk a0 a1 len1 cap1 z1 a2 c0 c1 c2 c3 c4 c5 W w0 w1 w2 w3).mono fun e W' ⟨he, bel⟩ => ?_
  subst he
  exact ⟨_, rfl, _, _, _, [], _, [], hW', trodAll_mk1 (shut_bool Try.underlying4 _), (trodAll_cons_mk (shut_string Try.underlying9 w0) (trodAll_cons_mk (Below.trod laidOut (by kernel_rfl) (of_decide_eq_true (by kernel_rfl)) k1 bel lt1) (trodAll_cons_mk (shut_int Try.underlying3 w2) (trodAll_cons_mk (Below.trod laidOut (by kernel_rfl) (of_decide_eq_true (by kernel_rfl)) k3 bel lt3) trodAll_mk0)))), rfl, bel.frame _, fun h => by cases h⟩

theorem over : Rows.fnPolymodDetectsEveryBurstOfSixRow.holds Try.pinned (OpenSpec.ofChange Rows.fnPolymodDetectsEveryBurstOfSixSpec) :=
  OpenClaim.holds_of_wide 7 Try.f7 rfl rfl rfl rfl rfl rfl rfl ⟨rfl, rfl, rfl, rfl, rfl⟩ rfl rfl rfl rfl rfl (by kernel_rfl) Try.func7 (by kernel_rfl)
    (of_decide_eq_true (by kernel_rfl)) (by unfold Func.isWrapper; first | (rw [if_pos (by decide +kernel)]; kernel_rfl) | (rw [if_neg (by decide +kernel)]; exact ⟨rfl, rfl⟩))
    (fun os started H enc _ => lifted os started H enc)

/-- ████ THE STATEMENT ████ -/
theorem proved : Rows.FnPolymodDetectsEveryBurstOfSixSaid := over
#print axioms proved
end Go.Proofs.Qxb6619359a.fnPolymodDetectsEveryBurstOfSix
