import Derived.Test.YbulkcwgqModel
import Derived.OpenShut
namespace Go.Proofs.Ybulkcwgq
open Go.RowKit

/-- '==' on two [4]uint64. -/
theorem eq_words (d : Nat) (x0 x1 x2 x3 y0 y1 y2 y3 : Int) (w : World) :
    (Op.equalIn (d + 2) 23 (.agg #[.int .u64 x0, .int .u64 x1, .int .u64 x2, .int .u64 x3]) (.agg #[.int .u64 y0, .int .u64 y1, .int .u64 y2, .int .u64 y3])).run Yba.prog w
      = .ok (x0 == y0 && (x1 == y1 && (x2 == y2 && x3 == y3))) w := by
  have e : ∀ (a b : Int) w, (Op.equalIn (d + 1) 22 (.int .u64 a) (.int .u64 b)).run Yba.prog w = .ok (a == b) w := fun a b w => run_equalIn_int w d 22 .u64 .u64 a b Yba.underlying22
  have hs : ∀ w, (sizeOf 22).run Yba.prog w = .ok 1 w := fun w => by kernel_rfl
  have hp : ∀ (i : Nat) (a b c d : Value), i < 4 → ∀ w, (part 22 #[a, b, c, d] i).run Yba.prog w = .ok (#[a, b, c, d].getD i a) w := by
    intro i a b c d hi w
    match i, hi with
    | 0, _ => simp [part, go_sem]
    | 1, _ => simp [part, go_sem]
    | 2, _ => simp [part, go_sem]
    | 3, _ => simp [part, go_sem]
  rw [Op.equalIn]
  simp only [Sem.run_bind, run_underlying Yba.underlying23, Result.andThen_ok, hs]
  simp [Std.Legacy.Range.forIn_eq_forIn_range', Std.Legacy.Range.size, List.range', List.forIn_cons, hp, e]
  by_cases h0 : x0 = y0 <;> by_cases h1 : x1 = y1 <;> by_cases h2 : x2 = y2 <;> by_cases h3 : x3 = y3 <;> simp [h0, h1, h2, h3]

theorem bd_i64 {n : Int} (h : (Lit.int .i64 n).wf = true) : -9223372036854775808 ≤ n ∧ n < 9223372036854775808 := by
  have := bounds_i64 h; omega

/-- The word of a signed number. -/
theorem wrap_word (a : Int) : IntKind.u64.wrap a = a % 18446744073709551616 := by
  simp [IntKind.wrap, IntKind.bits, IntKind.signed]
theorem wrap_is_word (a : Int) : Word (IntKind.u64.wrap a) := by
  rw [wrap_word]; exact ⟨by omega, by omega⟩
theorem negB_wrap (a : Int) (h : -9223372036854775808 ≤ a ∧ a < 9223372036854775808) : negB (IntKind.u64.wrap a) = decide (a < 0) := by
  rw [wrap_word]; unfold negB; rw [Bool.eq_iff_iff]; simp; omega

/-- Cmp over the words orders as the signed top word and the unsigned others do. -/
theorem cmp4_signed (a0 a1 a2 a3 b0 b1 b2 b3 : Int) (h : -9223372036854775808 ≤ a3 ∧ a3 < 9223372036854775808) (k : -9223372036854775808 ≤ b3 ∧ b3 < 9223372036854775808) :
    cmp4 a0 a1 a2 (IntKind.u64.wrap a3) b0 b1 b2 (IntKind.u64.wrap b3) = cmp1 a3 b3 (cmp1 a2 b2 (cmp1 a1 b1 (cmp1 a0 b0 0))) := by
  generalize hR : cmp1 a2 b2 (cmp1 a1 b1 (cmp1 a0 b0 0)) = R
  unfold cmp4
  rw [hR, negB_wrap a3 h, negB_wrap b3 k, wrap_word, wrap_word]
  by_cases g : a3 < 0 <;> by_cases g' : b3 < 0
  · simp only [g, g', decide_true, if_true]
    unfold cmp1
    split <;> (try split) <;> (try split) <;> (try split) <;> first | rfl | omega
  · simp only [g, g', decide_true, decide_false, Bool.true_eq_false, if_true, if_false]
    rw [cmp1_lt (by omega)]
  · simp only [g, g', decide_true, decide_false, Bool.false_eq_true, if_false]
    rw [cmp1_gt (by omega)]
  · simp only [g, g', if_true]
    unfold cmp1
    split <;> (try split) <;> (try split) <;> (try split) <;> first | rfl | omega

theorem cmp1_swap (x y r : Int) : cmp1 y x (-r) = - cmp1 x y r := by
  unfold cmp1
  split <;> split <;> first | rfl | omega | (split <;> first | rfl | omega)

def M4 (a0 a1 a2 a3 b0 b1 b2 b3 : Int) : Int := cmp1 a3 b3 (cmp1 a2 b2 (cmp1 a1 b1 (cmp1 a0 b0 0)))
theorem M4_swap (a0 a1 a2 a3 b0 b1 b2 b3 : Int) : M4 b0 b1 b2 b3 a0 a1 a2 a3 = - M4 a0 a1 a2 a3 b0 b1 b2 b3 := by
  unfold M4
  rw [← cmp1_swap, ← cmp1_swap, ← cmp1_swap, ← cmp1_swap]; rfl
theorem M4_self (a0 a1 a2 a3 : Int) : M4 a0 a1 a2 a3 a0 a1 a2 a3 = 0 := by
  unfold M4; rw [cmp1_eq, cmp1_eq, cmp1_eq, cmp1_eq]
theorem cmp1_bd (x y r : Int) (h : -1 ≤ r ∧ r ≤ 1) : -1 ≤ cmp1 x y r ∧ cmp1 x y r ≤ 1 := by
  unfold cmp1; split; omega; split <;> omega
theorem M4_bd (a0 a1 a2 a3 b0 b1 b2 b3 : Int) : -1 ≤ M4 a0 a1 a2 a3 b0 b1 b2 b3 ∧ M4 a0 a1 a2 a3 b0 b1 b2 b3 ≤ 1 :=
  cmp1_bd _ _ _ (cmp1_bd _ _ _ (cmp1_bd _ _ _ (cmp1_bd _ _ _ (by omega))))
theorem cmp1_zero {x y r : Int} (h : cmp1 x y r = 0) : x = y ∧ r = 0 := by
  unfold cmp1 at h; split at h; omega; split at h <;> omega
theorem M4_zero {a0 a1 a2 a3 b0 b1 b2 b3 : Int} (h : M4 a0 a1 a2 a3 b0 b1 b2 b3 = 0) : a3 = b3 ∧ a2 = b2 ∧ a1 = b1 ∧ a0 = b0 := by
  obtain ⟨h3, h⟩ := cmp1_zero h
  obtain ⟨h2, h⟩ := cmp1_zero h
  obtain ⟨h1, h⟩ := cmp1_zero h
  obtain ⟨h0, _⟩ := cmp1_zero h
  exact ⟨h3, h2, h1, h0⟩
/-- The model's answer is 0 just where the two values are one. -/
theorem M4_eql (a0 a1 a2 a3 b0 b1 b2 b3 : Int) (h : -9223372036854775808 ≤ a3 ∧ a3 < 9223372036854775808) (k : -9223372036854775808 ≤ b3 ∧ b3 < 9223372036854775808) :
    (a0 == b0 && (a1 == b1 && (a2 == b2 && IntKind.u64.wrap a3 == IntKind.u64.wrap b3))) = (M4 a0 a1 a2 a3 b0 b1 b2 b3 == 0) := by
  rw [Bool.eq_iff_iff]
  simp only [Bool.and_eq_true, beq_iff_eq]
  constructor
  · rintro ⟨rfl, rfl, rfl, h3⟩
    rw [wrap_word, wrap_word] at h3
    obtain rfl : a3 = b3 := by omega
    exact M4_self _ _ _ _
  · intro h0
    obtain ⟨rfl, rfl, rfl, rfl⟩ := M4_zero h0
    exact ⟨rfl, rfl, rfl, rfl⟩
end Go.Proofs.Ybulkcwgq
