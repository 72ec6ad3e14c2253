import Derived.Test.YbulkcwgqPlain
namespace Go.Proofs.Ybulkcwgq
open Go.RowKit

/-- The upper words of a number that fits int64. -/
def hiW (x : Int) : Int := if x < 0 then 18446744073709551615 else 0

set_option maxHeartbeats 400000 in
/-- NewInt256 of a negative number. -/
theorem new_neg (x : Int) (h : x < 0) (w : World) :
    Calls Yba.prog 7 #[.int .i64 x] w fun e w' => e = .returned (.agg #[.int .u64 (IntKind.u64.wrap x), .int .u64 18446744073709551615, .int .u64 18446744073709551615, .int .u64 18446744073709551615]) ∧ Below w.heap.size w w' := by
  go_enter Yba.func7, Yba.ntmps7
  go_wp2
  simp [bodyPost, results, Yba.results7, go_sem]
  exact ((Below.refl _ w).alloc (Nat.le_refl _) _).alloc (by simp) _
set_option maxHeartbeats 400000 in
/-- NewInt256 of another. -/
theorem new_pos (x : Int) (h : 0 ≤ x) (w : World) :
    Calls Yba.prog 7 #[.int .i64 x] w fun e w' => e = .returned (.agg #[.int .u64 (IntKind.u64.wrap x), .int .u64 0, .int .u64 0, .int .u64 0]) ∧ Below w.heap.size w w' := by
  have h' : ¬ x < 0 := by omega
  go_enter Yba.func7, Yba.ntmps7
  go_wp2
  simp [bodyPost, results, Yba.results7, go_sem]
  exact ((Below.refl _ w).alloc (Nat.le_refl _) _).alloc (by simp) _
/-- NewInt256. -/
theorem new_any (x : Int) (w : World) :
    Calls Yba.prog 7 #[.int .i64 x] w fun e w' => e = .returned (.agg #[.int .u64 (IntKind.u64.wrap x), .int .u64 (hiW x), .int .u64 (hiW x), .int .u64 (hiW x)]) ∧ Below w.heap.size w w' := by
  by_cases h : x < 0
  · have e : hiW x = 18446744073709551615 := by simp [hiW, h]
    rw [e]; exact new_neg x h w
  · have e : hiW x = 0 := by simp [hiW, h]
    rw [e]; exact new_pos x (by omega) w
theorem hiW_word (x : Int) : Word (hiW x) := by unfold hiW Word; split <;> omega
theorem negB_hiW (x : Int) : negB (hiW x) = decide (x < 0) := by unfold hiW negB; by_cases h : x < 0 <;> simp [h]
/-- Cmp of two numbers that fit int64 is their order. -/
theorem cmp4_new (a b : Int) (h : -9223372036854775808 ≤ a ∧ a < 9223372036854775808) (k : -9223372036854775808 ≤ b ∧ b < 9223372036854775808) :
    cmp4 (IntKind.u64.wrap a) (hiW a) (hiW a) (hiW a) (IntKind.u64.wrap b) (hiW b) (hiW b) (hiW b) = cmp1 a b 0 := by
  unfold cmp4
  rw [negB_hiW, negB_hiW, wrap_word, wrap_word]
  by_cases g : a < 0 <;> by_cases g' : b < 0
  · simp only [g, g', hiW, if_true, cmp1_eq]
    unfold cmp1
    split <;> (try split) <;> (try split) <;> (try split) <;> first | rfl | omega
  · simp only [g, g', decide_true, decide_false, Bool.true_eq_false, if_true, if_false]
    rw [cmp1_lt (by omega)]
  · simp only [g, g', decide_true, decide_false, Bool.false_eq_true, if_false]
    rw [cmp1_gt (by omega)]
  · simp only [g, g', hiW, if_true, if_false, cmp1_eq]
    unfold cmp1
    split <;> (try split) <;> (try split) <;> (try split) <;> first | rfl | omega
set_option maxHeartbeats 400000 in
/-- cmp.Compare at int64. -/
theorem compare_any (x y : Int) (w : World) :
    Calls Yba.prog 8 #[.int .i64 x, .int .i64 y] w fun e w' => e = .returned (.int .i64 (cmp1 x y 0)) ∧ w' = w := by
  rcases Int.lt_trichotomy x y with hl | he | hg
  · go_enter Yba.func8, Yba.ntmps8
    go_wp2
    go_ret
    exact ⟨ret_int (by rw [cmp1_lt hl]), rfl⟩
  · subst he
    go_enter Yba.func8, Yba.ntmps8
    go_wp2
    go_ret
    exact ⟨ret_int (by rw [cmp1_eq]), rfl⟩
  · have hg' : ¬ x < y := by omega
    go_enter Yba.func8, Yba.ntmps8
    go_wp2
    go_ret
    exact ⟨ret_int (by rw [cmp1_gt hg]), rfl⟩
end Go.Proofs.Ybulkcwgq
