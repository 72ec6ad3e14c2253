import Derived.Test.YbulkcwgqWalks
namespace Go.Proofs.Ybulkcwgq
open Go.RowKit

set_option maxHeartbeats 2000000 in
/-- zzs4891cmodel: the top word signed, the others unsigned. -/
theorem model_any (x0 x1 x2 x3 y0 y1 y2 y3 : Int) (w : World) :
    Calls Yba.prog 5 #[.int .i64 x3, .agg #[.int .u64 x0, .int .u64 x1, .int .u64 x2], .int .i64 y3, .agg #[.int .u64 y0, .int .u64 y1, .int .u64 y2]] w fun e w' => e = .returned (.int .i64 (cmp1 x3 y3 (cmp1 x2 y2 (cmp1 x1 y1 (cmp1 x0 y0 0))))) ∧ Below w.heap.size w w' := by
  have hb : Below w.heap.size w ((w.alloc (.cells #[.int .u64 x0, .int .u64 x1, .int .u64 x2] 27)).alloc (.cells #[.int .u64 y0, .int .u64 y1, .int .u64 y2] 27)) := ((Below.refl _ w).alloc (Nat.le_refl _) _).alloc (by simp) _
  rcases Int.lt_trichotomy x3 y3 with hl | he | hg
  · have hl' : ¬ y3 < x3 := by omega
    go_enter Yba.func5, Yba.ntmps5
    go_wp2
    go_ret
    exact ⟨ret_int (by rw [cmp1_lt hl]), hb⟩
  · subst he
    rcases Int.lt_trichotomy x2 y2 with hl | he | hg
    · have hl' : ¬ y2 < x2 := by omega
      go_enter Yba.func5, Yba.ntmps5
      go_wp2
      refine wp_loop_rounds 1 ?_
      rw [rounds_succ]
      go_wp2
      go_quiet (fail)
      go_wp2
      go_ret
      exact ⟨ret_int (by rw [cmp1_eq, cmp1_lt hl]), by simpa only [World.drewN_drewN] using below_drewN hb _⟩
    · subst he
      rcases Int.lt_trichotomy x1 y1 with hl | he | hg
      · have hl' : ¬ y1 < x1 := by omega
        go_enter Yba.func5, Yba.ntmps5
        go_wp2
        refine wp_loop_rounds 2 ?_
        rw [rounds_succ]
        go_wp2
        go_quiet (fail)
        go_wp2
        go_quiet (fail)
        go_wp2
        rw [rounds_succ]
        go_wp2
        go_quiet (fail)
        go_wp2
        go_ret
        exact ⟨ret_int (by rw [cmp1_eq, cmp1_eq, cmp1_lt hl]), by simpa only [World.drewN_drewN] using below_drewN hb _⟩
      · subst he
        rcases Int.lt_trichotomy x0 y0 with hl | he | hg
        · have hl' : ¬ y0 < x0 := by omega
          go_enter Yba.func5, Yba.ntmps5
          go_wp2
          refine wp_loop_rounds 3 ?_
          rw [rounds_succ]
          go_wp2
          go_quiet (fail)
          go_wp2
          go_quiet (fail)
          go_wp2
          rw [rounds_succ]
          go_wp2
          go_quiet (fail)
          go_wp2
          go_quiet (fail)
          go_wp2
          rw [rounds_succ]
          go_wp2
          go_quiet (fail)
          go_wp2
          go_ret
          exact ⟨ret_int (by rw [cmp1_eq, cmp1_eq, cmp1_eq, cmp1_lt hl]), by simpa only [World.drewN_drewN] using below_drewN hb _⟩
        · subst he
          go_enter Yba.func5, Yba.ntmps5
          go_wp2
          refine wp_loop_rounds 4 ?_
          rw [rounds_succ]
          go_wp2
          go_quiet (fail)
          go_wp2
          go_quiet (fail)
          go_wp2
          rw [rounds_succ]
          go_wp2
          go_quiet (fail)
          go_wp2
          go_quiet (fail)
          go_wp2
          rw [rounds_succ]
          go_wp2
          go_quiet (fail)
          go_wp2
          go_quiet (fail)
          go_wp2
          rw [rounds_succ]
          go_wp2
          go_ret
          exact ⟨ret_int (by rw [cmp1_eq, cmp1_eq, cmp1_eq, cmp1_eq]), by simpa only [World.drewN_drewN] using below_drewN hb _⟩
        · have hg' : ¬ x0 < y0 := by omega
          go_enter Yba.func5, Yba.ntmps5
          go_wp2
          refine wp_loop_rounds 3 ?_
          rw [rounds_succ]
          go_wp2
          go_quiet (fail)
          go_wp2
          go_quiet (fail)
          go_wp2
          rw [rounds_succ]
          go_wp2
          go_quiet (fail)
          go_wp2
          go_quiet (fail)
          go_wp2
          rw [rounds_succ]
          go_wp2
          go_quiet (fail)
          go_wp2
          go_quiet (fail)
          go_wp2
          go_ret
          exact ⟨ret_int (by rw [cmp1_eq, cmp1_eq, cmp1_eq, cmp1_gt hg]), by simpa only [World.drewN_drewN] using below_drewN hb _⟩
      · have hg' : ¬ x1 < y1 := by omega
        go_enter Yba.func5, Yba.ntmps5
        go_wp2
        refine wp_loop_rounds 2 ?_
        rw [rounds_succ]
        go_wp2
        go_quiet (fail)
        go_wp2
        go_quiet (fail)
        go_wp2
        rw [rounds_succ]
        go_wp2
        go_quiet (fail)
        go_wp2
        go_quiet (fail)
        go_wp2
        go_ret
        exact ⟨ret_int (by rw [cmp1_eq, cmp1_eq, cmp1_gt hg]), by simpa only [World.drewN_drewN] using below_drewN hb _⟩
    · have hg' : ¬ x2 < y2 := by omega
      go_enter Yba.func5, Yba.ntmps5
      go_wp2
      refine wp_loop_rounds 1 ?_
      rw [rounds_succ]
      go_wp2
      go_quiet (fail)
      go_wp2
      go_quiet (fail)
      go_wp2
      go_ret
      exact ⟨ret_int (by rw [cmp1_eq, cmp1_gt hg]), by simpa only [World.drewN_drewN] using below_drewN hb _⟩
  · have hg' : ¬ x3 < y3 := by omega
    go_enter Yba.func5, Yba.ntmps5
    go_wp2
    go_ret
    exact ⟨ret_int (by rw [cmp1_gt hg]), hb⟩
end Go.Proofs.Ybulkcwgq
