import Derived.Test.YbulkcwgqRows
import Derived.WalkKit
import Derived.WalkSpells
import Derived.WalkLawsBesides
import Derived.StillTactics
import Derived.Laws.Pointers
import Derived.Deep.RegionHeld3
import Derived.Deep.RegionWith
import Derived.Deep.QuietTactic
import Derived.BigQuiet
import Derived.Outline
import Derived.Deep.Light
import Derived.Deep.DeepCutAuto
import Derived.WalkSmall
import Derived.RowKit3
import Derived.Below
namespace Go.Proofs.Ybulkcwgq
open Go.RowKit

/-- A word. -/
def Word (x : Int) : Prop := 0 ≤ x ∧ x < 18446744073709551616

/-- The sign of a 256-bit value, off its top word. -/
def negB (d : Int) : Bool := decide (9223372036854775808 ≤ d)

theorem ret_bool {a b : Bool} (h : a = b) : Ending.returned (.bool a) = .returned (.bool b) := by rw [h]
theorem ret_int {k : IntKind} {a b : Int} (h : a = b) : Ending.returned (.int k a) = .returned (.int k b) := by rw [h]
theorem negB_shift (d : Int) (h : 0 ≤ d) : (d / 9223372036854775808 != 0) = negB d := by
  unfold negB
  rw [Bool.eq_iff_iff]; simp; omega

set_option maxHeartbeats 400000 in
/-- Int256.negative: the top bit of the top word. -/
theorem neg_any (a b c d : Int) (hd : Word d) (w : World) :
    Calls Yba.prog 9 #[.agg #[.int .u64 a, .int .u64 b, .int .u64 c, .int .u64 d]] w fun e w' => e = .returned (.bool (negB d)) ∧ ∃ k : Array Value, w' = w.alloc (.cells k 25) := by
  obtain ⟨h0, h1⟩ := hd
  go_enter Yba.func9, Yba.ntmps9
  go_wp2
  go_ret
  exact ⟨ret_bool (negB_shift d h0), _, rfl⟩

/-- What Cmp answers. -/
def cmp1 (x y r : Int) : Int := if x < y then -1 else if y < x then 1 else r
def cmp4 (x0 x1 x2 x3 y0 y1 y2 y3 : Int) : Int :=
  if negB x3 = negB y3 then cmp1 x3 y3 (cmp1 x2 y2 (cmp1 x1 y1 (cmp1 x0 y0 0))) else if negB x3 then -1 else 1
theorem cmp1_lt {x y r : Int} (h : x < y) : cmp1 x y r = -1 := by simp [cmp1, h]
theorem cmp1_gt {x y r : Int} (h : y < x) : cmp1 x y r = 1 := by have h' : ¬ x < y := by omega
                                                                 simp [cmp1, h, h']
theorem cmp1_eq {x r : Int} : cmp1 x x r = r := by simp [cmp1]
theorem cmp4_same {x0 x1 x2 x3 y0 y1 y2 y3 : Int} (h : negB x3 = negB y3) : cmp4 x0 x1 x2 x3 y0 y1 y2 y3 = cmp1 x3 y3 (cmp1 x2 y2 (cmp1 x1 y1 (cmp1 x0 y0 0))) := by simp [cmp4, h]
theorem cmp4_neg {x0 x1 x2 x3 y0 y1 y2 y3 : Int} (h : negB x3 = true) (h' : negB y3 = false) : cmp4 x0 x1 x2 x3 y0 y1 y2 y3 = -1 := by simp [cmp4, h, h']
theorem cmp4_pos {x0 x1 x2 x3 y0 y1 y2 y3 : Int} (h : negB x3 = false) (h' : negB y3 = true) : cmp4 x0 x1 x2 x3 y0 y1 y2 y3 = 1 := by simp [cmp4, h, h']

set_option maxHeartbeats 2000000 in
/-- Int256.Cmp. -/
theorem cmp_any (x0 x1 x2 x3 y0 y1 y2 y3 : Int) (hx : Word x3) (hy : Word y3) (w : World) :
    Calls Yba.prog 6 #[.agg #[.int .u64 x0, .int .u64 x1, .int .u64 x2, .int .u64 x3], .agg #[.int .u64 y0, .int .u64 y1, .int .u64 y2, .int .u64 y3]] w fun e w' => e = .returned (.int .i64 (cmp4 x0 x1 x2 x3 y0 y1 y2 y3)) ∧ Below w.heap.size w w' := by
  go_enter Yba.func6, Yba.ntmps6
  go_upto_region 1 with fail
  go_cut [5, 6] (fun a b wx => a = .bool (negB x3) ∧ b = .bool (negB y3) ∧ wx.cell? ⟨w.heap.size, 0, none⟩ = some (.int .u64 x0) ∧ wx.cell? ⟨w.heap.size, 1, none⟩ = some (.int .u64 x1) ∧ wx.cell? ⟨w.heap.size, 2, none⟩ = some (.int .u64 x2) ∧ wx.cell? ⟨w.heap.size, 3, none⟩ = some (.int .u64 x3) ∧ wx.cell? ⟨w.heap.size + 1, 0, none⟩ = some (.int .u64 y0) ∧ wx.cell? ⟨w.heap.size + 1, 1, none⟩ = some (.int .u64 y1) ∧ wx.cell? ⟨w.heap.size + 1, 2, none⟩ = some (.int .u64 y2) ∧ wx.cell? ⟨w.heap.size + 1, 3, none⟩ = some (.int .u64 y3) ∧ Below w.heap.size w wx)
  case first =>
    go_region_held3 (fun w' => w'.cell? ⟨w.heap.size, 0, none⟩ = some (.int .u64 x0) ∧ w'.cell? ⟨w.heap.size, 1, none⟩ = some (.int .u64 x1) ∧ w'.cell? ⟨w.heap.size, 2, none⟩ = some (.int .u64 x2) ∧ w'.cell? ⟨w.heap.size, 3, none⟩ = some (.int .u64 x3) ∧ w'.cell? ⟨w.heap.size + 1, 0, none⟩ = some (.int .u64 y0) ∧ w'.cell? ⟨w.heap.size + 1, 1, none⟩ = some (.int .u64 y1) ∧ w'.cell? ⟨w.heap.size + 1, 2, none⟩ = some (.int .u64 y2) ∧ w'.cell? ⟨w.heap.size + 1, 3, none⟩ = some (.int .u64 y3)) (simp [go_sem, World.cell?_alloc_past])
      (first
        | (go_at_call_of 9 (Value.int .u64 x3); refine (neg_any x0 x1 x2 x3 hx _).mono ?_; rintro e w' ⟨rfl, o1, rfl⟩)
        | (go_at_call_of 9 (Value.int .u64 y3); refine (neg_any y0 y1 y2 y3 hy _).mono ?_; rintro e w' ⟨rfl, o1, rfl⟩))
    all_goals
      go_wp2
      go_meet
      case rel =>
        go_light
        refine ⟨rfl, rfl, ?_, ?_, ?_, ?_, ?_, ?_, ?_, ?_, ?_⟩
        all_goals first
          | (simp [go_sem, World.cell?_alloc_past]; done)
          | exact (((((Below.refl _ w).alloc (Nat.le_refl _) _).alloc (by simp) _).alloc (by simp; omega) _).alloc (by simp; omega) _).drew
  case rest =>
    obtain ⟨rfl, rfl, c0, c1, c2, c3, d0, d1, d2, d3, hb⟩ := hcut
    rcases hs : negB x3 with _ | _ <;> rcases ht : negB y3 with _ | _
    · rcases Int.lt_trichotomy x3 y3 with hl | he | hg
      · have hl' : ¬ y3 < x3 := by omega
        go_wp2
        refine wp_loop_rounds 1 ?_
        rw [rounds_succ]
        go_wp2
        go_quiet (fail)
        go_wp2
        go_ret
        exact ⟨ret_int (by rw [cmp4_same (hs.trans ht.symm), cmp1_lt hl]), by simpa only [World.drewN_drewN] using below_drewN hb _⟩
      · subst he
        rcases Int.lt_trichotomy x2 y2 with hl | he | hg
        · have hl' : ¬ y2 < x2 := by omega
          go_wp2
          refine wp_loop_rounds 2 ?_
          rw [rounds_succ]
          go_wp2
          go_quiet (fail)
          go_wp2
          go_quiet (fail)
          go_wp2
          rw [rounds_succ]
          go_wp2
          go_quiet (fail)
          go_wp2
          go_ret
          exact ⟨ret_int (by rw [cmp4_same (hs.trans ht.symm), cmp1_eq, cmp1_lt hl]), by simpa only [World.drewN_drewN] using below_drewN hb _⟩
        · subst he
          rcases Int.lt_trichotomy x1 y1 with hl | he | hg
          · have hl' : ¬ y1 < x1 := by omega
            go_wp2
            refine wp_loop_rounds 3 ?_
            rw [rounds_succ]
            go_wp2
            go_quiet (fail)
            go_wp2
            go_quiet (fail)
            go_wp2
            rw [rounds_succ]
            go_wp2
            go_quiet (fail)
            go_wp2
            go_quiet (fail)
            go_wp2
            rw [rounds_succ]
            go_wp2
            go_quiet (fail)
            go_wp2
            go_ret
            exact ⟨ret_int (by rw [cmp4_same (hs.trans ht.symm), cmp1_eq, cmp1_eq, cmp1_lt hl]), by simpa only [World.drewN_drewN] using below_drewN hb _⟩
          · subst he
            rcases Int.lt_trichotomy x0 y0 with hl | he | hg
            · have hl' : ¬ y0 < x0 := by omega
              go_wp2
              refine wp_loop_rounds 4 ?_
              rw [rounds_succ]
              go_wp2
              go_quiet (fail)
              go_wp2
              go_quiet (fail)
              go_wp2
              rw [rounds_succ]
              go_wp2
              go_quiet (fail)
              go_wp2
              go_quiet (fail)
              go_wp2
              rw [rounds_succ]
              go_wp2
              go_quiet (fail)
              go_wp2
              go_quiet (fail)
              go_wp2
              rw [rounds_succ]
              go_wp2
              go_quiet (fail)
              go_wp2
              go_ret
              exact ⟨ret_int (by rw [cmp4_same (hs.trans ht.symm), cmp1_eq, cmp1_eq, cmp1_eq, cmp1_lt hl]), by simpa only [World.drewN_drewN] using below_drewN hb _⟩
            · subst he
              go_wp2
              refine wp_loop_rounds 5 ?_
              rw [rounds_succ]
              go_wp2
              go_quiet (fail)
              go_wp2
              go_quiet (fail)
              go_wp2
              rw [rounds_succ]
              go_wp2
              go_quiet (fail)
              go_wp2
              go_quiet (fail)
              go_wp2
              rw [rounds_succ]
              go_wp2
              go_quiet (fail)
              go_wp2
              go_quiet (fail)
              go_wp2
              rw [rounds_succ]
              go_wp2
              go_quiet (fail)
              go_wp2
              go_quiet (fail)
              go_wp2
              rw [rounds_succ]
              go_wp2
              go_ret
              exact ⟨ret_int (by rw [cmp4_same (hs.trans ht.symm), cmp1_eq, cmp1_eq, cmp1_eq, cmp1_eq]), by simpa only [World.drewN_drewN] using below_drewN hb _⟩
            · have hg' : ¬ x0 < y0 := by omega
              go_wp2
              refine wp_loop_rounds 4 ?_
              rw [rounds_succ]
              go_wp2
              go_quiet (fail)
              go_wp2
              go_quiet (fail)
              go_wp2
              rw [rounds_succ]
              go_wp2
              go_quiet (fail)
              go_wp2
              go_quiet (fail)
              go_wp2
              rw [rounds_succ]
              go_wp2
              go_quiet (fail)
              go_wp2
              go_quiet (fail)
              go_wp2
              rw [rounds_succ]
              go_wp2
              go_quiet (fail)
              go_wp2
              go_quiet (fail)
              go_wp2
              go_ret
              exact ⟨ret_int (by rw [cmp4_same (hs.trans ht.symm), cmp1_eq, cmp1_eq, cmp1_eq, cmp1_gt hg]), by simpa only [World.drewN_drewN] using below_drewN hb _⟩
          · have hg' : ¬ x1 < y1 := by omega
            go_wp2
            refine wp_loop_rounds 3 ?_
            rw [rounds_succ]
            go_wp2
            go_quiet (fail)
            go_wp2
            go_quiet (fail)
            go_wp2
            rw [rounds_succ]
            go_wp2
            go_quiet (fail)
            go_wp2
            go_quiet (fail)
            go_wp2
            rw [rounds_succ]
            go_wp2
            go_quiet (fail)
            go_wp2
            go_quiet (fail)
            go_wp2
            go_ret
            exact ⟨ret_int (by rw [cmp4_same (hs.trans ht.symm), cmp1_eq, cmp1_eq, cmp1_gt hg]), by simpa only [World.drewN_drewN] using below_drewN hb _⟩
        · have hg' : ¬ x2 < y2 := by omega
          go_wp2
          refine wp_loop_rounds 2 ?_
          rw [rounds_succ]
          go_wp2
          go_quiet (fail)
          go_wp2
          go_quiet (fail)
          go_wp2
          rw [rounds_succ]
          go_wp2
          go_quiet (fail)
          go_wp2
          go_quiet (fail)
          go_wp2
          go_ret
          exact ⟨ret_int (by rw [cmp4_same (hs.trans ht.symm), cmp1_eq, cmp1_gt hg]), by simpa only [World.drewN_drewN] using below_drewN hb _⟩
      · have hg' : ¬ x3 < y3 := by omega
        go_wp2
        refine wp_loop_rounds 1 ?_
        rw [rounds_succ]
        go_wp2
        go_quiet (fail)
        go_wp2
        go_quiet (fail)
        go_wp2
        go_ret
        exact ⟨ret_int (by rw [cmp4_same (hs.trans ht.symm), cmp1_gt hg]), by simpa only [World.drewN_drewN] using below_drewN hb _⟩
    · go_wp2
      go_ret
      exact ⟨ret_int (cmp4_pos hs ht).symm, hb⟩
    · go_wp2
      go_ret
      exact ⟨ret_int (cmp4_neg hs ht).symm, hb⟩
    · rcases Int.lt_trichotomy x3 y3 with hl | he | hg
      · have hl' : ¬ y3 < x3 := by omega
        go_wp2
        refine wp_loop_rounds 1 ?_
        rw [rounds_succ]
        go_wp2
        go_quiet (fail)
        go_wp2
        go_ret
        exact ⟨ret_int (by rw [cmp4_same (hs.trans ht.symm), cmp1_lt hl]), by simpa only [World.drewN_drewN] using below_drewN hb _⟩
      · subst he
        rcases Int.lt_trichotomy x2 y2 with hl | he | hg
        · have hl' : ¬ y2 < x2 := by omega
          go_wp2
          refine wp_loop_rounds 2 ?_
          rw [rounds_succ]
          go_wp2
          go_quiet (fail)
          go_wp2
          go_quiet (fail)
          go_wp2
          rw [rounds_succ]
          go_wp2
          go_quiet (fail)
          go_wp2
          go_ret
          exact ⟨ret_int (by rw [cmp4_same (hs.trans ht.symm), cmp1_eq, cmp1_lt hl]), by simpa only [World.drewN_drewN] using below_drewN hb _⟩
        · subst he
          rcases Int.lt_trichotomy x1 y1 with hl | he | hg
          · have hl' : ¬ y1 < x1 := by omega
            go_wp2
            refine wp_loop_rounds 3 ?_
            rw [rounds_succ]
            go_wp2
            go_quiet (fail)
            go_wp2
            go_quiet (fail)
            go_wp2
            rw [rounds_succ]
            go_wp2
            go_quiet (fail)
            go_wp2
            go_quiet (fail)
            go_wp2
            rw [rounds_succ]
            go_wp2
            go_quiet (fail)
            go_wp2
            go_ret
            exact ⟨ret_int (by rw [cmp4_same (hs.trans ht.symm), cmp1_eq, cmp1_eq, cmp1_lt hl]), by simpa only [World.drewN_drewN] using below_drewN hb _⟩
          · subst he
            rcases Int.lt_trichotomy x0 y0 with hl | he | hg
            · have hl' : ¬ y0 < x0 := by omega
              go_wp2
              refine wp_loop_rounds 4 ?_
              rw [rounds_succ]
              go_wp2
              go_quiet (fail)
              go_wp2
              go_quiet (fail)
              go_wp2
              rw [rounds_succ]
              go_wp2
              go_quiet (fail)
              go_wp2
              go_quiet (fail)
              go_wp2
              rw [rounds_succ]
              go_wp2
              go_quiet (fail)
              go_wp2
              go_quiet (fail)
              go_wp2
              rw [rounds_succ]
              go_wp2
              go_quiet (fail)
              go_wp2
              go_ret
              exact ⟨ret_int (by rw [cmp4_same (hs.trans ht.symm), cmp1_eq, cmp1_eq, cmp1_eq, cmp1_lt hl]), by simpa only [World.drewN_drewN] using below_drewN hb _⟩
            · subst he
              go_wp2
              refine wp_loop_rounds 5 ?_
              rw [rounds_succ]
              go_wp2
              go_quiet (fail)
              go_wp2
              go_quiet (fail)
              go_wp2
              rw [rounds_succ]
              go_wp2
              go_quiet (fail)
              go_wp2
              go_quiet (fail)
              go_wp2
              rw [rounds_succ]
              go_wp2
              go_quiet (fail)
              go_wp2
              go_quiet (fail)
              go_wp2
              rw [rounds_succ]
              go_wp2
              go_quiet (fail)
              go_wp2
              go_quiet (fail)
              go_wp2
              rw [rounds_succ]
              go_wp2
              go_ret
              exact ⟨ret_int (by rw [cmp4_same (hs.trans ht.symm), cmp1_eq, cmp1_eq, cmp1_eq, cmp1_eq]), by simpa only [World.drewN_drewN] using below_drewN hb _⟩
            · have hg' : ¬ x0 < y0 := by omega
              go_wp2
              refine wp_loop_rounds 4 ?_
              rw [rounds_succ]
              go_wp2
              go_quiet (fail)
              go_wp2
              go_quiet (fail)
              go_wp2
              rw [rounds_succ]
              go_wp2
              go_quiet (fail)
              go_wp2
              go_quiet (fail)
              go_wp2
              rw [rounds_succ]
              go_wp2
              go_quiet (fail)
              go_wp2
              go_quiet (fail)
              go_wp2
              rw [rounds_succ]
              go_wp2
              go_quiet (fail)
              go_wp2
              go_quiet (fail)
              go_wp2
              go_ret
              exact ⟨ret_int (by rw [cmp4_same (hs.trans ht.symm), cmp1_eq, cmp1_eq, cmp1_eq, cmp1_gt hg]), by simpa only [World.drewN_drewN] using below_drewN hb _⟩
          · have hg' : ¬ x1 < y1 := by omega
            go_wp2
            refine wp_loop_rounds 3 ?_
            rw [rounds_succ]
            go_wp2
            go_quiet (fail)
            go_wp2
            go_quiet (fail)
            go_wp2
            rw [rounds_succ]
            go_wp2
            go_quiet (fail)
            go_wp2
            go_quiet (fail)
            go_wp2
            rw [rounds_succ]
            go_wp2
            go_quiet (fail)
            go_wp2
            go_quiet (fail)
            go_wp2
            go_ret
            exact ⟨ret_int (by rw [cmp4_same (hs.trans ht.symm), cmp1_eq, cmp1_eq, cmp1_gt hg]), by simpa only [World.drewN_drewN] using below_drewN hb _⟩
        · have hg' : ¬ x2 < y2 := by omega
          go_wp2
          refine wp_loop_rounds 2 ?_
          rw [rounds_succ]
          go_wp2
          go_quiet (fail)
          go_wp2
          go_quiet (fail)
          go_wp2
          rw [rounds_succ]
          go_wp2
          go_quiet (fail)
          go_wp2
          go_quiet (fail)
          go_wp2
          go_ret
          exact ⟨ret_int (by rw [cmp4_same (hs.trans ht.symm), cmp1_eq, cmp1_gt hg]), by simpa only [World.drewN_drewN] using below_drewN hb _⟩
      · have hg' : ¬ x3 < y3 := by omega
        go_wp2
        refine wp_loop_rounds 1 ?_
        rw [rounds_succ]
        go_wp2
        go_quiet (fail)
        go_wp2
        go_quiet (fail)
        go_wp2
        go_ret
        exact ⟨ret_int (by rw [cmp4_same (hs.trans ht.symm), cmp1_gt hg]), by simpa only [World.drewN_drewN] using below_drewN hb _⟩
end Go.Proofs.Ybulkcwgq
