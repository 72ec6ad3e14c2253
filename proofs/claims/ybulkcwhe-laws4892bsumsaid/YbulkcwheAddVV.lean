import Derived.Test.YbulkcwheBits
namespace Go.Proofs.Ybulkcwhe
open Go.RowKit

set_option maxHeartbeats 1000000 in
/-- addVV_g of one word. -/
theorem addVV1 (gz cz gx cx gy cy : Nat) (x0 y0 z0 : Int) (w : World) (hx : w.cell? ⟨gx, 0, none⟩ = some (.int .u64 x0)) (hy : w.cell? ⟨gy, 0, none⟩ = some (.int .u64 y0)) (hz : w.cell? ⟨gz, 0, none⟩ = some (.int .u64 z0)) (fz : w.frozen? ⟨gz, 0, none⟩ = false)
    (x1 : 0 ≤ x0) (y1 : 0 ≤ y0) :
    Calls Yba.prog 26 #[.slice (some ⟨gz, 0, none⟩) 1 cz, .slice (some ⟨gx, 0, none⟩) 1 cx, .slice (some ⟨gy, 0, none⟩) 1 cy] w fun e w' =>
      e = .returned (.int .u64 ((x0 + y0) / 18446744073709551616)) ∧ ∃ q, w' = (w.drewN q).setCell ⟨gz, 0, none⟩ (.int .u64 ((x0 + y0) % 18446744073709551616)) := by
  obtain ⟨s, hs⟩ : ∃ s, (x0 + y0) % 18446744073709551616 = s := ⟨_, rfl⟩
  obtain ⟨d, hd⟩ : ∃ d, (x0 + y0) / 18446744073709551616 = d := ⟨_, rfl⟩
  have k : Hid (∀ w, Calls Yba.prog 48 #[.int .u64 x0, .int .u64 y0, .int .u64 0] w fun e w' => e = .returned (.tuple #[.int .u64 s, .int .u64 d]) ∧ w' = w) := fun w => by
    have := bitsAdd_any x0 y0 0 x1 y1 (by omega) (by omega) w
    rw [Int.add_zero, hs, hd] at this
    exact this
  rw [hs, hd]
  clear hs hd
  go_enter Yba.func26, Yba.ntmps26
  go_wp2
  refine wp_loop_rounds 2 ?_
  rw [rounds_succ]
  go_wp2
  go_quiet ((go_at_call 48; exact Calls.quiet_of_same (k.out _)))
  go_wp2
  rw [rounds_succ]
  go_wp2
  go_ret
  exact ⟨rfl, _, rfl⟩

set_option maxHeartbeats 1000000 in
/-- addVV_g of two words. -/
theorem addVV2 (gz cz gx cx gy cy : Nat) (x0 y0 z0 x1 y1 z1 : Int) (w : World) (hx : w.cell? ⟨gx, 0, none⟩ = some (.int .u64 x0)) (hy : w.cell? ⟨gy, 0, none⟩ = some (.int .u64 y0)) (hz : w.cell? ⟨gz, 0, none⟩ = some (.int .u64 z0)) (fz : w.frozen? ⟨gz, 0, none⟩ = false)
    (hx1 : w.cell? ⟨gx, 1, none⟩ = some (.int .u64 x1)) (hy1 : w.cell? ⟨gy, 1, none⟩ = some (.int .u64 y1)) (hz1 : w.cell? ⟨gz, 1, none⟩ = some (.int .u64 z1)) (fz1 : w.frozen? ⟨gz, 1, none⟩ = false)
    (p0 : 0 ≤ x0) (q0 : 0 ≤ y0) (p1 : 0 ≤ x1) (q1 : 0 ≤ y1) (p0' : x0 < 18446744073709551616) (q0' : y0 < 18446744073709551616) :
    Calls Yba.prog 26 #[.slice (some ⟨gz, 0, none⟩) 2 cz, .slice (some ⟨gx, 0, none⟩) 2 cx, .slice (some ⟨gy, 0, none⟩) 2 cy] w fun e w' =>
      e = .returned (.int .u64 ((x1 + y1 + (x0 + y0) / 18446744073709551616) / 18446744073709551616)) ∧ ∃ q, w' = ((w.drewN q).setCell ⟨gz, 0, none⟩ (.int .u64 ((x0 + y0) % 18446744073709551616))).setCell ⟨gz, 1, none⟩ (.int .u64 ((x1 + y1 + (x0 + y0) / 18446744073709551616) % 18446744073709551616)) := by
  obtain ⟨s, hs⟩ : ∃ s, (x0 + y0) % 18446744073709551616 = s := ⟨_, rfl⟩
  obtain ⟨d, hd⟩ : ∃ d, (x0 + y0) / 18446744073709551616 = d := ⟨_, rfl⟩
  have hd0 : 0 ≤ d ∧ d ≤ 1 := by omega
  obtain ⟨s1, hs1⟩ : ∃ s, (x1 + y1 + d) % 18446744073709551616 = s := ⟨_, rfl⟩
  obtain ⟨d1, hd1⟩ : ∃ d', (x1 + y1 + d) / 18446744073709551616 = d' := ⟨_, rfl⟩
  have k : Hid (∀ w, Calls Yba.prog 48 #[.int .u64 x0, .int .u64 y0, .int .u64 0] w fun e w' => e = .returned (.tuple #[.int .u64 s, .int .u64 d]) ∧ w' = w) := fun w => by
    have := bitsAdd_any x0 y0 0 p0 q0 (by omega) (by omega) w
    rw [Int.add_zero, hs, hd] at this
    exact this
  have k' : Hid (∀ w, Calls Yba.prog 48 #[.int .u64 x1, .int .u64 y1, .int .u64 d] w fun e w' => e = .returned (.tuple #[.int .u64 s1, .int .u64 d1]) ∧ w' = w) := fun w => by
    have := bitsAdd_any x1 y1 d p1 q1 hd0.1 hd0.2 w
    rw [hs1, hd1] at this
    exact this
  rw [hs, hd, hs1, hd1]
  clear hs hd hs1 hd1 hd0
  go_enter Yba.func26, Yba.ntmps26
  go_wp2
  refine wp_loop_rounds 3 ?_
  rw [rounds_succ]
  go_wp2
  go_quiet ((go_at_call 48; exact Calls.quiet_of_same (k.out _)))
  go_wp2
  rw [rounds_succ]
  go_wp2
  go_quiet ((go_at_call 48; exact Calls.quiet_of_same (k'.out _)))
  go_wp2
  rw [rounds_succ]
  go_wp2
  go_ret
  rw [setCell_drewN, World.drewN_drewN]
  exact ⟨rfl, _, rfl⟩

theorem carry01 {x c : Int} (h0 : 0 ≤ x) (h1 : x < 18446744073709551616) (c0 : 0 ≤ c) (c1 : c ≤ 1) : (x + c) / 18446744073709551616 = 0 ∨ (x + c) / 18446744073709551616 = 1 := by omega

set_option maxHeartbeats 1000000 in
/-- addVW of one word, in place. -/
theorem addVW1_same (gz oz cz cx : Nat) (x0 c : Int) (w : World) (hx : w.cell? ⟨gz, oz, none⟩ = some (.int .u64 x0)) (fz : w.frozen? ⟨gz, oz, none⟩ = false)
    (x1 : 0 ≤ x0) (x2 : x0 < 18446744073709551616) (c0 : 0 ≤ c) (c1 : c ≤ 1) :
    Calls Yba.prog 47 #[.slice (some ⟨gz, oz, none⟩) 1 cz, .slice (some ⟨gz, oz, none⟩) 1 cx, .int .u64 c] w fun e w' =>
      e = .returned (.int .u64 ((x0 + c) / 18446744073709551616)) ∧ ∃ q, w' = (w.drewN q).setCell ⟨gz, oz, none⟩ (.int .u64 ((x0 + c) % 18446744073709551616)) := by
  have hcc := carry01 x1 x2 c0 c1
  obtain ⟨s, hs⟩ : ∃ s, (x0 + c) % 18446744073709551616 = s := ⟨_, rfl⟩
  obtain ⟨d, hd⟩ : ∃ d, (x0 + c) / 18446744073709551616 = d := ⟨_, rfl⟩
  have k : Hid (∀ w, Calls Yba.prog 48 #[.int .u64 x0, .int .u64 c, .int .u64 0] w fun e w' => e = .returned (.tuple #[.int .u64 s, .int .u64 d]) ∧ w' = w) := fun w => by
    have := bitsAdd_any x0 c 0 x1 c0 (by omega) (by omega) w
    rw [Int.add_zero, hs, hd] at this
    exact this
  rw [hs, hd]
  rw [hd] at hcc
  clear hs hd
  have hneq := fun w => neq_words_same ⟨gz, oz, none⟩ w
  rcases hcc with hdz | hdz
  · subst hdz
    go_enter Yba.func47, Yba.ntmps47
    go_wp2_with (go_at_call 48; refine (k.out _).mono ?_; rintro e w' ⟨rfl, hw⟩; subst hw)
    go_quiet (fail)
    go_wp2
    go_ret
    rw [setCell_drewN]
    exact ⟨rfl, _, rfl⟩
  · subst hdz
    go_enter Yba.func47, Yba.ntmps47
    go_wp2_with (go_at_call 48; refine (k.out _).mono ?_; rintro e w' ⟨rfl, hw⟩; subst hw)
    refine wp_loop_rounds 1 ?_
    rw [rounds_succ]
    go_wp2
    go_ret
    exact ⟨rfl, 0, rfl⟩

theorem size41 : (Yba.prog.info? 41).map (·.size) = some 1 := by kernel_rfl

set_option maxHeartbeats 1000000 in
/-- addVW of one word, into another row. -/
theorem addVW1_other (gz oz cz gx ox cx : Nat) (x0 c z0 : Int) (vs vs' : List Value) (w : World) (hne : gz ≠ gx) (rz : RowAt w gz 41 vs) (rx : RowAt w gx 41 vs') (hx : w.cell? ⟨gx, ox, none⟩ = some (.int .u64 x0)) (hz : w.cell? ⟨gz, oz, none⟩ = some (.int .u64 z0))
    (x1 : 0 ≤ x0) (x2 : x0 < 18446744073709551616) (c0 : 0 ≤ c) (c1 : c ≤ 1) (hcz : 1 < cz) (hcx : 1 < cx) (hcz' : cz ≤ 7) (hcx' : cx ≤ 7) :
    Calls Yba.prog 47 #[.slice (some ⟨gz, oz, none⟩) 1 cz, .slice (some ⟨gx, ox, none⟩) 1 cx, .int .u64 c] w fun e w' =>
      e = .returned (.int .u64 ((x0 + c) / 18446744073709551616)) ∧ ∃ q, w' = (w.drewN q).setCell ⟨gz, oz, none⟩ (.int .u64 ((x0 + c) % 18446744073709551616)) := by
  have hcc := carry01 x1 x2 c0 c1
  obtain ⟨s, hs⟩ : ∃ s, (x0 + c) % 18446744073709551616 = s := ⟨_, rfl⟩
  obtain ⟨d, hd⟩ : ∃ d, (x0 + c) / 18446744073709551616 = d := ⟨_, rfl⟩
  have k : Hid (∀ w, Calls Yba.prog 48 #[.int .u64 x0, .int .u64 c, .int .u64 0] w fun e w' => e = .returned (.tuple #[.int .u64 s, .int .u64 d]) ∧ w' = w) := fun w => by
    have := bitsAdd_any x0 c 0 x1 c0 (by omega) (by omega) w
    rw [Int.add_zero, hs, hd] at this
    exact this
  rw [hs, hd]
  rw [hd] at hcc
  clear hs hd
  have fz := rz.frozen oz
  have hneq : ∀ n, (binOp .neq 99 (.pointer (some ⟨gz, oz, none⟩)) (.pointer (some ⟨gx, ox, none⟩))).run Yba.prog ((w.setCell ⟨gz, oz, none⟩ (.int .u64 s)).drewN n) = .ok (.bool true) ((w.setCell ⟨gz, oz, none⟩ (.int .u64 s)).drewN n) := fun n =>
    neq_words_other _ hne ((rz.set oz _).drewN n) ((rx.other (fun h => hne h.symm) _).drewN n)
  have hcp := fun (w : World) (ty : TypeId) (a b : Option Addr) (c c' : Nat) => run_copy_none (P := Yba.prog) w 38 38 ty 41 a b 0 c 0 c' Yba.underlying38 size41 rfl
  rcases hcc with hdz | hdz
  · subst hdz
    clear rz rx
    go_enter Yba.func47, Yba.ntmps47
    go_wp2_with (go_at_call 48; refine (k.out _).mono ?_; rintro e w' ⟨rfl, hw⟩; subst hw)
    go_quiet (fail)
    go_wp2
    go_region
    all_goals
      go_wp2
      go_ret
      rw [setCell_drewN]
      exact ⟨rfl, _, rfl⟩
  · subst hdz
    clear rz rx hneq hcp
    go_enter Yba.func47, Yba.ntmps47
    go_wp2_with (go_at_call 48; refine (k.out _).mono ?_; rintro e w' ⟨rfl, hw⟩; subst hw)
    refine wp_loop_rounds 1 ?_
    rw [rounds_succ]
    go_wp2
    go_ret
    exact ⟨rfl, 0, rfl⟩
end Go.Proofs.Ybulkcwhe
