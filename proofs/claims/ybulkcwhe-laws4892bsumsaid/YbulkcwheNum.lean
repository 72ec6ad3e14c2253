import Derived.Test.YbulkcwheIntAdd
namespace Go.Proofs.Ybulkcwhe
open Go.RowKit

set_option maxHeartbeats 400000 in
/-- zzs4892bnum: small. -/
theorem num_small (lo : Int) (w : World) : Calls Yba.prog 10 #[.int .u64 lo, .int .u64 0, .bool false] w fun e w' => e = .returned (.agg #[.int .u64 lo, .pointer none]) ∧ Below w.heap.size w w' := by
  go_enter Yba.func10, Yba.ntmps10
  go_wp2
  refine bodyPost_ret (v := .agg #[.int .u64 lo, .pointer none]) (by simp [results, Yba.results10, go_sem]) rfl ⟨rfl, ?_⟩
  exact (Below.refl _ w).alloc (Nat.le_refl _) _

/-- The sum inside zzs4892bnum. -/
theorem addW_num (lo hi : Int) (a : Word lo) (b : Word hi) : addW (if hi = 0 then [] else [0, hi]) (one lo) = wN lo hi := by
  obtain ⟨a1, a2⟩ := a; obtain ⟨b1, b2⟩ := b
  unfold wN
  by_cases hh : hi = 0
  · simp [hh, addW]
  · rw [if_neg hh, if_neg hh]
    unfold one
    by_cases hl : lo = 0
    · simp [hl, addW]
    · rw [if_neg hl]
      simp only [addW]
      rw [show (0 + lo) % 18446744073709551616 = lo by omega, show (0 + lo) / 18446744073709551616 = 0 by omega, show (hi + 0) % 18446744073709551616 = hi by omega, show (hi + 0) / 18446744073709551616 = 0 by omega, nrm_zero]
      simp [wN, hh]

theorem IntR.set {w : World} {B gz : Nat} {ws : List Int} (h : IntR w B gz ws) {a : Addr} (ha : a.block < B) (v : Value) : IntR (w.setCell a v) B gz ws := by
  obtain ⟨h1, x, c, h2, h3, h4, h5⟩ := h
  refine ⟨h1, x, c, h2.other (by omega) _, h3, h4, ?_⟩
  rcases h5 with h5 | ⟨hn, g, rest, h5, h6, h7⟩
  · exact .inl h5
  · exact .inr ⟨hn, g, rest, h5, h6, h7.other (by omega) _⟩

set_option linter.unusedSimpArgs false in
set_option maxHeartbeats 1000000 in
/-- zzs4892bnum: large. -/
theorem num_big (lo hi : Int) (fb : Bool) (w : World) (wl : Word lo) (wh : Word hi) (hd : ((hi == 0) && !fb) = false) :
    Calls Yba.prog 10 #[.int .u64 lo, .int .u64 hi, .bool fb] w fun e w' => ∃ gz, e = .returned (.agg #[.int .u64 0, .pointer (some ⟨gz, 0, none⟩)]) ∧ IntR w' w.heap.size gz (wN lo hi) ∧ Below w.heap.size w w' := by
  have k1 : Hid (∀ B gz w, B ≤ gz → RowAt w gz 68 [.bool false, .slice none 0 0] → Calls Yba.prog 22 #[.pointer (some ⟨gz, 0, none⟩), .int .u64 hi] w fun e w' => e = .returned (.pointer (some ⟨gz, 0, none⟩)) ∧ IntS w' B gz (one hi) ∧ Below B w w') := fun B gz w h1 h2 => isetU_any B gz hi w h1 h2
  have k2 : Hid (∀ B gz w, B ≤ gz → RowAt w gz 68 [.bool false, .slice none 0 0] → Calls Yba.prog 22 #[.pointer (some ⟨gz, 0, none⟩), .int .u64 lo] w fun e w' => e = .returned (.pointer (some ⟨gz, 0, none⟩)) ∧ IntS w' B gz (one lo) ∧ Below B w w') := fun B gz w h1 h2 => isetU_any B gz lo w h1 h2
  have k3 : Hid (∀ B gz w, IntS w B gz (one hi) → Calls Yba.prog 23 #[.pointer (some ⟨gz, 0, none⟩), .pointer (some ⟨gz, 0, none⟩), .int .u64 64] w fun e w' => e = .returned (.pointer (some ⟨gz, 0, none⟩)) ∧ IntS w' B gz (if hi = 0 then [] else [0, hi]) ∧ Below B w w') := fun B gz w h => ilsh_any B gz hi w h
  have k4 : Hid (∀ B gz gy By w, IntS w B gz (if hi = 0 then [] else [0, hi]) → IntS w By gy (one lo) → Calls Yba.prog 24 #[.pointer (some ⟨gz, 0, none⟩), .pointer (some ⟨gz, 0, none⟩), .pointer (some ⟨gy, 0, none⟩)] w fun e w' => e = .returned (.pointer (some ⟨gz, 0, none⟩)) ∧ IntR w' B gz (wN lo hi) ∧ Below B w w') := fun B gz gy By w h1 h2 => by
    have h := iadd_any B gz gy By _ _ w h1 h2 (by
      intro v hv
      by_cases hh : hi = 0
      · simp [hh] at hv
      · simp [hh] at hv
        rcases hv with rfl | rfl
        · exact ⟨by omega, by omega⟩
        · exact wh) (by
      intro v hv
      unfold one at hv
      split at hv
      · simp at hv
      · simp at hv; subst hv; exact wl) (by
      rw [addW_num lo hi wl wh]
      intro hx _
      by_cases hh : hi = 0
      · simp [hh] at hx
      · simp [wN, hh])
    rw [addW_num lo hi wl wh] at h
    exact h
  have R0 : Hid (RowAt ((w.alloc (.cells #[.int .u64 0, .pointer none] 31)).alloc (.cells #[.bool false, .slice none 0 0] 68)) (w.heap.size + 1) 68 [.bool false, .slice none 0 0]) := by
    have := RowAt.new (w.alloc (.cells #[.int .u64 0, .pointer none] 31)) 68 [.bool false, .slice none 0 0]
    rw [show (w.alloc (.cells #[.int .u64 0, .pointer none] 31)).heap.size = w.heap.size + 1 by simp] at this
    exact this
  rcases hh : (hi == 0) with _ | _
  · clear hd
    go_enter Yba.func10, Yba.ntmps10
    go_wp2_with fail
    refine (k1.out (w.heap.size + 1) (w.heap.size + 1) _ (Nat.le_refl _) R0.out).mono ?_
    rintro e w1 ⟨rfl, s1, b1⟩
    have S1 := hid s1
    have B1 := hid b1
    clear s1 b1
    go_wp2_with fail
    refine (k3.out _ _ _ S1.out).mono ?_
    rintro e w2 ⟨rfl, s2, b2⟩
    have S2 := hid s2
    have B2 := hid b2
    clear s2 b2
    go_wp2_with fail
    refine (k2.out w2.heap.size w2.heap.size _ (Nat.le_refl _) (RowAt.new w2 68 [.bool false, .slice none 0 0])).mono ?_
    rintro e w3 ⟨rfl, s3, b3⟩
    have ba : Below w2.heap.size w2 w3 := ((Below.refl _ w2).alloc (Nat.le_refl _) _).trans b3
    have S3 := hid s3
    have B3 := hid ba
    have S2' := hid (S2.out.later ba)
    clear s3 b3 ba
    go_wp2_with fail
    refine (k4.out _ _ _ _ _ S2'.out S3.out).mono ?_
    rintro e w4 ⟨rfl, s4, b4⟩
    have z2 : w.heap.size + 1 < w2.heap.size := S2.out.lt
    have bb : Below (w.heap.size + 1) ((w.alloc (.cells #[.int .u64 0, .pointer none] 31)).alloc (.cells #[.bool false, .slice none 0 0] 68)) w4 := ((B1.out.trans B2.out).trans (B3.out.mono (by omega))).trans b4
    have r0 : RowAt ((w.alloc (.cells #[.int .u64 0, .pointer none] 31)).alloc (.cells #[.bool false, .slice none 0 0] 68)) w.heap.size 31 [.int .u64 0, .pointer none] := (RowAt.new w 31 _).alloc _
    have r4 := r0.below bb (by omega)
    have q0 : w4.cell? ⟨w.heap.size, 0, none⟩ = some (.int .u64 0) := by rw [r4.cell]; rfl
    have q1 : w4.cell? ⟨w.heap.size, 1, none⟩ = some (.pointer none) := by rw [r4.cell]; rfl
    have g0 := r4.frozen 0
    have g1 := r4.frozen 1
    have bw : Below w.heap.size w w4 := (((Below.refl _ w).alloc (Nat.le_refl _) _).alloc (by simp) _).trans (bb.mono (by omega))
    have S4 := hid s4
    have BW := hid bw
    have lw : w.heap.size < w4.heap.size := r4.lt
    clear s4 b4 bb r0 r4 bw z2
    go_wp2
    refine bodyPost_ret (v := .agg #[.int .u64 0, .pointer (some ⟨w.heap.size + 1, 0, none⟩)]) (by simp [results, Yba.results10, go_sem, q0, q1, lw]) rfl ?_
    refine ⟨w.heap.size + 1, rfl, ((S4.out.set (show w.heap.size < w.heap.size + 1 by omega) _).set (show w.heap.size < w.heap.size + 1 by omega) _).mono (by omega), ?_⟩
    exact (BW.out.setCell (by simp) _).setCell (by simp) _
  · have hfb : fb = true := by simpa [hh] using hd
    subst hfb
    clear hd
    go_enter Yba.func10, Yba.ntmps10
    go_wp2_with fail
    refine (k1.out (w.heap.size + 1) (w.heap.size + 1) _ (Nat.le_refl _) R0.out).mono ?_
    rintro e w1 ⟨rfl, s1, b1⟩
    have S1 := hid s1
    have B1 := hid b1
    clear s1 b1
    go_wp2_with fail
    refine (k3.out _ _ _ S1.out).mono ?_
    rintro e w2 ⟨rfl, s2, b2⟩
    have S2 := hid s2
    have B2 := hid b2
    clear s2 b2
    go_wp2_with fail
    refine (k2.out w2.heap.size w2.heap.size _ (Nat.le_refl _) (RowAt.new w2 68 [.bool false, .slice none 0 0])).mono ?_
    rintro e w3 ⟨rfl, s3, b3⟩
    have ba : Below w2.heap.size w2 w3 := ((Below.refl _ w2).alloc (Nat.le_refl _) _).trans b3
    have S3 := hid s3
    have B3 := hid ba
    have S2' := hid (S2.out.later ba)
    clear s3 b3 ba
    go_wp2_with fail
    refine (k4.out _ _ _ _ _ S2'.out S3.out).mono ?_
    rintro e w4 ⟨rfl, s4, b4⟩
    have z2 : w.heap.size + 1 < w2.heap.size := S2.out.lt
    have bb : Below (w.heap.size + 1) ((w.alloc (.cells #[.int .u64 0, .pointer none] 31)).alloc (.cells #[.bool false, .slice none 0 0] 68)) w4 := ((B1.out.trans B2.out).trans (B3.out.mono (by omega))).trans b4
    have r0 : RowAt ((w.alloc (.cells #[.int .u64 0, .pointer none] 31)).alloc (.cells #[.bool false, .slice none 0 0] 68)) w.heap.size 31 [.int .u64 0, .pointer none] := (RowAt.new w 31 _).alloc _
    have r4 := r0.below bb (by omega)
    have q0 : w4.cell? ⟨w.heap.size, 0, none⟩ = some (.int .u64 0) := by rw [r4.cell]; rfl
    have q1 : w4.cell? ⟨w.heap.size, 1, none⟩ = some (.pointer none) := by rw [r4.cell]; rfl
    have g0 := r4.frozen 0
    have g1 := r4.frozen 1
    have bw : Below w.heap.size w w4 := (((Below.refl _ w).alloc (Nat.le_refl _) _).alloc (by simp) _).trans (bb.mono (by omega))
    have S4 := hid s4
    have BW := hid bw
    have lw : w.heap.size < w4.heap.size := r4.lt
    clear s4 b4 bb r0 r4 bw z2
    go_wp2
    refine bodyPost_ret (v := .agg #[.int .u64 0, .pointer (some ⟨w.heap.size + 1, 0, none⟩)]) (by simp [results, Yba.results10, go_sem, q0, q1, lw]) rfl ?_
    refine ⟨w.heap.size + 1, rfl, ((S4.out.set (show w.heap.size < w.heap.size + 1 by omega) _).set (show w.heap.size < w.heap.size + 1 by omega) _).mono (by omega), ?_⟩
    exact (BW.out.setCell (by simp) _).setCell (by simp) _
end Go.Proofs.Ybulkcwhe
